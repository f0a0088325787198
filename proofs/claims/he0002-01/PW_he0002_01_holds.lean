import PyProof.Rows.All
import Wide.All
import OpenK.AllK
import Wide.FinOn
import PyProof.GenComp
import PyProof.AttrMissHeap
import KE.KDictOf
import PySem.Challenge.RW_he0002_01
set_option Elab.async false
set_option genInjectivity false
set_option genSizeOf false
namespace Mine
open PySem

/-- symbolic ints: not below nought -/
inductive SE where
  | v (i : Nat)
  | k (n : Nat)
  | add (a b : SE)
  | mul (a b : SE)
  | mn (a b : SE)

noncomputable def SE.val (ρ : Nat → Int) : SE → Int
  | .v i => ρ i
  | .k n => (n : Int)
  | .add a b => a.val ρ + b.val ρ
  | .mul a b => a.val ρ * b.val ρ
  | .mn a b => min (a.val ρ) (b.val ρ)
noncomputable def SE.ub : SE → Nat
  | .v _ => 9
  | .k n => n
  | .add a b => a.ub + b.ub
  | .mul a b => a.ub * b.ub
  | .mn a _ => a.ub

/-- by-value data -/
inductive AV where
  | bool (b : Bool)
  | int (z : Int)
  | sym (e : SE)
  | str (l : List Nat)
  | tup (l : List AV)
  | list (l : List AV)
  | edict

/-- what a frame turns in place: a list that grows, a table by pairs of ints -/
inductive MO where
  | lst (l : List AV)
  | tab (l : List ((Int × Int) × AV))

mutual
inductive ME where
  | int (n : Int)
  | bool (b : Bool)
  | str (l : List Nat)
  | var (i : Nat)
  | fre (i : Nat)
  | add (a b : ME)
  | sub (a b : ME)
  | mul (a b : ME)
  | eq (a b : ME)
  | ne (a b : ME)
  | lt (a b : ME)
  | gt (a b : ME)
  | and (a b : ME)
  | or (a b : ME)
  | not (a : ME)
  | ife (c a b : ME)
  | tup (l : List ME)
  | list (l : List ME)
  | edict
  | idx (a i : ME)
  | slFrom (a : ME) (k : Nat)
  | slTo (a : ME) (k : Nat)
  | rev (a : ME)
  | tab (j : Nat) (a b : ME)
  | call (f : Nat) (l : List ME)
  | len (a : ME)
  | lenDict (a : ME)
  | min (a : ME)
  | mod (a : ME) (k : Nat)
  | max2 (a b : ME)
  | min2 (a b : ME)
  | slToE (a b : ME)
  | comp (elt : ME) (tg : Option Nat) (it : MI) (cond : Option ME)
inductive MI where
  | ex (e : ME)
  | range1 (a : ME)
  | range2 (a b : ME)
end

inductive MS where
  | assign (i : Nat) (e : ME)
  | assignT (is : List Nat) (e : ME)
  | newL (i : Nat)
  | newT (i j : Nat) (e : ME)
  | app (i : Nat) (e : ME)
  | setTab (j : Nat) (a b e : ME)
  | iff (c : ME) (t : List MS)
  | for1 (i : Nat) (it : MI) (body : List MS)
  | forT (is : List Nat) (it : MI) (body : List MS)
  | forItems (i : Nat)
  | ret (e : ME)
  | retM (i : Nat)

/-! the normal form of a symbolic int: a list of sums, each a list of (monomial, coefficient), for «the least of» -/
abbrev Mono := List Nat
abbrev Poly := List (Mono × Nat)
noncomputable def insN (a : Nat) : List Nat → List Nat
  | [] => [a]
  | b :: r => if a ≤ b then a :: b :: r else b :: insN a r
noncomputable def mulM : Mono → Mono → Mono
  | [], m => m
  | a :: r, m => insN a (mulM r m)
noncomputable def ltL : List Nat → List Nat → Bool
  | [], [] => false
  | [], _ :: _ => true
  | _ :: _, [] => false
  | a :: r, b :: s => if a < b then true else if b < a then false else ltL r s
noncomputable def eqL : List Nat → List Nat → Bool
  | [], [] => true
  | a :: r, b :: s => Nat.beq a b && eqL r s
  | _, _ => false
noncomputable def addT (m : Mono) (c : Nat) : Poly → Poly
  | [] => [(m, c)]
  | (m', c') :: r => if eqL m m' then (m', c + c') :: r else if ltL m m' then (m, c) :: (m', c') :: r else (m', c') :: addT m c r
noncomputable def addP : Poly → Poly → Poly
  | [], q => q
  | (m, c) :: r, q => addT m c (addP r q)
noncomputable def mulT (m : Mono) (c : Nat) : Poly → Poly
  | [] => []
  | (m', c') :: r => addT (mulM m m') (c * c') (mulT m c r)
noncomputable def mulP : Poly → Poly → Poly
  | [], _ => []
  | (m, c) :: r, q => addP (mulT m c q) (mulP r q)
noncomputable def ltP : Poly → Poly → Bool
  | [], [] => false
  | [], _ :: _ => true
  | _ :: _, [] => false
  | (m, c) :: r, (m', c') :: s => if ltL m m' then true else if ltL m' m then false else if c < c' then true else if c' < c then false else ltP r s
noncomputable def eqP : Poly → Poly → Bool
  | [], [] => true
  | (m, c) :: r, (m', c') :: s => eqL m m' && Nat.beq c c' && eqP r s
  | _, _ => false
noncomputable def insP (p : Poly) : List Poly → List Poly
  | [] => [p]
  | q :: r => if eqP p q then q :: r else if ltP p q then p :: q :: r else q :: insP p r
noncomputable def merge : List Poly → List Poly → List Poly
  | [], q => q
  | p :: r, q => insP p (merge r q)
noncomputable def mapAdd (p : Poly) : List Poly → List Poly
  | [] => []
  | q :: r => insP (addP p q) (mapAdd p r)
noncomputable def addN : List Poly → List Poly → List Poly
  | [], _ => []
  | p :: r, q => merge (mapAdd p q) (addN r q)
noncomputable def mapMul (p : Poly) : List Poly → List Poly
  | [] => []
  | q :: r => insP (mulP p q) (mapMul p r)
noncomputable def mulN : List Poly → List Poly → List Poly
  | [], _ => []
  | p :: r, q => merge (mapMul p q) (mulN r q)
noncomputable def SE.nf : SE → List Poly
  | .v i => [[([i], 1)]]
  | .k n => [if n = 0 then [] else [([], n)]]
  | .add a b => addN a.nf b.nf
  | .mul a b => mulN a.nf b.nf
  | .mn a b => merge a.nf b.nf
noncomputable def eqN : List Poly → List Poly → Bool
  | [], [] => true
  | p :: r, q :: s => eqP p q && eqN r s
  | _, _ => false

noncomputable def AV.sym? : AV → Option SE
  | .sym e => some e
  | .int z => if 0 ≤ z then some (.k z.toNat) else none
  | _ => none

noncomputable def bigLine : Nat := 1000000

noncomputable def bin {β : Type} (x y : Option AV) (f : AV → AV → Option β) : Option β := x.bind fun a => y.bind fun b => f a b
noncomputable def when {α : Type} (b : Bool) (x : Option α) : Option α := cond b x none
noncomputable def AV.b? : AV → Option Bool
  | .bool t => some t
  | _ => none
noncomputable def AV.i? : AV → Option Int
  | .int z => some z
  | _ => none
noncomputable def AV.l? : AV → Option (List AV)
  | .list l => some l
  | _ => none
noncomputable def AV.t? : AV → Option (List AV)
  | .tup l => some l
  | _ => none
noncomputable def onB {β : Type} (x : Option AV) (f : Bool → Option β) : Option β := x.bind fun v => v.b?.bind f
noncomputable def onI {β : Type} (x : Option AV) (f : Int → Option β) : Option β := x.bind fun v => v.i?.bind f
noncomputable def onL {β : Type} (x : Option AV) (f : List AV → Option β) : Option β := x.bind fun v => v.l?.bind f
noncomputable def AV.s? : AV → Option (List Nat)
  | .str l => some l
  | _ => none
noncomputable def two? : List AV → Option (AV × AV)
  | [a, b] => some (a, b)
  | _ => none
noncomputable def AV.p? (v : AV) : Option (AV × AV) := v.t?.bind two?
noncomputable def AV.ii? (v : AV) : Option (Int × Int) := v.p?.bind fun p => p.1.i?.bind fun a => p.2.i?.bind fun b => some (a, b)
noncomputable def AV.seq? : AV → Option (List AV)
  | .list l => some l
  | .tup l => some l
  | _ => none
noncomputable def on2 {γ β : Type} (g : AV → Option γ) (f : γ → γ → Option β) (x y : AV) : Option β := (g x).bind fun a => (g y).bind fun b => f a b
noncomputable def onII {β : Type} (f : Int → Int → Option β) (a b : AV) : Option β := on2 AV.i? f a b
noncomputable def alt {β : Type} (o p : Option β) : Option β := match o with
  | some a => some a
  | none => p
/-! what they tell -/
theorem bd {α β : Type} {x : Option α} {f : α → Option β} {v : β} (h : x.bind f = some v) : ∃ a, x = some a ∧ f a = some v := Option.bind_eq_some_iff.mp h
theorem bin_ok {β : Type} {x y : Option AV} {f : AV → AV → Option β} {v : β} (h : bin x y f = some v) : ∃ a b, x = some a ∧ y = some b ∧ f a b = some v :=
  let ⟨a, h1, h2⟩ := bd h; let ⟨b, h3, h4⟩ := bd h2; ⟨a, b, h1, h3, h4⟩
theorem when_ok {α : Type} {b : Bool} {x : Option α} {v : α} (h : when b x = some v) : b = true ∧ x = some v := by
  cases b
  · cases h
  · exact ⟨rfl, h⟩
theorem AV.b?_ok {v : AV} {t : Bool} (h : v.b? = some t) : v = .bool t := by cases v <;> cases h; rfl
theorem AV.i?_ok {v : AV} {t : Int} (h : v.i? = some t) : v = .int t := by cases v <;> cases h; rfl
theorem AV.l?_ok {v : AV} {t : List AV} (h : v.l? = some t) : v = .list t := by cases v <;> cases h; rfl
theorem AV.t?_ok {v : AV} {t : List AV} (h : v.t? = some t) : v = .tup t := by cases v <;> cases h; rfl
theorem onB_ok {β : Type} {x : Option AV} {f : Bool → Option β} {v : β} (h : onB x f = some v) : ∃ t, x = some (.bool t) ∧ f t = some v :=
  let ⟨a, h1, h2⟩ := bd h; let ⟨b, h3, h4⟩ := bd h2; ⟨b, AV.b?_ok h3 ▸ h1, h4⟩
theorem onI_ok {β : Type} {x : Option AV} {f : Int → Option β} {v : β} (h : onI x f = some v) : ∃ t, x = some (.int t) ∧ f t = some v :=
  let ⟨a, h1, h2⟩ := bd h; let ⟨b, h3, h4⟩ := bd h2; ⟨b, AV.i?_ok h3 ▸ h1, h4⟩
theorem onL_ok {β : Type} {x : Option AV} {f : List AV → Option β} {v : β} (h : onL x f = some v) : ∃ t, x = some (.list t) ∧ f t = some v :=
  let ⟨a, h1, h2⟩ := bd h; let ⟨b, h3, h4⟩ := bd h2; ⟨b, AV.l?_ok h3 ▸ h1, h4⟩
theorem on2_ok {γ β : Type} {g : AV → Option γ} {f : γ → γ → Option β} {x y : AV} {v : β} (h : on2 g f x y = some v) : ∃ a b, g x = some a ∧ g y = some b ∧ f a b = some v :=
  let ⟨a, h1, h2⟩ := bd h; let ⟨b, h3, h4⟩ := bd h2; ⟨a, b, h1, h3, h4⟩
theorem alt_ok {β : Type} {o p : Option β} {v : β} (h : alt o p = some v) : o = some v ∨ p = some v := by
  cases o
  · exact .inr h
  · exact .inl h
theorem AV.s?_ok {v : AV} {t : List Nat} (h : v.s? = some t) : v = .str t := by cases v <;> cases h; rfl
theorem AV.seq?_ok {v : AV} {t : List AV} (h : v.seq? = some t) : v = .list t ∨ v = .tup t := by cases v <;> cases h <;> first | exact .inl rfl | exact .inr rfl
theorem two?_ok : ∀ {l : List AV} {p : AV × AV}, two? l = some p → l = [p.1, p.2]
  | [], _, h => by cases h
  | [_], _, h => by cases h
  | [_, _], _, h => by cases h; rfl
  | _ :: _ :: _ :: _, _, h => by cases h
theorem AV.p?_ok {v : AV} {p : AV × AV} (h : v.p? = some p) : v = .tup [p.1, p.2] :=
  let ⟨l, h1, h2⟩ := bd h; two?_ok h2 ▸ AV.t?_ok h1
theorem AV.ii?_ok {v : AV} {p : Int × Int} (h : v.ii? = some p) : v = .tup [.int p.1, .int p.2] := by
  obtain ⟨q, h1, h2⟩ := bd h
  obtain ⟨a, h3, h4⟩ := bd h2
  obtain ⟨b, h5, h6⟩ := bd h4
  cases h6
  rw [AV.p?_ok h1, AV.i?_ok h3, AV.i?_ok h5]
theorem onII_ok {β : Type} {f : Int → Int → Option β} {a b : AV} {v : β} (h : onII f a b = some v) : ∃ x y, a = .int x ∧ b = .int y ∧ f x y = some v :=
  let ⟨x, h1, h2⟩ := bd h; let ⟨y, h3, h4⟩ := bd h2; ⟨x, y, AV.i?_ok h1, AV.i?_ok h3, h4⟩
theorem bini_ok {β : Type} {x y : Option AV} {f : Int → Int → Option β} {v : β} (h : bin x y (onII f) = some v) : ∃ a b, x = some (.int a) ∧ y = some (.int b) ∧ f a b = some v :=
  let ⟨a, b, h1, h2, h3⟩ := bin_ok h; let ⟨x, y, h4, h5, h6⟩ := onII_ok h3; ⟨x, y, h4 ▸ h1, h5 ▸ h2, h6⟩
noncomputable def smallZ (z : Int) : Bool := decide (-1000 ≤ z) && decide (z ≤ 1000)
noncomputable def addV (x y : AV) : Option AV := alt (onII (fun a b => some (.int (a + b))) x y) (alt (on2 AV.s? (fun a b => when (Nat.ble (a.length + b.length) 1000) (some (.str (a ++ b)))) x y)
  (alt (on2 AV.l? (fun a b => when (Nat.ble (a.length + b.length) 1000) (some (.list (a ++ b)))) x y) (on2 AV.sym? (fun a b => when (Nat.ble (a.ub + b.ub) bigLine) (some (.sym (.add a b)))) x y)))
noncomputable def subV : AV → AV → Option AV := onII fun a b => some (.int (a - b))
noncomputable def mulV (x y : AV) : Option AV := alt (onII (fun a b => when (smallZ a && smallZ b) (some (.int (a * b)))) x y) (on2 AV.sym? (fun a b => when (Nat.ble a.ub bigLine && Nat.ble b.ub bigLine) (some (.sym (.mul a b)))) x y)
noncomputable def eqV (x y : AV) : Option Bool := alt (onII (fun a b => some (decide (a = b))) x y) (alt (on2 AV.ii? (fun p q => some (decide (p.1 = q.1) && decide (p.2 = q.2))) x y)
  (alt (on2 AV.l? (fun l m => when (l.isEmpty && m.isEmpty) (some true)) x y) (on2 AV.sym? (fun a b => when (eqN a.nf b.nf) (some true)) x y)))
noncomputable def AV.strKey? (v : AV) : Option (List Nat) := v.p?.bind fun p => p.2.i?.bind fun _ => p.1.s?
noncomputable def AV.pairKey? (v : AV) : Option (List Int) := v.p?.bind fun p => p.2.i?.bind fun _ => p.1.ii?.bind fun q => some [q.1, q.2]
noncomputable def small (n : Nat) : Bool := Nat.ble n 1000
noncomputable def idxV (x y : AV) : Option AV := y.i?.bind fun k => when (decide (0 ≤ k) && decide (k ≤ 1000)) (x.seq?.bind fun l => l[k.toNat]?)

noncomputable def symsOf : List AV → Option (List SE)
  | [] => some []
  | x :: r => match x.sym?, symsOf r with
    | some e, some es => some (e :: es)
    | _, _ => none
noncomputable def minSE (a : SE) : List SE → SE
  | [] => a
  | b :: r => minSE (.mn a b) r

noncomputable def eqLI : List Int → List Int → Bool
  | [], [] => true
  | a :: r, b :: s => decide (a = b) && eqLI r s
  | _, _ => false
noncomputable def optAll {α β : Type} (f : α → Option β) : List α → Option (List β)
  | [] => some []
  | a :: r => match f a, optAll f r with
    | some b, some bs => some (b :: bs)
    | _, _ => none
noncomputable def distinct {α : Type} (eq : α → α → Bool) : List α → List α → List α
  | acc, [] => acc
  | acc, a :: r => if acc.any (eq a) then distinct eq acc r else distinct eq (acc ++ [a]) r
noncomputable def lenDictV : AV → Option AV
  | .list l => match optAll AV.strKey? l with
    | some ks => some (.int (distinct eqL [] ks).length)
    | none => match optAll AV.pairKey? l with
      | some ks => some (.int (distinct eqLI [] ks).length)
      | none => none
  | _ => none

noncomputable def lookT (x y : Int) : List ((Int × Int) × AV) → Option AV
  | [] => none
  | ((a, b), v) :: r => if decide (a = x) && decide (b = y) then some v else lookT x y r

noncomputable def rangeL (a : Int) : Nat → List AV
  | 0 => []
  | n + 1 => .int a :: rangeL (a + 1) n

structure Ctx where
  own : List (Option AV)
  out : List (Option AV)
  mu : Option (Nat × MO)
structure St where
  vars : List (Option AV)
  mu : Option (Nat × MO)
structure Rec where
  ev : Ctx → ME → Option AV
  ex : St → MS → Option (Option AV × St)
  call : Nat → List AV → Option AV

noncomputable def getV : List (Option AV) → Nat → Option AV
  | [], _ => none
  | x :: _, 0 => x
  | _ :: r, n + 1 => getV r n
noncomputable def setV (v : AV) : List (Option AV) → Nat → List (Option AV)
  | [], _ => []
  | _ :: r, 0 => some v :: r
  | x :: r, n + 1 => x :: setV v r n
noncomputable def clrV : List (Option AV) → Nat → List (Option AV)
  | [], _ => []
  | _ :: r, 0 => none :: r
  | x :: r, n + 1 => x :: clrV r n

noncomputable def evs (r : Rec) (c : Ctx) : List ME → Option (List AV)
  | [] => some []
  | e :: es => match r.ev c e with
    | none => none
    | some v => match evs r c es with
      | none => none
      | some vs => some (v :: vs)
noncomputable def bindT : Option Nat → AV → Option (List (Option AV))
  | none, v => some [some v]
  | some k, .tup l => if Nat.beq l.length k then some (l.map some) else none
  | _, _ => none
noncomputable def condV (r : Rec) (c : Ctx) : Option ME → Option AV
  | none => some (.bool true)
  | some e => r.ev c e
noncomputable def slToV (k : Nat) : AV → Option AV
  | .list l => when (small l.length && small k) (some (.list (l.take k)))
  | .tup l => when (small l.length && Nat.blt k l.length && Nat.blt 0 k) (some (.tup (l.take k)))
  | _ => none
noncomputable def onMl {β : Type} (mu : Option (Nat × MO)) (f : Nat → List AV → Option β) : Option β := match mu with
  | some (j, .lst l) => f j l
  | _ => none
noncomputable def onMt {β : Type} (mu : Option (Nat × MO)) (f : Nat → List ((Int × Int) × AV) → Option β) : Option β := match mu with
  | some (j, .tab l) => f j l
  | _ => none
noncomputable def tabV (mu : Option (Nat × MO)) (j : Nat) (x y : Int) : Option AV := onMt mu fun j' es => when (Nat.beq j j') (lookT x y es)
noncomputable def AV.isEd : AV → Bool
  | .edict => true
  | _ => false
noncomputable def lenV : AV → Option AV
  | .list l => when (small l.length) (some (.int l.length))
  | .str l => when (small l.length) (some (.int l.length))
  | _ => none
noncomputable def minV : List SE → Option AV
  | [] => none
  | e :: es => when (small es.length) (some (.sym (minSE e es)))
noncomputable def slToEV (a b : AV) : Option AV := a.l?.bind fun l => b.i?.bind fun k => when (small l.length && decide (0 ≤ k)) (some (.list (l.take k.toNat)))
noncomputable def evI (r : Rec) (c : Ctx) : MI → Option (List AV)
  | .ex e => (r.ev c e).bind AV.l?
  | .range1 a => onI (r.ev c a) fun z => when (smallZ z) (some (rangeL 0 (z - 0).toNat))
  | .range2 a b => bin (r.ev c a) (r.ev c b) (onII fun x z => when (smallZ x && smallZ z) (some (rangeL x (z - x).toNat)))
noncomputable def compL (r : Rec) (c : Ctx) (elt : ME) (tg : Option Nat) (cond : Option ME) : List AV → Option (List AV)
  | [] => some []
  | v :: vs => match bindT tg v with
    | none => none
    | some own => match condV r ⟨own, c.own, c.mu⟩ cond with
      | some (.bool true) => match r.ev ⟨own, c.own, c.mu⟩ elt with
        | some x => match compL r c elt tg cond vs with
          | some xs => some (x :: xs)
          | none => none
        | none => none
      | some (.bool false) => compL r c elt tg cond vs
      | _ => none
noncomputable def evS (r : Rec) (c : Ctx) : ME → Option AV
  | .int n => some (.int n)
  | .bool b => some (.bool b)
  | .str l => some (.str l)
  | .var i => getV c.own i
  | .fre i => getV c.out i
  | .add a b => bin (r.ev c a) (r.ev c b) addV
  | .sub a b => bin (r.ev c a) (r.ev c b) subV
  | .mul a b => bin (r.ev c a) (r.ev c b) mulV
  | .eq a b => bin (r.ev c a) (r.ev c b) fun x y => (eqV x y).map .bool
  | .ne a b => bin (r.ev c a) (r.ev c b) fun x y => (eqV x y).map fun t => .bool (!t)
  | .lt a b => bin (r.ev c a) (r.ev c b) (onII fun x y => some (.bool (decide (x < y))))
  | .gt a b => bin (r.ev c a) (r.ev c b) (onII fun x y => some (.bool (decide (y < x))))
  | .and a b => onB (r.ev c a) fun t => cond t (onB (r.ev c b) fun u => some (.bool u)) (some (.bool false))
  | .or a b => onB (r.ev c a) fun t => cond t (some (.bool true)) (onB (r.ev c b) fun u => some (.bool u))
  | .not a => onB (r.ev c a) fun t => some (.bool (!t))
  | .ife t a b => onB (r.ev c t) fun t => cond t (r.ev c a) (r.ev c b)
  | .tup l => (evs r c l).bind fun vs => when (small vs.length) (some (.tup vs))
  | .list l => (evs r c l).bind fun vs => when (small vs.length) (some (.list vs))
  | .edict => some .edict
  | .idx a i => bin (r.ev c a) (r.ev c i) idxV
  | .slFrom a k => onL (r.ev c a) fun l => when (small l.length && small k) (some (.list (l.drop k)))
  | .slTo a k => (r.ev c a).bind (slToV k)
  | .rev a => onL (r.ev c a) fun l => when (small l.length) (some (.list l.reverse))
  | .tab j a b => bin (r.ev c a) (r.ev c b) (onII (tabV c.mu j))
  | .call f l => (evs r c l).bind (r.call f)
  | .len a => (r.ev c a).bind lenV
  | .lenDict a => onL (r.ev c a) fun l => when (small l.length) (lenDictV (.list l))
  | .min a => onL (r.ev c a) fun l => (symsOf l).bind minV
  | .mod a k => onI (r.ev c a) fun z => when (Nat.blt 0 k) (some (.int (z.fmod k)))
  | .max2 a b => bin (r.ev c a) (r.ev c b) (onII fun x y => some (.int (if y > x then y else x)))
  | .min2 a b => bin (r.ev c a) (r.ev c b) (onII fun x y => some (.int (if y < x then y else x)))
  | .slToE a b => bin (r.ev c a) (r.ev c b) slToEV
  | .comp elt tg it cond => (evI r c it).bind fun items => when (small items.length) ((compL r c elt tg cond items).bind fun xs => some (.list xs))

theorem slToV_ok {k : Nat} {a v : AV} (h : slToV k a = some v) : (∃ l, a = .list l ∧ when (small l.length && small k) (some (.list (l.take k))) = some v) ∨ (∃ l, a = .tup l ∧ when (small l.length && Nat.blt k l.length && Nat.blt 0 k) (some (.tup (l.take k))) = some v) := by
  cases a <;> first | exact .inl ⟨_, rfl, h⟩ | exact .inr ⟨_, rfl, h⟩ | cases h
theorem onMl_ok {β : Type} {mu : Option (Nat × MO)} {f : Nat → List AV → Option β} {v : β} (h : onMl mu f = some v) : ∃ j l, mu = some (j, .lst l) ∧ f j l = some v := by
  rcases mu with _ | ⟨j, _ | _⟩ <;> first | exact ⟨_, _, rfl, h⟩ | cases h
theorem onMt_ok {β : Type} {mu : Option (Nat × MO)} {f : Nat → List ((Int × Int) × AV) → Option β} {v : β} (h : onMt mu f = some v) : ∃ j l, mu = some (j, .tab l) ∧ f j l = some v := by
  rcases mu with _ | ⟨j, _ | _⟩ <;> first | exact ⟨_, _, rfl, h⟩ | cases h
theorem tabV_ok {mu : Option (Nat × MO)} {j : Nat} {x y : Int} {v : AV} (h : tabV mu j x y = some v) : ∃ es, mu = some (j, .tab es) ∧ lookT x y es = some v :=
  let ⟨j', es, h1, h2⟩ := onMt_ok h
  let ⟨h3, h4⟩ := when_ok h2
  ⟨es, by rw [h1, Nat.eq_of_beq_eq_true h3], h4⟩
theorem AV.isEd_ok {v : AV} (h : v.isEd = true) : v = .edict := by cases v <;> first | rfl | cases h
theorem lenV_ok {a v : AV} (h : lenV a = some v) : (∃ l, a = .list l ∧ when (small l.length) (some (AV.int l.length)) = some v) ∨ (∃ l, a = .str l ∧ when (small l.length) (some (AV.int l.length)) = some v) := by
  cases a <;> first | exact .inl ⟨_, rfl, h⟩ | exact .inr ⟨_, rfl, h⟩ | cases h
theorem minV_ok {l : List SE} {v : AV} (h : minV l = some v) : ∃ e es, l = e :: es ∧ when (small es.length) (some (.sym (minSE e es))) = some v := by
  cases l with
  | nil => cases h
  | cons e es => exact ⟨_, _, rfl, h⟩
theorem slToEV_ok {a b v : AV} (h : slToEV a b = some v) : ∃ l k, a = .list l ∧ b = .int k ∧ when (small l.length && decide (0 ≤ k)) (some (.list (l.take k.toNat))) = some v :=
  let ⟨l, h1, h2⟩ := bd h; let ⟨k, h3, h4⟩ := bd h2; ⟨l, k, AV.l?_ok h1, AV.i?_ok h3, h4⟩

noncomputable def exs (r : Rec) (st : St) : List MS → Option (Option AV × St)
  | [] => some (none, st)
  | m :: ms => match r.ex st m with
    | some (none, st') => exs r st' ms
    | x => x
noncomputable def forL (r : Rec) (body : List MS) (tg : St → AV → Option St) (st : St) : List AV → Option (Option AV × St)
  | [] => some (none, st)
  | v :: vs => match tg st v with
    | none => none
    | some st1 => match exs r st1 body with
      | some (none, st2) => forL r body tg st2 vs
      | x => x
noncomputable def cx (st : St) : Ctx := ⟨st.vars, [], st.mu⟩
/-- the letter of what is turned in place is set by nothing else -/
noncomputable def okI (st : St) (i : Nat) : Bool := match st.mu with
  | some (j, _) => !(Nat.beq i j)
  | none => true
noncomputable def tg1 (i : Nat) (st : St) (v : AV) : Option St := if okI st i then some { st with vars := setV v st.vars i } else none
noncomputable def tgs : St → List Nat → List AV → Option St
  | st, [], [] => some st
  | st, i :: is, v :: vs => match tg1 i st v with
    | some st' => tgs st' is vs
    | none => none
  | _, _, _ => none
noncomputable def tgT (is : List Nat) (st : St) (v : AV) : Option St := match v with
  | .tup l => tgs st is l
  | _ => none
noncomputable def nxt (o : Option St) : Option (Option AV × St) := o.bind fun s => some (none, s)
theorem nxt_ok {o : Option St} {fl : Option AV} {s : St} (h : nxt o = some (fl, s)) : o = some s ∧ fl = none := by
  obtain ⟨s', h1, h2⟩ := bd h
  cases h2
  exact ⟨h1, rfl⟩
noncomputable def exS (r : Rec) (st : St) : MS → Option (Option AV × St)
  | .assign i e => (r.ev (cx st) e).bind fun v => nxt (tg1 i st v)
  | .assignT is e => (r.ev (cx st) e).bind fun v => nxt (tgT is st v)
  | .newL i => when st.mu.isNone (some (none, { vars := clrV st.vars i, mu := some (i, .lst []) }))
  | .newT i j e => (r.ev (cx st) e).bind fun v => when (st.mu.isNone && !(Nat.beq i j)) (some (none, { vars := clrV (setV v st.vars i) j, mu := some (j, .tab []) }))
  | .app i e => (r.ev (cx st) e).bind fun v => onMl st.mu fun j xs => when (Nat.beq i j && small xs.length) (some (none, { st with mu := some (j, .lst (xs ++ [v])) }))
  | .setTab j a b e => (r.ev (cx st) e).bind fun v => bin (r.ev (cx st) a) (r.ev (cx st) b) (onII fun x y => onMt st.mu fun j' es =>
      when (Nat.beq j j' && (small es.length && (lookT x y es).isNone)) (v.sym?.bind fun _ => some (none, { st with mu := some (j, .tab (es ++ [((x, y), v)])) })))
  | .iff c t => onB (r.ev (cx st) c) fun b => cond b (exs r st t) (some (none, st))
  | .for1 i it body => (evI r (cx st) it).bind (forL r body (tg1 i) st)
  | .forT is it body => (evI r (cx st) it).bind (forL r body (tgT is) st)
  | .forItems i => (getV st.vars i).bind fun v => when v.isEd (some (none, st))
  | .ret e => (r.ev (cx st) e).bind fun v => some (some v, st)
  | .retM i => onMl st.mu fun j xs => when (Nat.beq i j) (some (some (.list xs), st))

/-! the defs -/
structure Fn where
  name : String
  names : List String
  np : Nat
  body : List MS

noncomputable def nones : Nat → List (Option AV)
  | 0 => []
  | n + 1 => none :: nones n

noncomputable def parOk : List Nat → Bool
  | [] => true
  | c :: r => (Nat.beq c 40 || Nat.beq c 41) && parOk r
/-- what _check_parenthesis says of a text of brackets -/
noncomputable def parGo : Int → List Nat → Bool
  | n, [] => decide (n = 0)
  | n, c :: r => if Nat.beq c 40 then parGo (n + 1) r else if decide (n - 1 < 0) then false else parGo (n - 1) r

noncomputable def fnWays : Fn := { name := "_law_ways", names := ["low", "high", "found", "middle", "left", "taken", "right", "more"], np := 2, body := [
  .iff (.eq (.sub (.var 1) (.var 0)) (.int 1)) [.ret (.list [.tup [.str [], .list []]])],
  .newL 2,
  .for1 3 (.range2 (.add (.var 0) (.int 1)) (.var 1)) [
    .forT [4, 5] (.ex (.call 0 [.var 0, .var 3])) [
      .forT [6, 7] (.ex (.call 0 [.var 3, .var 1])) [
        .app 2 (.tup [.add (.add (.add (.str [40]) (.var 4)) (.str [41])) (.var 6), .add (.add (.list [.tup [.var 0, .var 3, .var 1]]) (.var 5)) (.var 7)])]]],
  .retM 2] }
noncomputable def fnCost : Fn := { name := "_law_cost", names := ["sides", "taken", "whole", "low", "middle", "high"], np := 2, body := [
  .assign 2 (.tup [.int 0, .int 0, .int 0, .int 0, .edict]),
  .forT [3, 4, 5] (.ex (.var 1)) [
    .assign 2 (.call 3 [.var 2, .tup [.mul (.mul (.idx (.var 0) (.var 3)) (.idx (.var 0) (.var 4))) (.idx (.var 0) (.var 5)), .int 1, .int 0, .int 0, .edict]])],
  .ret (.slTo (.var 2) 2)] }
noncomputable def fnLeast : Fn := { name := "_law_least", names := ["sides", "many", "table", "long", "low", "high"], np := 1, body := [
  .newT 1 2 (.len (.var 0)),
  .for1 3 (.range2 (.int 1) (.var 1)) [
    .for1 4 (.range1 (.sub (.var 1) (.var 3))) [
      .assign 5 (.add (.var 4) (.var 3)),
      .setTab 2 (.var 4) (.var 5) (.ife (.eq (.var 3) (.int 1)) (.int 0) (.min (.comp
        (.add (.add (.tab 2 (.fre 4) (.var 0)) (.tab 2 (.var 0) (.fre 5))) (.mul (.mul (.idx (.fre 0) (.fre 4)) (.idx (.fre 0) (.var 0))) (.idx (.fre 0) (.fre 5))))
        none (.range2 (.add (.var 4) (.int 1)) (.var 5)) none)))]],
  .ret (.tab 2 (.int 0) (.sub (.var 1) (.int 1)))] }
noncomputable def fnStats : Fn := { name := "add_func_stats", names := ["target", "source", "cc", "nc", "tt", "ct", "callers", "t_cc", "t_nc", "t_tt", "t_ct", "t_callers"], np := 2, body := [
  .assignT [2, 3, 4, 5, 6] (.var 1),
  .assignT [7, 8, 9, 10, 11] (.var 0),
  .ret (.tup [.add (.var 2) (.var 7), .add (.var 3) (.var 8), .add (.var 4) (.var 9), .add (.var 5) (.var 10), .call 4 [.var 11, .var 6]])] }
noncomputable def fnCallers : Fn := { name := "add_callers", names := ["target", "source", "new_callers", "func", "caller"], np := 2, body := [
  .assign 2 .edict,
  .forItems 0,
  .forItems 1,
  .ret (.var 2)] }
noncomputable def lawRest : List MS := [
  .assignT [2, 3] (.tup [.call 0 [.int 0, .sub (.len (.var 1)) (.int 1)], .sub (.len (.var 1)) (.int 1)]),
  .iff (.or (.ne (.len (.var 2)) (.idx (.list [.int 1, .int 1, .int 2, .int 5, .int 14]) (.sub (.var 3) (.int 1))))
            (.ne (.lenDict (.comp (.tup [.var 0, .int 1]) (some 2) (.ex (.var 2)) none)) (.len (.var 2)))) [.ret (.bool false)],
  .assign 6 (.comp (.call 1 [.fre 1, .var 1]) (some 2) (.ex (.var 2)) none),
  .iff (.ne (.comp (.var 0) (some 2) (.ex (.var 2)) (some (.or (.not (.call 5 [.var 0])) (.ne (.len (.var 0)) (.mul (.int 2) (.sub (.fre 3) (.int 1))))))) (.list [])) [.ret (.bool false)],
  .iff (.or (.ne (.comp (.var 0) (some 2) (.ex (.var 6)) (some (.ne (.var 1) (.sub (.fre 3) (.int 1))))) (.list []))
            (.ne (.min (.comp (.var 0) (some 2) (.ex (.var 6)) none)) (.call 2 [.var 1]))) [.ret (.bool false)],
  .assign 7 (.add (.slFrom (.var 1) 1) (.slTo (.var 1) 1)),
  .iff (.or (.ne (.call 2 [.var 7]) (.call 2 [.var 1])) (.ne (.call 2 [.rev (.var 1)]) (.call 2 [.var 1]))) [.ret (.bool false)],
  .forT [4, 5] (.ex (.var 2)) [
    .assign 8 (.add (.add (.comp (.tup [.var 0, .var 2]) (some 3) (.ex (.var 5)) none) (.comp (.tup [.var 0, .var 1]) (some 3) (.ex (.var 5)) none)) (.comp (.tup [.var 1, .var 2]) (some 3) (.ex (.var 5)) none)),
    .assign 9 (.comp (.var 0) none (.ex (.var 8)) (some (.and (.gt (.sub (.idx (.var 0) (.int 1)) (.idx (.var 0) (.int 0))) (.int 1)) (.ne (.var 0) (.tup [.int 0, .fre 3]))))),
    .iff (.or (.ne (.lenDict (.comp (.tup [.var 0, .int 1]) none (.ex (.var 9)) none)) (.sub (.var 3) (.int 2))) (.ne (.len (.var 9)) (.mul (.int 2) (.sub (.var 3) (.int 2))))) [.ret (.bool false)]],
  .ret (.and (.eq (.call 2 [.comp (.mul (.int 2) (.var 0)) none (.ex (.var 1)) none]) (.mul (.int 8) (.call 2 [.var 1])))
             (.eq (.call 2 [.slTo (.var 1) 3]) (.mul (.mul (.idx (.var 1) (.int 0)) (.idx (.var 1) (.int 1))) (.idx (.var 1) (.int 2)))))]
noncomputable def lawFirst : MS := .assign 1 (.comp (.add (.int 1) (.mod (.var 0) 9)) none (.ex (.slToE (.add (.var 0) (.list [.int 0, .int 0, .int 0])) (.max2 (.int 3) (.min2 (.int 6) (.len (.var 0)))))) none)
noncomputable def lawNames : List String := ["script", "sides", "ways", "many", "word", "taken", "costs", "turned", "lines", "inner"]
noncomputable def fnOf : Nat → Option Fn
  | 0 => some fnWays
  | 1 => some fnCost
  | 2 => some fnLeast
  | 3 => some fnStats
  | 4 => some fnCallers
  | _ => none

noncomputable def callS (r : Rec) (f : Nat) (vs : List AV) : Option AV :=
  if Nat.beq f 5 then (match vs with
    | [.str w] => if parOk w && small w.length && parGo 0 w then some (.bool true) else none
    | _ => none)
  else match fnOf f with
    | none => none
    | some d => if Nat.beq vs.length d.np then (match exs r ⟨vs.map some ++ nones (d.names.length - d.np), none⟩ d.body with
      | some (some v, _) => some v
      | _ => none) else none

noncomputable def R : Nat → Rec
  | 0 => ⟨fun _ _ => none, fun _ _ => none, fun _ _ => none⟩
  | n + 1 => ⟨evS (R n), exS (R n), callS (R n)⟩

noncomputable def symL : Nat → Nat → List AV
  | _, 0 => []
  | i, n + 1 => .sym (.v i) :: symL (i + 1) n
noncomputable def lawSt (n : Nat) : St := ⟨[none, some (.list (symL 0 n)), none, none, none, none, none, none, none, none], none⟩
noncomputable def lawGo (n : Nat) : Bool := match exs (R 60) (lawSt n) lawRest with
  | some (some (.bool true), _) => true
  | _ => false
end Mine

namespace Mine
open PySem PySem.Calls

abbrev Vw := Addr → Option Obj
noncomputable def view (X : List Addr) (h : Heap) : Vw := fun b => if b ∈ X then none else h.get? b
noncomputable def Le (G G' : Vw) : Prop := ∀ b o, G b = some o → G' b = some o
noncomputable def Ext (h h' : Heap) : Prop := ∀ b o, h.get? b = some o → h'.get? b = some o
noncomputable def But (M : List Addr) (h h' : Heap) : Prop := ∀ b o, b ∉ M → h.get? b = some o → h'.get? b = some o

theorem view_some {X : List Addr} {h : Heap} {b : Addr} {o : Obj} : view X h b = some o ↔ b ∉ X ∧ h.get? b = some o := by
  unfold view
  by_cases hb : b ∈ X <;> simp [hb]
theorem view_get {X : List Addr} {h : Heap} {b : Addr} {o : Obj} (e : view X h b = some o) : h.get? b = some o := (view_some.mp e).2
theorem Le.refl (G : Vw) : Le G G := fun _ _ e => e
theorem Le.trans {G G' G'' : Vw} (x : Le G G') (y : Le G' G'') : Le G G'' := fun b o e => y b o (x b o e)
theorem Ext.refl (h : Heap) : Ext h h := fun _ _ e => e
theorem Ext.trans {h h' h'' : Heap} (x : Ext h h') (y : Ext h' h'') : Ext h h'' := fun b o e => y b o (x b o e)
theorem Ext.push (h : Heap) (o : Obj) : Ext h (h.push o) := fun _ _ e => Heap.get?_push_of_some o e
theorem Ext.view {h h' : Heap} (x : Ext h h') (X : List Addr) : Le (view X h) (view X h') := fun b o e => view_some.mpr ⟨(view_some.mp e).1, x b o (view_some.mp e).2⟩
theorem But.view {M : List Addr} {h h' : Heap} (x : But M h h') {X : List Addr} (hs : ∀ b ∈ M, b ∈ X) : Le (view X h) (view X h') :=
  fun b o e => view_some.mpr ⟨(view_some.mp e).1, x b o (fun hm => (view_some.mp e).1 (hs b hm)) (view_some.mp e).2⟩
theorem view_sub {X X' : List Addr} (h : Heap) (hs : ∀ b ∈ X', b ∈ X) : Le (view X h) (view X' h) := fun _ _ e => view_some.mpr ⟨fun hm => (view_some.mp e).1 (hs _ hm), (view_some.mp e).2⟩
/-- new addresses may be shut out: what stood before is none of them -/
theorem view_new {X X' : List Addr} {h h' : Heap} (x : Ext h h') (hs : ∀ b ∈ X', b ∈ X ∨ h.get? b = none) : Le (view X h) (view X' h') := fun b o e => by
  obtain ⟨e1, e2⟩ := view_some.mp e
  refine view_some.mpr ⟨fun hm => ?_, x b o e2⟩
  rcases hs b hm with h1 | h1
  · exact e1 h1
  · rw [h1] at e2; cases e2
theorem Ext.but {h h' : Heap} (x : Ext h h') (M : List Addr) : But M h h' := fun b o _ e => x b o e
theorem But.trans {M : List Addr} {h h' h'' : Heap} (x : But M h h') (y : But M h' h'') : But M h h'' := fun b o hb e => y b o hb (x b o hb e)
theorem But.mono {M M' : List Addr} {h h' : Heap} (x : But M h h') (hs : ∀ b ∈ M, b ∈ M') : But M' h h' := fun b o hb e => x b o (fun hm => hb (hs b hm)) e
theorem But.of_same {a : Addr} {h h' : Heap} (x : Heap.SameBut a h h') {M : List Addr} (ha : a ∈ M) : But M h h' := fun b o hb e => (x.2 b fun q => hb (q ▸ ha)).trans e
/-- an old heap is kept where nothing of it is turned -/
theorem But.ext {M : List Addr} {h₀ h h' : Heap} (x : Ext h₀ h) (y : But M h h') (hn : ∀ b ∈ M, h₀.get? b = none) : Ext h₀ h' := fun b o e => y b o (fun hm => by rw [hn b hm] at e; cases e) (x b o e)

mutual
inductive RepV (ρ : Nat → Int) (G : Vw) : Value → AV → Prop
  | bool (b : Bool) : RepV ρ G (.bool b) (.bool b)
  | int (z : Int) (t : Tok) : RepV ρ G (.int z t) (.int z)
  | sym (e : SE) (t : Tok) : RepV ρ G (.int (e.val ρ) t) (.sym e)
  | str (l : List Nat) (t : Tok) : RepV ρ G (.str ⟨l.toArray⟩ t) (.str l)
  | tup {a : Addr} {o : Obj} {vals : Array Value} {n : Nat} {l : List AV} : G a = some o → o.cls = .type "tuple" → o.data = .seq vals n → RepVs ρ G vals.toList l → RepV ρ G (.ref a) (.tup l)
  | list {a : Addr} {o : Obj} {vals : Array Value} {n : Nat} {l : List AV} : G a = some o → (o.cls = .type "list" ∧ o.dict = none) → o.data = .seq vals n → RepVs ρ G vals.toList l → RepV ρ G (.ref a) (.list l)
  | edict {a : Addr} : G a = some { cls := .type "dict", data := .dict #[] } → (a == sysModules) = false → RepV ρ G (.ref a) .edict
inductive RepVs (ρ : Nat → Int) (G : Vw) : List Value → List AV → Prop
  | nil : RepVs ρ G [] []
  | cons {v : Value} {d : AV} {vs : List Value} {ds : List AV} : RepV ρ G v d → RepVs ρ G vs ds → RepVs ρ G (v :: vs) (d :: ds)
end
mutual
theorem RepV.mono {ρ : Nat → Int} {G G' : Vw} (k : Le G G') : ∀ {v : Value} {d : AV}, RepV ρ G v d → RepV ρ G' v d
  | _, _, .bool b => .bool b
  | _, _, .int z t => .int z t
  | _, _, .sym e t => .sym e t
  | _, _, .str l t => .str l t
  | _, _, .tup h c d r => .tup (k _ _ h) c d (RepVs.mono k r)
  | _, _, .list h c d r => .list (k _ _ h) c d (RepVs.mono k r)
  | _, _, .edict h c => .edict (k _ _ h) c
theorem RepVs.mono {ρ : Nat → Int} {G G' : Vw} (k : Le G G') : ∀ {vs : List Value} {ds : List AV}, RepVs ρ G vs ds → RepVs ρ G' vs ds
  | _, _, .nil => .nil
  | _, _, .cons h r => .cons (RepV.mono k h) (RepVs.mono k r)
end
section
variable {ρ : Nat → Int} {G : Vw}
theorem RepVs.length : ∀ {vs : List Value} {ds : List AV}, RepVs ρ G vs ds → vs.length = ds.length
  | _, _, .nil => rfl
  | _, _, .cons _ r => by simp [RepVs.length r]
theorem RepVs.append : ∀ {vs vs' : List Value} {ds ds' : List AV}, RepVs ρ G vs ds → RepVs ρ G vs' ds' → RepVs ρ G (vs ++ vs') (ds ++ ds')
  | _, _, _, _, .nil, r' => r'
  | _, _, _, _, .cons h r, r' => .cons h (RepVs.append r r')
theorem RepVs.get : ∀ {vs : List Value} {ds : List AV}, RepVs ρ G vs ds → ∀ {i : Nat} {d : AV}, ds[i]? = some d → ∃ v, vs[i]? = some v ∧ RepV ρ G v d
  | _, _, .nil, _, _, e => by simp at e
  | _, _, .cons h _, 0, _, e => by simp only [List.getElem?_cons_zero, Option.some.injEq] at e; subst e; exact ⟨_, rfl, h⟩
  | _, _, .cons _ r, i + 1, _, e => by simp only [List.getElem?_cons_succ] at e; simpa using RepVs.get r e
theorem RepVs.getL : ∀ {vs : List Value} {ds : List AV}, RepVs ρ G vs ds → ∀ {i : Nat} {v : Value}, vs[i]? = some v → ∃ d, ds[i]? = some d ∧ RepV ρ G v d
  | _, _, .nil, _, _, e => by simp at e
  | _, _, .cons h _, 0, _, e => by simp only [List.getElem?_cons_zero, Option.some.injEq] at e; subst e; exact ⟨_, rfl, h⟩
  | _, _, .cons _ r, i + 1, _, e => by simp only [List.getElem?_cons_succ] at e; simpa using RepVs.getL r e
theorem RepVs.drop : ∀ {vs : List Value} {ds : List AV}, RepVs ρ G vs ds → ∀ k, RepVs ρ G (vs.drop k) (ds.drop k)
  | _, _, r, 0 => by simpa using r
  | _, _, .nil, _ + 1 => by simpa using RepVs.nil
  | _, _, .cons _ r, k + 1 => by simpa using RepVs.drop r k
theorem RepVs.take : ∀ {vs : List Value} {ds : List AV}, RepVs ρ G vs ds → ∀ k, RepVs ρ G (vs.take k) (ds.take k)
  | _, _, _, 0 => by simpa using RepVs.nil
  | _, _, .nil, _ + 1 => by simpa using RepVs.nil
  | _, _, .cons h r, k + 1 => by simpa using RepVs.cons h (RepVs.take r k)
theorem RepVs.reverse : ∀ {vs : List Value} {ds : List AV}, RepVs ρ G vs ds → RepVs ρ G vs.reverse ds.reverse
  | _, _, .nil => by simpa using RepVs.nil
  | _, _, .cons h r => by simpa using (RepVs.reverse r).append (.cons h .nil)
theorem RepVs.snoc {vs : List Value} {ds : List AV} {v : Value} {d : AV} (r : RepVs ρ G vs ds) (h : RepV ρ G v d) : RepVs ρ G (vs ++ [v]) (ds ++ [d]) := r.append (.cons h .nil)
end

/-! what a step of an expression may do: nothing that stood is turned -/
structure Step (s s' : Shared) : Prop where
  heap : Ext s.heap s'.heap
  gens : PyProof.Rows.AllBare s.gens → PyProof.Rows.AllBare s'.gens
  drawn : s'.drawn = s.drawn
  os : s'.os = s.os
theorem Step.refl (s : Shared) : Step s s := ⟨Ext.refl _, id, rfl, rfl⟩
theorem Step.trans {s s' s'' : Shared} (x : Step s s') (y : Step s' s'') : Step s s'' := ⟨x.heap.trans y.heap, fun g => y.gens (x.gens g), y.drawn.trans x.drawn, y.os.trans x.os⟩
theorem Step.of {s : Shared} {h' : Heap} {tk : Nat} (x : Ext s.heap h') : Step s { s with heap := h', toks := tk } := ⟨x, id, rfl, rfl⟩
theorem Step.toks (s : Shared) (tk : Nat) : Step s { s with toks := tk } := ⟨Ext.refl _, id, rfl, rfl⟩
/-- what a statement may do -/
structure StepB (M : List Addr) (s s' : Shared) : Prop where
  heap : But M s.heap s'.heap
  gens : PyProof.Rows.AllBare s.gens → PyProof.Rows.AllBare s'.gens
  drawn : s'.drawn = s.drawn
  os : s'.os = s.os
theorem Step.b {s s' : Shared} (x : Step s s') (M : List Addr) : StepB M s s' := ⟨x.heap.but M, x.gens, x.drawn, x.os⟩
theorem StepB.trans {M : List Addr} {s s' s'' : Shared} (x : StepB M s s') (y : StepB M s' s'') : StepB M s s'' := ⟨x.heap.trans y.heap, fun g => y.gens (x.gens g), y.drawn.trans x.drawn, y.os.trans x.os⟩
theorem StepB.mono {M M' : List Addr} {s s' : Shared} (x : StepB M s s') (hs : ∀ b ∈ M, b ∈ M') : StepB M' s s' := ⟨x.heap.mono hs, x.gens, x.drawn, x.os⟩
theorem StepB.of {M : List Addr} {s : Shared} {h' : Heap} {tk : Nat} (x : But M s.heap h') : StepB M s { s with heap := h', toks := tk } := ⟨x, id, rfl, rfl⟩
/-- and nothing is let go -/
structure StepC (M : List Addr) (s s' : Shared) : Prop where
  b : StepB M s s'
  live : ∀ a o, s.heap.get? a = some o → ∃ o', s'.heap.get? a = some o'
theorem Step.c {s s' : Shared} (x : Step s s') (M : List Addr) : StepC M s s' := ⟨x.b M, fun a o e => ⟨o, x.heap a o e⟩⟩
theorem StepC.trans {M : List Addr} {s s' s'' : Shared} (x : StepC M s s') (y : StepC M s' s'') : StepC M s s'' := ⟨x.b.trans y.b, fun a o e => let ⟨o', e'⟩ := x.live a o e; y.live a o' e'⟩
theorem StepC.mono {M M' : List Addr} {s s' : Shared} (x : StepC M s s') (hs : ∀ b ∈ M, b ∈ M') : StepC M' s s' := ⟨x.b.mono hs, x.live⟩
theorem StepC.none {M : List Addr} {s s' : Shared} (x : StepC M s s') {a : Addr} (h : s'.heap.get? a = none) : s.heap.get? a = none := by
  cases e : s.heap.get? a with
  | none => rfl
  | some o => obtain ⟨o', e'⟩ := x.live a o e; rw [h] at e'; cases e'

/-! names -/
theorem ns_inj {h : Heap} {a : Addr} {m m' : Str → Option Value} (x : h.Ns a m) (y : h.Ns a m') : m = m' := by
  obtain ⟨o, es, ep, ho, hd, _, hm⟩ := x
  obtain ⟨o', es', ep', ho', hd', _, hm'⟩ := y
  rw [ho] at ho'; cases ho'
  rw [hd] at hd'; cases hd'
  funext n; rw [← hm n, hm' n]
theorem ns_not_cell {h : Heap} {a : Addr} {m : Str → Option Value} {v : Option Value} (x : h.Ns a m) (y : h.IsCell a v) : False := by
  obtain ⟨o, es, ep, ho, hd, _⟩ := x
  obtain ⟨o', ho', hd'⟩ := y
  rw [ho] at ho'; cases ho'
  rw [hd] at hd'; cases hd'

noncomputable def Has (env : Env) (h : Heap) (x : Str) (v : Value) : Prop :=
  (env.kindOf x = some .local ∧ ∃ m, h.Ns env.locals m ∧ m x = some v) ∨ (env.kindOf x = some .cell ∧ ∃ c, env.cells.lookup x = some c ∧ h.IsCell c (some v))
theorem Has.mono {env : Env} {h h' : Heap} {x : Str} {v : Value} (H : Has env h x v) (k : Ext h h') : Has env h' x v := by
  rcases H with ⟨hk, m, hn, hm⟩ | ⟨hk, c, hc, hv⟩
  · exact .inl ⟨hk, m, hn.keeps k, hm⟩
  · exact .inr ⟨hk, c, hc, hv.keeps k⟩
theorem Has.load {M : Model} {A : Around} {E : Value → Shared → Prop} {s : Shared} {env : Env} {x : Str} {v : Value} {Q : Value → Shared → Prop} (hk : env.scope.kind = .function) (H : Has env s.heap x v) (h : Q v s) :
    wpAny M A (loadName env x) Q E s := by
  rcases H with ⟨hl, m, hn, hm⟩ | ⟨hl, c, hc, hv⟩
  · exact wpAny_loadName_local hk hl hn hm h
  · exact wpAny_loadName_cell hk hl hc hv h

noncomputable def cellsA (env : Env) : List Addr := env.cells.map (·.2)
/-- the frame's own places stand: its names, its cells -/
structure Pl (env : Env) (h : Heap) : Prop where
  ns : ∃ m, h.Ns env.locals m
  cell : ∀ x c, env.cells.lookup x = some c → ∃ v, h.IsCell c v
theorem Pl.mono {env : Env} {h h' : Heap} (P : Pl env h) (k : Ext h h') : Pl env h' := ⟨let ⟨m, hn⟩ := P.ns; ⟨m, hn.keeps k⟩, fun x c hc => let ⟨v, hv⟩ := P.cell x c hc; ⟨v, hv.keeps k⟩⟩

theorem store {M : Model} {A : Around} {E : Value → Shared → Prop} {s : Shared} {env : Env} {x : Str} {v : Value} {Q : Unit → Shared → Prop} (hk : env.scope.kind = .function)
    (hap : env.cells.Pairwise fun a b => a.2 ≠ b.2) (P : Pl env s.heap) (hx : env.kindOf x = some .local ∨ (env.kindOf x = some .cell ∧ (env.cells.lookup x).isSome = true))
    (hQ : ∀ h' tk, But (env.locals :: cellsA env) s.heap h' → (∀ b o, s.heap.get? b = some o → ∃ o', h'.get? b = some o') → Pl env h' → Has env h' x v → (∀ y u, y ≠ x → Has env s.heap y u → Has env h' y u) → Q () { s with heap := h', toks := tk }) :
    wpAny M A (storeName env x v) Q E s := by
  obtain ⟨m, hn⟩ := P.ns
  rcases hx with hl | ⟨hl, hc⟩
  · refine wpAny_storeName_local hl hn (fun h' hn' hs' => ?_) (by rw [hk]; rfl)
    have hcell : ∀ c w, s.heap.IsCell c w → h'.IsCell c w := fun c w hw => hw.sameBut hs' (fun e => ns_not_cell hn (e ▸ hw))
    refine hQ h' _ (.of_same hs' (by simp)) (fun b o e => by
      by_cases q : b = env.locals
      · obtain ⟨o', _, _, ho', _⟩ := hn'
        exact ⟨o', q ▸ ho'⟩
      · exact ⟨o, (hs'.2 b q).trans e⟩) ⟨⟨_, hn'⟩, fun y c hy => let ⟨w, hw⟩ := P.cell y c hy; ⟨w, hcell c w hw⟩⟩ (.inl ⟨hl, _, hn', by simp⟩) fun y u hy H => ?_
    rcases H with ⟨hky, m', hn₂, hm⟩ | ⟨hky, c, hcy, hv⟩
    · have := ns_inj hn hn₂; subst this
      exact .inl ⟨hky, _, hn', by simp [hy, hm]⟩
    · exact .inr ⟨hky, c, hcy, hcell c _ hv⟩
  · obtain ⟨c, hc⟩ := Option.isSome_iff_exists.mp hc
    obtain ⟨v₀, hv₀⟩ := P.cell x c hc
    refine wpAny_storeName_cell hk hl hc hv₀ fun h' hc' hs' => ?_
    have hLc : env.locals ≠ c := fun e => ns_not_cell hn (e ▸ hv₀)
    have hmem : c ∈ cellsA env := List.mem_map.mpr ⟨(x, c), mem_of_lookup hc, rfl⟩
    refine hQ h' s.toks (.of_same hs' (List.mem_cons_of_mem _ hmem)) (fun b o e => by
      by_cases q : b = c
      · obtain ⟨o', ho', _⟩ := hc'
        exact ⟨o', q ▸ ho'⟩
      · exact ⟨o, (hs'.2 b q).trans e⟩) ⟨⟨m, hn.sameBut hs' hLc⟩, fun y c' hy => ?_⟩ (.inr ⟨hl, c, hc, hc'⟩) fun y u hy H => ?_
    · by_cases e : c' = c
      · subst e; exact ⟨_, hc'⟩
      · obtain ⟨w, hw⟩ := P.cell y c' hy
        exact ⟨w, hw.sameBut hs' e⟩
    · rcases H with ⟨hky, m', hn₂, hm⟩ | ⟨hky, c', hcy, hv⟩
      · exact .inl ⟨hky, m', hn₂.sameBut hs' hLc, hm⟩
      · refine .inr ⟨hky, c', hcy, hv.sameBut hs' fun e => hy ?_⟩
        exact name_of_addr hap (mem_of_lookup hcy) (e ▸ mem_of_lookup hc)
end Mine

set_option linter.unusedVariables false
namespace Mine
open PySem PySem.Calls PyProof.Rows

noncomputable def Dom (X : List Addr) (h : Heap) : Prop := ∀ b ∈ X, ∃ o, h.get? b = some o
theorem Dom.fresh {X : List Addr} {h : Heap} (D : Dom X h) : h.objs.size ∉ X := fun hm => by
  obtain ⟨o, ho⟩ := D _ hm
  exact absurd (Heap.lt_size ho) (Nat.lt_irrefl _)
theorem Dom.mono {X : List Addr} {h h' : Heap} (D : Dom X h) (x : Ext h h') : Dom X h' := fun b hb => let ⟨o, ho⟩ := D b hb; ⟨o, x b o ho⟩
theorem none_of_size {h : Heap} {a : Addr} (ha : h.objs.size ≤ a) : h.get? a = none := by
  cases e : h.get? a with
  | none => rfl
  | some o => exact absurd (Heap.lt_size e) (Nat.not_lt.mpr ha)
theorem view_push {X : List Addr} {h : Heap} (D : Dom X h) {o : Obj} (ho : o.isFreed = false) : view X (h.push o) h.objs.size = some o :=
  view_some.mpr ⟨D.fresh, Heap.get?_push_size _ ho⟩

/-- the ints that the letters stand for -/
noncomputable def Rng (ρ : Nat → Int) : Prop := ∀ i, 1 ≤ ρ i ∧ ρ i ≤ 9
theorem SE.bound {ρ : Nat → Int} (H : Rng ρ) : ∀ e : SE, 0 ≤ e.val ρ ∧ e.val ρ ≤ (e.ub : Int)
  | .v i => ⟨by have := (H i).1; show (0 : Int) ≤ ρ i; omega, (H i).2⟩
  | .k n => ⟨Int.natCast_nonneg n, Int.le_refl _⟩
  | .add a b => by
    have ha := SE.bound H a
    have hb := SE.bound H b
    exact ⟨Int.add_nonneg ha.1 hb.1, by simp only [SE.val, SE.ub, Int.natCast_add]; omega⟩
  | .mul a b => by
    have ha := SE.bound H a
    have hb := SE.bound H b
    refine ⟨Int.mul_nonneg ha.1 hb.1, ?_⟩
    simp only [SE.val, SE.ub, Int.natCast_mul]
    exact Int.mul_le_mul ha.2 hb.2 hb.1 (Int.natCast_nonneg _)
  | .mn a b => by
    have ha := SE.bound H a
    have hb := SE.bound H b
    simp only [SE.val, SE.ub]
    omega

section
variable {ρ : Nat → Int} {G : Vw}
theorem RepV.ofSym {v : Value} {d : AV} {e : SE} (r : RepV ρ G v d) (h : d.sym? = some e) : ∃ t, v = .int (e.val ρ) t := by
  cases r with
  | int z t =>
    simp only [AV.sym?] at h
    split at h
    · rename_i hz
      cases h
      exact ⟨t, by simp [SE.val, Int.toNat_of_nonneg hz]⟩
    · cases h
  | sym e' t => cases h; exact ⟨t, rfl⟩
  | _ => cases h
theorem bits_small {z : Int} (h0 : -1000000 ≤ z) (h1 : z ≤ 1000000) : Builtin.Int.intBits z ≤ 64 := by
  unfold Builtin.Int.intBits
  split
  · exact Nat.zero_le _
  · rename_i hz
    have hz' : z ≠ 0 := by simpa using hz
    have : z.natAbs < 2 ^ 63 := by omega
    have h2 := (Nat.log2_lt (n := z.natAbs) (k := 63) (by omega)).mpr this
    omega
end

section
variable {prog : Program} {w : World} {A : Around} {E : Value → Shared → Prop} {s : Shared} {ρ : Nat → Int} {X : List Addr}

theorem list_add0 {l b : Addr} {o o2 : Obj} {vs ws : Array Value} {n n2 : Nat} {Q : Value → Shared → Prop} (ho : s.heap.get? l = some o) (hc : o.cls = .type "list") (hd : o.data = .seq vs n)
    (ho2 : s.heap.get? b = some o2) (hc2 : o2.cls = .type "list") (hd2 : o2.data = .seq ws n2) (hsz : vs.size + ws.size ≤ sizeLine)
    (h : Q (.ref s.heap.objs.size) { s with heap := s.heap.push { cls := .type "list", data := .seq (vs ++ ws) } }) : wpAny (model prog w) A (binaryOp .Add (.ref l) (.ref b)) Q E s := by
  obtain ⟨cls, dd, data, sl⟩ := o
  obtain ⟨cls2, dd2, data2, sl2⟩ := o2
  simp only at hc hd hc2 hd2
  subst hc hd hc2 hd2
  exact concat_meets ⟨_, ho, rfl⟩ ⟨_, ho2, rfl⟩ noFill_list_add seq_list_add PySem.F.slot_list_add PySem.F.entry_list_add (PySem.F.args_list_add_2 _ _)
    (list_addW l b vs ws n n2 dd dd2 sl sl2 hsz) ⟨ho, ho2, h⟩

abbrev Out (ρ : Nat → Int) (X : List Addr) (s : Shared) (v : AV) (Q : Value → Shared → Prop) : Prop := ∀ s' val, Step s s' → RepV ρ (view X s'.heap) val v → Q val s'
abbrev OutB (s : Shared) (b : Bool) (Q : Bool → Shared → Prop) : Prop := ∀ s', Step s s' → Q b s'

theorem out_int {z : Int} {t : Tok} {tk : Nat} {Q : Value → Shared → Prop} (h : Out ρ X s (.int z) Q) : Q (.int z t) { s with toks := tk } := h _ _ (Step.toks s tk) (.int z t)
theorem out_sym {e : SE} {t : Tok} {tk : Nat} {Q : Value → Shared → Prop} (h : Out ρ X s (.sym e) Q) : Q (.int (e.val ρ) t) { s with toks := tk } := h _ _ (Step.toks s tk) (.sym e t)
theorem out_bool {b : Bool} {Q : Value → Shared → Prop} (h : Out ρ X s (.bool b) Q) : Q (.bool b) s := h _ _ (Step.refl s) (.bool b)

theorem addV_ok {a b : Value} {x y v : AV} {Q : Value → Shared → Prop} (D : Dom X s.heap) (ra : RepV ρ (view X s.heap) a x) (rb : RepV ρ (view X s.heap) b y) (e : addV x y = some v)
    (hQ : Out ρ X s v Q) : wpAny (model prog w) A (binaryOp .Add a b) Q E s := by
  rcases alt_ok e with e | e
  · obtain ⟨p, q, rfl, rfl, e⟩ := onII_ok e
    cases e
    cases ra with | int z t => cases rb with | int z' t' => exact add_int (out_int hQ)
  rcases alt_ok e with e | e
  · obtain ⟨l, l', e1, e2, e⟩ := on2_ok e
    obtain rfl := AV.s?_ok e1
    obtain rfl := AV.s?_ok e2
    obtain ⟨hsz, e⟩ := when_ok e
    have hsz := Nat.le_of_ble_eq_true hsz
    cases e
    cases ra with
    | str _ t => cases rb with
      | str _ t' =>
        refine add_str (fun t2 tk => ?_) ?_
        · have q : (⟨l.toArray⟩ : Str) ++ (⟨l'.toArray⟩ : Str) = ⟨(l ++ l').toArray⟩ := by
            show Str.append _ _ = _
            simp [Str.append]
          rw [q]
          exact hQ _ _ (Step.toks s tk) (.str _ t2)
        · show (⟨l.toArray⟩ : Str).cps.size + (⟨l'.toArray⟩ : Str).cps.size ≤ sizeLine
          rw [sizeLine_eq]
          simp only [List.size_toArray]
          omega
  rcases alt_ok e with e | e
  · obtain ⟨l, l', e1, e2, e⟩ := on2_ok e
    obtain rfl := AV.l?_ok e1
    obtain rfl := AV.l?_ok e2
    obtain ⟨hsz, e⟩ := when_ok e
    have hsz := Nat.le_of_ble_eq_true hsz
    cases e
    cases ra with
    | list h1 c1 d1 r1 => cases rb with
      | list h2 c2 d2 r2 =>
        have e1 := r1.length
        have e2 := r2.length
        simp only [Array.length_toList] at e1 e2
        refine list_add0 (view_get h1) c1.1 d1 (view_get h2) c2.1 d2 (by rw [sizeLine_eq]; omega) ?_
        refine hQ _ _ (Step.of (tk := s.toks) (Ext.push _ _)) (.list (view_push D rfl) ⟨rfl, rfl⟩ rfl ?_)
        rw [Array.toList_append]
        exact (r1.append r2).mono ((Ext.push _ _).view X)
  · obtain ⟨p, q, ha, hb, e⟩ := on2_ok e
    obtain ⟨_, e⟩ := when_ok e
    cases e
    obtain ⟨t, rfl⟩ := ra.ofSym ha
    obtain ⟨u, rfl⟩ := rb.ofSym hb
    exact add_int (out_sym (e := .add _ _) hQ)
theorem subV_ok {a b : Value} {x y v : AV} {Q : Value → Shared → Prop} (ra : RepV ρ (view X s.heap) a x) (rb : RepV ρ (view X s.heap) b y) (e : subV x y = some v)
    (hQ : Out ρ X s v Q) : wpAny (model prog w) A (binaryOp .Sub a b) Q E s := by
  obtain ⟨p, q, rfl, rfl, e⟩ := onII_ok e
  cases e
  cases ra with | int z t => cases rb with | int z' t' => exact sub_int (out_int hQ)
theorem smallZ_iff {z : Int} (h : smallZ z = true) : -1000 ≤ z ∧ z ≤ 1000 := by
  simpa [smallZ] using h

theorem mulV_ok (H : Rng ρ) {a b : Value} {x y v : AV} {Q : Value → Shared → Prop} (ra : RepV ρ (view X s.heap) a x) (rb : RepV ρ (view X s.heap) b y) (e : mulV x y = some v)
    (hQ : Out ρ X s v Q) : wpAny (model prog w) A (binaryOp .Mult a b) Q E s := by
  rcases alt_ok e with e | e
  · obtain ⟨p, q, rfl, rfl, e⟩ := onII_ok e
    obtain ⟨hz, e⟩ := when_ok e
    cases e
    have h1 := smallZ_iff ((Bool.and_eq_true _ _).mp hz).1
    cases ra with | int z t => cases rb with | int z' t' => exact mul_int (out_int hQ) (.of_left (bits_small (by omega) (by omega)))
  · obtain ⟨p, q, ha, hb, e⟩ := on2_ok e
    obtain ⟨hu, e⟩ := when_ok e
    cases e
    obtain ⟨t, rfl⟩ := ra.ofSym ha
    obtain ⟨u, rfl⟩ := rb.ofSym hb
    have h1 := SE.bound H p
    have hu1 : p.ub ≤ 1000000 := Nat.le_of_ble_eq_true ((Bool.and_eq_true _ _).mp hu).1
    exact mul_int (out_sym (e := .mul _ _) hQ) (.of_left (bits_small (by omega) (by omega)))
end
end Mine

set_option linter.unusedVariables false
namespace Mine

noncomputable def evM (ρ : Nat → Int) : Mono → Int
  | [] => 1
  | i :: r => ρ i * evM ρ r
noncomputable def evP (ρ : Nat → Int) : Poly → Int
  | [] => 0
  | (m, c) :: r => (c : Int) * evM ρ m + evP ρ r
section
variable {ρ : Nat → Int}
theorem eqL_iff : ∀ {a b : List Nat}, eqL a b = true → a = b
  | [], [], _ => rfl
  | [], _ :: _, h => by simp [eqL] at h
  | _ :: _, [], h => by simp [eqL] at h
  | a :: r, b :: s, h => by
    simp only [eqL, Bool.and_eq_true] at h
    rw [Nat.eq_of_beq_eq_true h.1, eqL_iff h.2]
theorem eqP_iff : ∀ {a b : Poly}, eqP a b = true → a = b
  | [], [], _ => rfl
  | [], _ :: _, h => by simp [eqP] at h
  | _ :: _, [], h => by simp [eqP] at h
  | (m, c) :: r, (m', c') :: s, h => by
    simp only [eqP, Bool.and_eq_true] at h
    rw [eqL_iff h.1.1, Nat.eq_of_beq_eq_true h.1.2, eqP_iff h.2]
theorem eqN_iff : ∀ {a b : List Poly}, eqN a b = true → a = b
  | [], [], _ => rfl
  | [], _ :: _, h => by simp [eqN] at h
  | _ :: _, [], h => by simp [eqN] at h
  | p :: r, q :: s, h => by
    simp only [eqN, Bool.and_eq_true] at h
    rw [eqP_iff h.1, eqN_iff h.2]
theorem evM_insN (a : Nat) : ∀ l, evM ρ (insN a l) = ρ a * evM ρ l
  | [] => rfl
  | b :: r => by
    unfold insN
    split
    · rfl
    · simp only [evM]
      rw [evM_insN a r, ← Int.mul_assoc, ← Int.mul_assoc, Int.mul_comm (ρ b) (ρ a)]
theorem evM_mulM : ∀ a b, evM ρ (mulM a b) = evM ρ a * evM ρ b
  | [], b => by simp [mulM, evM]
  | a :: r, b => by simp only [mulM, evM_insN, evM]; rw [evM_mulM r b, Int.mul_assoc]
theorem evP_addT (m : Mono) (c : Nat) : ∀ p, evP ρ (addT m c p) = (c : Int) * evM ρ m + evP ρ p
  | [] => rfl
  | (m', c') :: r => by
    unfold addT
    split
    · rename_i h
      rw [eqL_iff h]
      simp only [evP, Int.natCast_add, Int.add_mul]; omega
    · split
      · rfl
      · simp only [evP]; rw [evP_addT m c r]; omega
theorem evP_addP : ∀ p q, evP ρ (addP p q) = evP ρ p + evP ρ q
  | [], q => by simp [addP, evP]
  | (m, c) :: r, q => by simp only [addP, evP_addT, evP]; rw [evP_addP r q]; omega
theorem evP_mulT (m : Mono) (c : Nat) : ∀ p, evP ρ (mulT m c p) = (c : Int) * evM ρ m * evP ρ p
  | [] => by simp [mulT, evP]
  | (m', c') :: r => by
    simp only [mulT, evP_addT, evP, evM_mulM, Int.natCast_mul]
    rw [evP_mulT m c r, Int.mul_add]
    have : (c : Int) * (c' : Int) * (evM ρ m * evM ρ m') = (c : Int) * evM ρ m * ((c' : Int) * evM ρ m') := by
      simp only [Int.mul_assoc, Int.mul_left_comm, Int.mul_comm]
    rw [this]
theorem evP_mulP : ∀ p q, evP ρ (mulP p q) = evP ρ p * evP ρ q
  | [], q => by simp [mulP, evP]
  | (m, c) :: r, q => by simp only [mulP, evP_addP, evP_mulT, evP]; rw [evP_mulP r q, Int.add_mul]

theorem mem_insP {p q : Poly} : ∀ {l : List Poly}, q ∈ insP p l ↔ q = p ∨ q ∈ l
  | [] => by simp [insP]
  | r :: l => by
    unfold insP
    split
    · rename_i h
      rw [eqP_iff h]
      simp
    · split
      · simp
      · simp only [List.mem_cons, mem_insP (l := l)]
        constructor
        · rintro (h | h | h)
          · exact .inr (.inl h)
          · exact .inl h
          · exact .inr (.inr h)
        · rintro (h | h | h)
          · exact .inr (.inl h)
          · exact .inl h
          · exact .inr (.inr h)
theorem mem_merge {q : Poly} : ∀ {a b : List Poly}, q ∈ merge a b ↔ q ∈ a ∨ q ∈ b
  | [], b => by simp [merge]
  | p :: r, b => by
    simp only [merge, mem_insP, mem_merge (a := r), List.mem_cons, or_assoc]
theorem mem_mapAdd {p q : Poly} : ∀ {l : List Poly}, q ∈ mapAdd p l ↔ ∃ x ∈ l, q = addP p x
  | [] => by simp [mapAdd]
  | r :: l => by simp only [mapAdd, mem_insP, mem_mapAdd (l := l), List.mem_cons, exists_eq_or_imp]
theorem mem_addN {q : Poly} : ∀ {a b : List Poly}, q ∈ addN a b ↔ ∃ x ∈ a, ∃ y ∈ b, q = addP x y
  | [], b => by simp [addN]
  | p :: r, b => by simp only [addN, mem_merge, mem_addN (a := r), mem_mapAdd, List.mem_cons, exists_eq_or_imp]
theorem mem_mapMul {p q : Poly} : ∀ {l : List Poly}, q ∈ mapMul p l ↔ ∃ x ∈ l, q = mulP p x
  | [] => by simp [mapMul]
  | r :: l => by simp only [mapMul, mem_insP, mem_mapMul (l := l), List.mem_cons, exists_eq_or_imp]
theorem mem_mulN {q : Poly} : ∀ {a b : List Poly}, q ∈ mulN a b ↔ ∃ x ∈ a, ∃ y ∈ b, q = mulP x y
  | [], b => by simp [mulN]
  | p :: r, b => by simp only [mulN, mem_merge, mem_mulN (a := r), mem_mapMul, List.mem_cons, exists_eq_or_imp]

/-- z is the least of the list's sums -/
noncomputable def IsMin (ρ : Nat → Int) (l : List Poly) (z : Int) : Prop := (∃ p ∈ l, evP ρ p = z) ∧ ∀ p ∈ l, z ≤ evP ρ p
theorem IsMin.inj {l : List Poly} {x y : Int} (a : IsMin ρ l x) (b : IsMin ρ l y) : x = y := by
  obtain ⟨⟨p, hp, rfl⟩, ha⟩ := a
  obtain ⟨⟨q, hq, rfl⟩, hb⟩ := b
  have h1 := ha q hq
  have h2 := hb p hp
  omega
theorem isMin_nf (H : Rng ρ) : ∀ e : SE, IsMin ρ e.nf (e.val ρ)
  | .v i => ⟨⟨_, List.mem_singleton.mpr rfl, by simp [evP, evM, SE.val]⟩, fun p hp => by
      rw [List.mem_singleton.mp hp]; simp [evP, evM, SE.val]⟩
  | .k n => by
    have e : evP ρ (if n = 0 then [] else [([], n)]) = (n : Int) := by
      split
      · rename_i h; subst h; rfl
      · simp [evP, evM]
    exact ⟨⟨_, List.mem_singleton.mpr rfl, e⟩, fun p hp => by rw [List.mem_singleton.mp hp, e]; exact Int.le_refl _⟩
  | .add a b => by
    obtain ⟨⟨p, hp, ep⟩, ha⟩ := isMin_nf H a
    obtain ⟨⟨q, hq, eq⟩, hb⟩ := isMin_nf H b
    refine ⟨⟨addP p q, mem_addN.mpr ⟨p, hp, q, hq, rfl⟩, by rw [evP_addP, ep, eq]; rfl⟩, fun r hr => ?_⟩
    obtain ⟨x, hx, y, hy, rfl⟩ := mem_addN.mp hr
    have h1 := ha x hx
    have h2 := hb y hy
    rw [evP_addP]; simp only [SE.val]; omega
  | .mul a b => by
    obtain ⟨⟨p, hp, ep⟩, ha⟩ := isMin_nf H a
    obtain ⟨⟨q, hq, eq⟩, hb⟩ := isMin_nf H b
    refine ⟨⟨mulP p q, mem_mulN.mpr ⟨p, hp, q, hq, rfl⟩, by rw [evP_mulP, ep, eq]; rfl⟩, fun r hr => ?_⟩
    obtain ⟨x, hx, y, hy, rfl⟩ := mem_mulN.mp hr
    rw [evP_mulP]
    have h0 := (SE.bound H b).1
    have h1 := ha x hx
    exact Int.mul_le_mul h1 (hb y hy) h0 (Int.le_trans (SE.bound H a).1 h1)
  | .mn a b => by
    obtain ⟨⟨p, hp, ep⟩, ha⟩ := isMin_nf H a
    obtain ⟨⟨q, hq, eq⟩, hb⟩ := isMin_nf H b
    refine ⟨?_, fun r hr => ?_⟩
    · simp only [SE.val]
      by_cases h : a.val ρ ≤ b.val ρ
      · exact ⟨p, mem_merge.mpr (.inl hp), by rw [ep]; omega⟩
      · exact ⟨q, mem_merge.mpr (.inr hq), by rw [eq]; omega⟩
    · simp only [SE.val]
      rcases mem_merge.mp hr with h | h
      · have := ha r h; omega
      · have := hb r h; omega
theorem nf_val (H : Rng ρ) {a b : SE} (h : eqN a.nf b.nf = true) : a.val ρ = b.val ρ := by
  have e := eqN_iff h
  have ha := isMin_nf H a
  rw [e] at ha
  exact ha.inj (isMin_nf H b)
end
end Mine

set_option linter.unusedVariables false
namespace Mine
open PySem PySem.Calls PyProof.Rows

section
variable {prog : Program} {w : World} {A : Around} {E : Value → Shared → Prop} {s : Shared} {ρ : Nat → Int} {X : List Addr}

theorem reads_pair {G : Vw} {h : Heap} (hG : ∀ b o, G b = some o → h.get? b = some o) {v : Value} {a b : Int} (r : RepV ρ G v (.tup [.int a, .int b])) : ∃ as, Reads h v (.tuple [.int a, .int b]) as := by
  cases r with
  | tup h1 c d r =>
    generalize hv : Array.toList _ = vs at r
    cases r with
    | cons r1 r => cases r with
      | cons r2 r => cases r with
        | nil =>
          cases r1 with | int z t => cases r2 with | int z' t' =>
            exact ⟨_, .tuple (hG _ _ h1) c d (by rw [hv]; exact .cons (.int _ _) (.cons (.int _ _) .nil))⟩
theorem reads_nil {G : Vw} {h : Heap} (hG : ∀ b o, G b = some o → h.get? b = some o) {v : Value} (r : RepV ρ G v (.list [])) : ∃ as, Reads h v (.list []) as := by
  cases r with
  | list h1 c d r =>
    generalize hv : Array.toList _ = vs at r
    cases r
    exact ⟨_, .list (hG _ _ h1) c.1 d (by rw [hv]; exact .nil)⟩
theorem shaped_pair (a b : Int) : SeqAt.shaped (.tuple [.int a, .int b]) = true := by
  unfold SeqAt.shaped
  rfl
theorem shaped_nil : SeqAt.shaped (.list []) = true := by
  unfold SeqAt.shaped
  rfl
theorem eqv_pair (a b c d : Int) : PyData.eqv (.tuple [.int a, .int b]) (.tuple [.int c, .int d]) = (decide (a = c) && decide (b = d)) := by
  simp [PyData.eqv, PyData.eqvAll]
  rfl

theorem eqV_both (H : Rng ρ) {a b : Value} {x y : AV} {t : Bool} (ra : RepV ρ (view X s.heap) a x) (rb : RepV ρ (view X s.heap) b y) (hu : A.units + 64 < cLine) (e : eqV x y = some t) :
    (∀ Q : Value → Shared → Prop, Q (.bool t) s → wpAny (model prog w) A (compareOp .Eq a b) Q E s) ∧ (∀ Q : Value → Shared → Prop, Q (.bool (!t)) s → wpAny (model prog w) A (compareOp .NotEq a b) Q E s) := by
  rcases alt_ok e with e | e
  · obtain ⟨p, q, rfl, rfl, e⟩ := onII_ok e
    cases e
    cases ra with | int z u => cases rb with | int z' u' =>
      refine ⟨fun Q h => eq_int h, fun Q h => ne_int ?_⟩
      have : (p != q) = !decide (p = q) := rfl
      rw [this]; exact h
  rcases alt_ok e with e | e
  · obtain ⟨p, q, e1, e2, e⟩ := on2_ok e
    obtain rfl := AV.ii?_ok e1
    obtain rfl := AV.ii?_ok e2
    cases e
    obtain ⟨as, ea⟩ := reads_pair (fun b o => view_get) ra
    obtain ⟨bs, eb⟩ := reads_pair (fun b o => view_get) rb
    exact ⟨fun Q h => eq_dataH ea eb (shaped_pair _ _) (shaped_pair _ _) hu (by rw [eqv_pair]; exact h), fun Q h => ne_dataH ea eb (shaped_pair _ _) (shaped_pair _ _) hu (by rw [eqv_pair]; exact h)⟩
  rcases alt_ok e with e | e
  · obtain ⟨p, q, e1, e2, e⟩ := on2_ok e
    obtain rfl := AV.l?_ok e1
    obtain rfl := AV.l?_ok e2
    obtain ⟨h, e⟩ := when_ok e
    have h := (Bool.and_eq_true _ _).mp h
    obtain rfl := List.isEmpty_iff.mp h.1
    obtain rfl := List.isEmpty_iff.mp h.2
    cases e
    obtain ⟨as, ea⟩ := reads_nil (fun b o => view_get) ra
    obtain ⟨bs, eb⟩ := reads_nil (fun b o => view_get) rb
    exact ⟨fun Q h => eq_dataH ea eb shaped_nil shaped_nil hu h, fun Q h => ne_dataH ea eb shaped_nil shaped_nil hu h⟩
  · obtain ⟨p, q, hp, hq, e⟩ := on2_ok e
    obtain ⟨hn, e⟩ := when_ok e
    cases e
    obtain ⟨u, rfl⟩ := ra.ofSym hp
    obtain ⟨u', rfl⟩ := rb.ofSym hq
    have ez := nf_val H hn
    rw [ez]
    exact ⟨fun Q h => eq_int (by simpa using h), fun Q h => ne_int (by simpa using h)⟩

theorem idxV_ok {a b : Value} {x y v : AV} {Q : Value → Shared → Prop} (ra : RepV ρ (view X s.heap) a x) (rb : RepV ρ (view X s.heap) b y) (e : idxV x y = some v) (hQ : Out ρ X s v Q) :
    wpAny (model prog w) A (getItem a b) Q E s ∧ ∃ T id, typeLookup (.type T) "__getitem__" = pure (some (.builtin id)) ∧ s.TypeIs a T := by
  obtain ⟨k, e1, e⟩ := bd e
  obtain rfl := AV.i?_ok e1
  obtain ⟨hk, e⟩ := when_ok e
  simp only [Bool.and_eq_true, decide_eq_true_eq] at hk
  obtain ⟨l, e2, e⟩ := bd e
  cases rb with
  | int z t =>
  rcases AV.seq?_ok e2 with rfl | rfl
  · cases ra with
    | list h1 c d r =>
      obtain ⟨u, hu, ru⟩ := r.get e
      have hl : s.heap.IsList _ _ := ⟨_, view_get h1, c.1, _, d⟩
      exact ⟨wpAny_getItem_list hl hk.1 (by omega) (by simpa using hu) (hQ _ _ (Step.refl s) ru), _, _, PySem.F.slot_list_getitem.lookup, hl.typeIs⟩
  · cases ra with
    | tup h1 c d r =>
      obtain ⟨u, hu, ru⟩ := r.get e
      rename_i vals _
      have hl : IsTup s.heap _ vals := ⟨_, view_get h1, c, _, d⟩
      have hu' : vals[k.toNat]? = some u := by simpa using hu
      have hlt : k.toNat < vals.size := (Array.getElem?_eq_some_iff.mp hu').1
      refine ⟨getItem_tuple (j := k.toNat) hl (by omega) (by omega) ?_ hu' (hQ _ _ (Step.refl s) ru), _, _, slot_tuple_getitem.lookup, hl.typeIs⟩
      unfold seqIndex?
      have h2 : ¬ k < 0 := by omega
      have h3 : k < (vals.size : Int) := by omega
      simp [h2, hk.1, h3]

theorem small_iff {n : Nat} (h : small n = true) : n ≤ 1000 := Nat.le_of_ble_eq_true h

theorem len_list_ok {a : Value} {l : List AV} {Q : Value → Shared → Prop} (ra : RepV ρ (view X s.heap) a (.list l)) (hs : small l.length = true) (hQ : Out ρ X s (.int l.length) Q) :
    wpAny (model prog w) A (call (.builtin "len") [a]) Q E s := by
  have h := small_iff hs
  cases ra with
  | list h1 c d r =>
    have e := r.length
    simp only [Array.length_toList] at e
    refine call_len_list ⟨_, view_get h1, c.1, _, d⟩ (by omega) ?_
    rw [e]
    exact out_int hQ
theorem len_str_ok {a : Value} {l : List Nat} {Q : Value → Shared → Prop} (ra : RepV ρ (view X s.heap) a (.str l)) (hs : small l.length = true) (hQ : Out ρ X s (.int l.length) Q) :
    wpAny (model prog w) A (call (.builtin "len") [a]) Q E s := by
  have h := small_iff hs
  cases ra with
  | str _ t =>
    have e : (⟨l.toArray⟩ : Str).length = l.length := by show (l.toArray).size = _; simp
    refine len_str (by rw [e]; omega) ?_
    rw [e]
    exact out_int hQ

/-! the least of a list -/
theorem argBest_le (bt : Nat → Nat → Bool) : ∀ n, argBest bt n ≤ n
  | 0 => Nat.le_refl _
  | n + 1 => by
    unfold argBest
    split
    · exact Nat.le_refl _
    · exact Nat.le_succ_of_le (argBest_le bt n)
theorem argBest_least (f : Nat → Int) : ∀ n i, i ≤ n → f (argBest (fun i j => decide (f i < f j)) n) ≤ f i
  | 0, i, h => by have : i = 0 := by omega
                  subst this; exact Int.le_refl _
  | n + 1, i, h => by
    unfold argBest
    by_cases hc : f (n + 1) < f (argBest (fun i j => decide (f i < f j)) n)
    · rw [if_pos (decide_eq_true hc)]
      by_cases hi : i = n + 1
      · subst hi; exact Int.le_refl _
      · have := argBest_least f n i (by omega); omega
    · rw [if_neg (by simpa using hc)]
      by_cases hi : i = n + 1
      · subst hi; omega
      · exact argBest_least f n i (by omega)
theorem minSE_mem : ∀ (es : List SE) (a : SE), ∃ (i : Nat) (e : SE), (a :: es)[i]? = some e ∧ (minSE a es).val ρ = e.val ρ
  | [], a => ⟨0, a, rfl, rfl⟩
  | b :: r, a => by
    obtain ⟨i, e, hi, he⟩ := minSE_mem r (.mn a b)
    simp only [minSE]
    rw [he]
    cases i with
    | zero =>
      simp only [List.getElem?_cons_zero, Option.some.injEq] at hi
      subst hi
      by_cases h : a.val ρ ≤ b.val ρ
      · exact ⟨0, a, rfl, by simp only [SE.val]; omega⟩
      · exact ⟨1, b, rfl, by simp only [SE.val]; omega⟩
    | succ j => exact ⟨j + 2, e, by simpa using hi, rfl⟩
theorem minSE_le : ∀ (es : List SE) (a : SE) (i : Nat) (e : SE), (a :: es)[i]? = some e → (minSE a es).val ρ ≤ e.val ρ
  | [], a, i, e, h => by
    cases i with
    | zero => simp only [List.getElem?_cons_zero, Option.some.injEq] at h; subst h; exact Int.le_refl _
    | succ j => simp at h
  | b :: r, a, i, e, h => by
    simp only [minSE]
    have h0 := minSE_le r (.mn a b) 0 (.mn a b) rfl
    simp only [SE.val] at h0
    match i, h with
    | 0, h => simp only [List.getElem?_cons_zero, Option.some.injEq] at h; subst h; omega
    | 1, h => simp only [List.getElem?_cons_succ, List.getElem?_cons_zero, Option.some.injEq] at h; subst h; omega
    | j + 2, h => exact minSE_le r (.mn a b) (j + 1) e (by simpa using h)
theorem minSE_ub : ∀ (es : List SE) (a : SE), (minSE a es).ub = a.ub
  | [], _ => rfl
  | b :: r, a => by simp only [minSE]; rw [minSE_ub r]; rfl

theorem syms_items {G : Vw} : ∀ {vals : List Value} {l : List AV} {es : List SE}, RepVs ρ G vals l → symsOf l = some es →
    ∃ xs : List (Int × Tok), vals = xs.map (fun p => Value.int p.1 p.2) ∧ xs.length = es.length ∧ ∀ (i : Nat) (e : SE), es[i]? = some e → ∃ t, xs[i]? = some (e.val ρ, t)
  | _, _, _, .nil, h => by
    simp only [symsOf, Option.some.injEq] at h
    subst h
    exact ⟨[], rfl, rfl, fun i e he => by simp at he⟩
  | _, _, _, .cons r rs, h => by
    simp only [symsOf] at h
    split at h
    · rename_i e es he hes
      cases h
      obtain ⟨t, rfl⟩ := r.ofSym he
      obtain ⟨xs, rfl, hl, hx⟩ := syms_items rs hes
      refine ⟨(e.val ρ, t) :: xs, rfl, by simp [hl], fun i e' hi => ?_⟩
      cases i with
      | zero => simp only [List.getElem?_cons_zero, Option.some.injEq] at hi; subst hi; exact ⟨t, rfl⟩
      | succ j => simpa using hx j e' (by simpa using hi)
    · cases h

theorem min_ok {a : Value} {l : List AV} {e : SE} {es : List SE} {Q : Value → Shared → Prop} (hh : A.handled = none) (ra : RepV ρ (view X s.heap) a (.list l)) (he : symsOf l = some (e :: es))
    (hQ : Out ρ X s (.sym (minSE e es)) Q) : wpAny (model prog w) A (call (.builtin "min") [a]) Q E s := by
  cases ra with
  | list h1 c d r =>
    rename_i vals _
    obtain ⟨xs, hv, hl, hx⟩ := syms_items r he
    have hit : vals = intItems xs.toArray := by
      apply Array.ext'
      rw [hv]
      simp [intItems]
    have hlist : s.heap.IsList _ (intItems xs.toArray) := ⟨_, view_get h1, c.1, _, hit ▸ d⟩
    have hlen : xs.length = es.length + 1 := by rw [hl]; rfl
    have val : ∀ i e', (e :: es)[i]? = some e' → numAt xs.toArray i = e'.val ρ := fun i e' hi => by
      obtain ⟨t, ht⟩ := hx i e' hi
      simp [numAt, ht]
    refine min_intList hh hlist (by simp [hlen]) fun v h' tk hv' hk => ?_
    have hsz : xs.toArray.size - 1 = es.length := by simp [hlen]
    rw [hsz] at hv'
    have hb := argBest_le (fun i j => decide (numAt xs.toArray i < numAt xs.toArray j)) es.length
    obtain ⟨e', he'⟩ : ∃ e', (e :: es)[argBest (fun i j => decide (numAt xs.toArray i < numAt xs.toArray j)) es.length]? = some e' := by
      refine ⟨_, List.getElem?_eq_getElem (by simp; omega)⟩
    obtain ⟨t, ht⟩ := hx _ _ he'
    have hv2 : v = .int (e'.val ρ) t := by
      simp only [intItems] at hv'
      simp only [Array.getElem?_map, List.getElem?_toArray, ht, Option.map_some, Option.some.injEq] at hv'
      exact hv'.symm
    have hmin : e'.val ρ = (minSE e es).val ρ := by
      have h1' := minSE_le (ρ := ρ) es e _ _ he'
      obtain ⟨i, e2, hi, hm⟩ := minSE_mem (ρ := ρ) es e
      have hlt : i < (e :: es).length := (List.getElem?_eq_some_iff.mp hi).1
      have h2' := argBest_least (numAt xs.toArray) es.length i (by simpa using Nat.le_of_lt_succ hlt)
      rw [val _ _ he', val _ _ hi] at h2'
      omega
    rw [hv2, hmin]
    exact hQ _ _ (Step.of hk) (.sym _ t)
end
end Mine

set_option linter.unusedVariables false
namespace Mine
open PySem PySem.Calls PyProof.Rows

section
variable {prog : Program} {w : World} {A : Around} {E : Value → Shared → Prop} {s : Shared} {ρ : Nat → Int} {X : List Addr} {env : Env}

/-! slices -/
theorem adjust_upto (k n : Nat) (hk : k ≤ n) : Builtin.Slice.sliceAdjust none (some (k : Int)) 1 (n : Int) = (0, (k : Int)) := by
  unfold Builtin.Slice.sliceAdjust
  have h1 : ¬ ((1 : Int) < 0) := by omega
  have h2 : ¬ ((k : Int) < 0) := by omega
  simp only [h1, h2, if_false]
  congr 1
  omega
theorem places_upto (k : Nat) : Builtin.Slice.slicePlaces 0 (k : Int) 1 = k := by
  unfold Builtin.Slice.slicePlaces
  have h1 : (1 : Int) > 0 := by omega
  simp only [h1, if_true, Int.ediv_one]
  split <;> omega
theorem applied_upto {sl : Addr} {k n : Nat} {u : Tok} {Q : Int × Int × Nat → Shared → Prop} (hs : s.heap.IsSliceOf sl .none (.int k u) .none) (hk : k ≤ n) (h : Q (0, 1, k) s) :
    wpAny (model prog w) A (Builtin.Slice.sliceApplied (.ref sl) (pure (n : Int))) Q E s := by
  obtain ⟨os, hos, hcs, hds⟩ := id hs
  unfold Builtin.Slice.sliceApplied Builtin.Slice.sliceFields
  refine wpAny_bind (wpAny_bind (wpAny_field hos hds (x := .none) rfl (wpAny_bind (wpAny_field hos hds (x := .int k u) rfl (wpAny_bind (wpAny_field hos hds (x := .none) rfl (wpAny_pure ?_)))))))
  refine wpAny_bind (slicePart_none ?_)
  show wpAny _ _ (if ((1 : Int) == 0) = true then _ else _) _ _ s
  rw [if_neg (by decide)]
  refine wpAny_bind (slicePart_none (wpAny_bind (slicePart_int (wpAny_bind (wpAny_pure ?_)))))
  show wpAny _ _ (match Builtin.Slice.sliceAdjust none (some (k : Int)) 1 (n : Int) with | (lo, hi) => pure (lo, (1 : Int), Builtin.Slice.slicePlaces lo hi 1)) _ _ s
  rw [adjust_upto k n hk]
  show wpAny _ _ (pure ((0 : Int), (1 : Int), Builtin.Slice.slicePlaces 0 (k : Int) 1)) _ _ s
  rw [places_upto k]
  exact wpAny_pure h
theorem pick_upto (xs : Array Value) (k : Nat) : ((List.range k).filterMap fun (j : Nat) => xs[((0 : Int) + (j : Int) * 1).toNat]?).toArray = (xs.toList.take k).toArray := by
  have e : (fun (j : Nat) => xs[((0 : Int) + (j : Int) * 1).toNat]?) = fun j => xs[0 + j]? := by
    funext j
    have : ((0 : Int) + (j : Int) * 1).toNat = 0 + j := by omega
    rw [this]
  rw [e]
  have := pick_run xs 0 k
  rw [List.filterMap_map] at this
  have e2 : ((fun x => xs[x]?) ∘ fun x => 0 + x) = fun j => xs[0 + j]? := rfl
  rw [e2] at this
  rw [this]
  rfl
theorem tuple_upto {t sl : Addr} {items : Array Value} {k : Nat} {u : Tok} {Q : Value → Shared → Prop} (ht : IsTup s.heap t items) (hs : s.heap.IsSliceOf sl .none (.int k u) .none) (h0 : 0 < k) (hk : k < items.size)
    (hsz : items.size ≤ sizeLine) (h : Q (.ref s.heap.objs.size) { s with heap := s.heap.push { cls := .type "tuple", data := .seq (items.toList.take k).toArray } }) :
    wpAny (model prog w) A (getItem (.ref t) (.ref sl)) Q E s := by
  have htake : sizeOk (.seq (items.toList.take k).toArray) := by
    show (items.toList.take k).toArray.size ≤ sizeLine
    rw [List.size_toArray, List.length_take, Array.length_toList]
    omega
  obtain ⟨os, hos, hcs, hds⟩ := id hs
  have hTs : s.TypeIs (.ref sl) "slice" := ⟨os, hos, hcs⟩
  unfold getItem
  try with_reducible refine wpAny_holding ?_
  first | refine wpAny_bind (wpAny_pure ?_) | skip
  refine wpAny_bind (wpAny_sequenceKey ht.typeIs (by decide) ?_)
  refine wpAny_bind (wpAny_callSpecial?_slot (name := Str.ofString "__getitem__") ht.typeIs slot_tuple_getitem
    (wpAny_call_entry slot_tuple_getitem ht.typeIs entry_tuple_getitem ?_ (args_tuple_getitem _ _)))
  show wpAny _ _ (Builtin.Tuple.tupleItemsOf (.ref t) >>= _) _ _ s
  refine wpAny_bind (tupleItemsOf_ ht ?_)
  refine wpAny_bind (wpAny_typeOf hTs ?_)
  rw [if_pos (by decide)]
  refine wpAny_bind (applied_upto hs (Nat.le_of_lt hk) ?_)
  have hno : ¬ (((0 : Int) == 0 && (1 : Int) == 1 && k == items.size) = true) := by
    have : (k == items.size) = false := by rw [beq_eq_false_iff_ne]; omega
    rw [this]; simp
  show wpAny _ _ (if ((0 : Int) == 0 && (1 : Int) == 1 && k == items.size) = true then _ else _) _ _ s
  rw [if_neg hno, pick_upto items k]
  first
    | exact wpAny_bind (m := Builtin.Tuple.tupleExact _) (wpAny_newObj_type (wpAny_pure ⟨_, rfl, wpAny_pure h⟩) htake)
    | exact wpAny_bind (m := Builtin.Tuple.tupleExact _) (wpAny_newObj_type (wpAny_bind (wpAny_pure (wpAny_pure ⟨_, rfl, wpAny_pure h⟩))) htake)
    | exact wpAny_bind (wpAny_bind (m := Builtin.Tuple.tupleExact _) (wpAny_newObj_type (wpAny_pure (wpAny_pure ⟨_, rfl, wpAny_pure h⟩)) htake))

abbrev smap (s : Shared) (o : Obj) : Shared := { s with heap := s.heap.push o }
/-- value[k:] of a list, value[:k] of a list or tuple, value[::-1] of a list; value is a name -/
theorem slFrom_ok {x : Str} {k : Nat} {p1 p2 p3 p : Pos} {kk : Nat} {l : List AV} {Q : Value → Shared → Prop} (hl : small l.length = true)
    (h : ∀ Q' : Value → Shared → Prop, (∀ s' val, Step s s' → Dom X s'.heap → RepV ρ (view X s'.heap) val (.list l) → Q' val s') → wpAny (model prog w) A (eval (.Name x p1) env) Q' E s)
    (hQ : Out ρ X s (.list (l.drop k)) Q) :
    wpAny (model prog w) A (eval (.Subscript (.Name x p1) (.Slice (some (.Constant (.int (k : Int)) kk p2)) none none p3) p) env) Q E s := by
  refine wpAny_Subscript_list_slice (h _ fun s1 val st1 D1 r1 => ?_)
  refine wpAny_Constant_int (k := kk) (pos := p2) ?_
  refine wpAny_pure ?_
  cases r1 with
  | list h1 c d r =>
    have e := r.length
    simp only [Array.length_toList] at e
    have := small_iff hl
    rename_i vals _
    refine ⟨_, _, _, _, rfl, ⟨_, view_get h1, c.1, _, d⟩, by rw [sizeLine_eq]; omega, .int _ _, .none, ?_⟩
    rw [slicePick_from']
    have E1 : Ext s1.heap ((s1.heap.push { cls := Value.type "slice", data := Data.fields #[Value.int ↑k s1.toks, Value.none, Value.none] }).push { cls := Value.type "list", data := Data.seq (List.drop k vals.toList).toArray }) := (Ext.push _ _).trans (Ext.push _ _)
    refine hQ _ _ (st1.trans (Step.of (tk := s1.toks + 1) E1)) ?_
    have D2 : Dom X (s1.heap.push { cls := Value.type "slice", data := Data.fields #[Value.int ↑k s1.toks, Value.none, Value.none] }) := D1.mono (Ext.push _ _)
    have v := view_push D2 (o := { cls := Value.type "list", data := Data.seq (List.drop k vals.toList).toArray }) rfl
    rw [Heap.size_push] at v
    refine .list v ⟨rfl, rfl⟩ rfl ?_
    simpa using (r.drop k).mono (E1.view X)
theorem slToL_ok {x : Str} {k : Nat} {p1 p2 p3 p : Pos} {kk : Nat} {l : List AV} {Q : Value → Shared → Prop} (hl : small l.length = true)
    (h : ∀ Q' : Value → Shared → Prop, (∀ s' val, Step s s' → Dom X s'.heap → RepV ρ (view X s'.heap) val (.list l) → Q' val s') → wpAny (model prog w) A (eval (.Name x p1) env) Q' E s)
    (hQ : Out ρ X s (.list (l.take k)) Q) :
    wpAny (model prog w) A (eval (.Subscript (.Name x p1) (.Slice none (some (.Constant (.int (k : Int)) kk p2)) none p3) p) env) Q E s := by
  refine wpAny_Subscript_list_slice (h _ fun s1 val st1 D1 r1 => ?_)
  refine wpAny_pure ?_
  refine wpAny_Constant_int (k := kk) (pos := p2) ?_
  cases r1 with
  | list h1 c d r =>
    have e := r.length
    simp only [Array.length_toList] at e
    have := small_iff hl
    rename_i vals _
    refine ⟨_, _, _, _, rfl, ⟨_, view_get h1, c.1, _, d⟩, by rw [sizeLine_eq]; omega, .none, .int _ _, ?_⟩
    rw [slicePick_upto']
    have E1 : Ext s1.heap ((s1.heap.push { cls := Value.type "slice", data := Data.fields #[Value.none, Value.int ↑k s1.toks, Value.none] }).push { cls := Value.type "list", data := Data.seq (List.take k vals.toList).toArray }) := (Ext.push _ _).trans (Ext.push _ _)
    refine hQ _ _ (st1.trans (Step.of (tk := s1.toks + 1) E1)) ?_
    have D2 : Dom X (s1.heap.push { cls := Value.type "slice", data := Data.fields #[Value.none, Value.int ↑k s1.toks, Value.none] }) := D1.mono (Ext.push _ _)
    have v := view_push D2 (o := { cls := Value.type "list", data := Data.seq (List.take k vals.toList).toArray }) rfl
    rw [Heap.size_push] at v
    refine .list v ⟨rfl, rfl⟩ rfl ?_
    simpa using (r.take k).mono (E1.view X)
theorem slToT_ok {x : Str} {k : Nat} {p1 p2 p3 p : Pos} {kk : Nat} {l : List AV} {Q : Value → Shared → Prop} (hl : small l.length = true) (h0 : 0 < k) (hk : k < l.length)
    (h : ∀ Q' : Value → Shared → Prop, (∀ s' val, Step s s' → Dom X s'.heap → RepV ρ (view X s'.heap) val (.tup l) → Q' val s') → wpAny (model prog w) A (eval (.Name x p1) env) Q' E s)
    (hQ : Out ρ X s (.tup (l.take k)) Q) :
    wpAny (model prog w) A (eval (.Subscript (.Name x p1) (.Slice none (some (.Constant (.int (k : Int)) kk p2)) none p3) p) env) Q E s := by
  refine Subscript_ (h _ fun s1 val st1 D1 r1 => ?_)
  refine wpAny_Slice (wpAny_pure (wpAny_Constant_int (k := kk) (pos := p2) (wpAny_pure ?_)))
  cases r1 with
  | tup h1 c d r =>
    have e := r.length
    simp only [Array.length_toList] at e
    have := small_iff hl
    rename_i vals _
    have hT : IsTup (s1.heap.push { cls := Value.type "slice", data := Data.fields #[Value.none, Value.int ↑k s1.toks, Value.none] }) _ vals := ⟨_, Heap.get?_push_of_some _ (view_get h1), c, _, d⟩
    refine tail_any (ops := [_, _]) hT.typeIs slot_tuple_getitem.lookup (tuple_upto hT (Heap.IsSliceOf.new ..) h0 (by omega) (by rw [sizeLine_eq]; omega) ?_) rfl
    have E1 : Ext s1.heap ((s1.heap.push { cls := Value.type "slice", data := Data.fields #[Value.none, Value.int ↑k s1.toks, Value.none] }).push { cls := Value.type "tuple", data := Data.seq (List.take k vals.toList).toArray }) := (Ext.push _ _).trans (Ext.push _ _)
    refine hQ _ _ (st1.trans (Step.of (tk := s1.toks + 1) E1)) ?_
    have D2 : Dom X (s1.heap.push { cls := Value.type "slice", data := Data.fields #[Value.none, Value.int ↑k s1.toks, Value.none] }) := D1.mono (Ext.push _ _)
    refine .tup (view_push D2 rfl) rfl rfl ?_
    simpa using (r.take k).mono (E1.view X)
theorem rev_ok {x : Str} {p1 p2 p3 p4 p : Pos} {kk : Nat} {l : List AV} {Q : Value → Shared → Prop} (hl : small l.length = true)
    (h : ∀ Q' : Value → Shared → Prop, (∀ s' val, Step s s' → Dom X s'.heap → RepV ρ (view X s'.heap) val (.list l) → Q' val s') → wpAny (model prog w) A (eval (.Name x p1) env) Q' E s)
    (hQ : Out ρ X s (.list l.reverse) Q) :
    wpAny (model prog w) A (eval (.Subscript (.Name x p1) (.Slice none none (some (.UnaryOp .USub (.Constant (.int 1) kk p2) p3)) p4) p) env) Q E s := by
  refine Subscript_ (h _ fun s1 val st1 D1 r1 => ?_)
  refine wpAny_Slice (wpAny_pure (wpAny_pure (wpAny_UnaryOp (op := .USub) (x := .Constant (.int 1) kk p2) (pos := p3) (wpAny_Constant_int (neg_int ?_)))))
  cases r1 with
  | list h1 c d r =>
    have e := r.length
    simp only [Array.length_toList] at e
    have := small_iff hl
    rename_i vals _
    have hT : (s1.heap.push { cls := Value.type "slice", data := Data.fields #[Value.none, Value.none, Value.int (-1) (s1.toks + 1)] }).IsList _ vals := ⟨_, Heap.get?_push_of_some _ (view_get h1), c.1, _, d⟩
    refine tail_any (ops := [_, _]) hT.typeIs PySem.F.slot_list_getitem.lookup (wpAny_getItem_list_slice hT (Heap.IsSliceOf.new ..) .none .none (.int (-1) _) (by decide) ?_ (by rw [sizeLine_eq]; omega)) rfl
    rw [PySem.W.krv_pick]
    have E1 : Ext s1.heap ((s1.heap.push { cls := Value.type "slice", data := Data.fields #[Value.none, Value.none, Value.int (-1) (s1.toks + 1)] }).push { cls := Value.type "list", data := Data.seq vals.toList.reverse.toArray }) := (Ext.push _ _).trans (Ext.push _ _)
    refine hQ _ _ (st1.trans (Step.of (tk := s1.toks + 1 + 1) E1)) ?_
    have D2 : Dom X (s1.heap.push { cls := Value.type "slice", data := Data.fields #[Value.none, Value.none, Value.int (-1) (s1.toks + 1)] }) := D1.mono (Ext.push _ _)
    refine .list (view_push D2 rfl) ⟨rfl, rfl⟩ rfl ?_
    simpa using r.reverse.mono (E1.view X)
end
end Mine

set_option linter.unusedVariables false
namespace Mine
open PySem PySem.Calls PyProof.Rows
/-- the defs' names by their numbers; 5 is the def that is not run by the terms -/
noncomputable def fname : Nat → Option String
  | 5 => some "_check_parenthesis"
  | n => (fnOf n).map (·.name)

abbrev NK := List (Str × NameKind)
noncomputable def plainIx (e : PySem.Expr) : Bool := !(Nat.beq e.ctorIdx 26)
/-- no slice: subscripted asks the item at once -/
theorem subscripted_plain {e : Expr} (h : plainIx e = true) (o i : Value) : subscripted e false o i = operate [o, i] (getItem o i) := by
  unfold subscripted
  cases e <;> first | rfl | exact (Bool.false_ne_true h).elim

/-- two lists of one length, item by item -/
noncomputable def All2 {α β : Type} (P : α → β → Prop) : List α → List β → Prop
  | [], [] => True
  | a :: l, b :: m => P a b ∧ All2 P l m
  | _, _ => False
inductive IsT (nk : NK) : Option Nat → List Str → PySem.Expr → Prop
  | one {x} (p : Pos) : nk.lookup x = some .local → IsT nk none [x] (.Name x p)
  | two {x y} (p1 p2 p : Pos) (k : Nat) : nk.lookup x = some .local → nk.lookup y = some .local → x ≠ y → IsT nk (some 2) [x, y] (.Tuple [.Name x p1, .Name y p2] k p)
  | three {x y z} (p1 p2 p3 p : Pos) (k : Nat) : nk.lookup x = some .local → nk.lookup y = some .local → nk.lookup z = some .local → x ≠ y → x ≠ z → y ≠ z → IsT nk (some 3) [x, y, z] (.Tuple [.Name x p1, .Name y p2, .Name z p3] k p)
inductive IsI1 (P : NK → List Str → List Str → List Str → ME → PySem.Expr → Prop) (nk : NK) (ns os ts : List Str) : MI → PySem.Expr → Prop
  | ex {m e} : P nk ns os ts m e → (∀ (env : Env) (x : Value), foldedSetIterable e env x = pure x) → IsI1 P nk ns os ts (.ex m) e
  | range1 {a ea} (p1 p : Pos) : nk.lookup ("range" : Str) = some .globalImplicit → P nk ns os ts a ea → IsI1 P nk ns os ts (.range1 a) (.Call (.Name ("range" : Str) p1) [ea] [] p)
  | range2 {a b ea eb} (p1 p : Pos) : nk.lookup ("range" : Str) = some .globalImplicit → P nk ns os ts a ea → P nk ns os ts b eb → IsI1 P nk ns os ts (.range2 a b) (.Call (.Name ("range" : Str) p1) [ea, eb] [] p)
inductive IsC1 (P : NK → List Str → List Str → List Str → ME → PySem.Expr → Prop) (nk : NK) (tns ns : List Str) : Option ME → List PySem.Expr → Prop
  | none : IsC1 P nk tns ns none []
  | some {m e} : P nk tns ns ns m e → IsC1 P nk tns ns (some m) [e]
inductive IsE1 (P : NK → List Str → List Str → List Str → ME → PySem.Expr → Prop) (nk : NK) (ns os ts : List Str) : ME → PySem.Expr → Prop
  | int (n : Int) (k : Nat) (p : Pos) : IsE1 P nk ns os ts (.int n) (.Constant (.int n) k p)
  | bool (b : Bool) (k : Nat) (p : Pos) : IsE1 P nk ns os ts (.bool b) (.Constant (.bool b) k p)
  | str {l : List Nat} {x : Str} (k : Nat) (p : Pos) : x = ⟨l.toArray⟩ → IsE1 P nk ns os ts (.str l) (.Constant (.str x) k p)
  | var {i : Nat} {x : Str} (p : Pos) : ns[i]? = some x → (x == ("__debug__" : Str)) = false → IsE1 P nk ns os ts (.var i) (.Name x p)
  | fre {i : Nat} {x : Str} (p : Pos) : os[i]? = some x → nk.lookup x = some .free → (x == ("__debug__" : Str)) = false → IsE1 P nk ns os ts (.fre i) (.Name x p)
  | add {a b ea eb} (p : Pos) : P nk ns os ts a ea → P nk ns os ts b eb → IsE1 P nk ns os ts (.add a b) (.BinOp ea .Add eb p)
  | sub {a b ea eb} (p : Pos) : P nk ns os ts a ea → P nk ns os ts b eb → IsE1 P nk ns os ts (.sub a b) (.BinOp ea .Sub eb p)
  | mul {a b ea eb} (p : Pos) : P nk ns os ts a ea → P nk ns os ts b eb → IsE1 P nk ns os ts (.mul a b) (.BinOp ea .Mult eb p)
  | eq {a b ea eb} (p : Pos) : P nk ns os ts a ea → P nk ns os ts b eb → IsE1 P nk ns os ts (.eq a b) (.Compare ea [.Eq] [eb] p)
  | ne {a b ea eb} (p : Pos) : P nk ns os ts a ea → P nk ns os ts b eb → IsE1 P nk ns os ts (.ne a b) (.Compare ea [.NotEq] [eb] p)
  | lt {a b ea eb} (p : Pos) : P nk ns os ts a ea → P nk ns os ts b eb → IsE1 P nk ns os ts (.lt a b) (.Compare ea [.Lt] [eb] p)
  | gt {a b ea eb} (p : Pos) : P nk ns os ts a ea → P nk ns os ts b eb → IsE1 P nk ns os ts (.gt a b) (.Compare ea [.Gt] [eb] p)
  | and {a b ea eb} (p : Pos) : P nk ns os ts a ea → P nk ns os ts b eb → IsE1 P nk ns os ts (.and a b) (.BoolOp .And [ea, eb] p)
  | or {a b ea eb} (p : Pos) : P nk ns os ts a ea → P nk ns os ts b eb → IsE1 P nk ns os ts (.or a b) (.BoolOp .Or [ea, eb] p)
  | not {a ea} (p : Pos) : P nk ns os ts a ea → IsE1 P nk ns os ts (.not a) (.UnaryOp .Not ea p)
  | ife {c a b ec ea eb} (p : Pos) : P nk ns os ts c ec → P nk ns os ts a ea → P nk ns os ts b eb → IsE1 P nk ns os ts (.ife c a b) (.IfExp ec ea eb p)
  | tup {l es} (k : Nat) (p : Pos) : All2 (P nk ns os ts) l es → IsE1 P nk ns os ts (.tup l) (.Tuple es k p)
  | list {l es} (p : Pos) : All2 (P nk ns os ts) l es → IsE1 P nk ns os ts (.list l) (.List es p)
  | edict (p : Pos) : IsE1 P nk ns os ts .edict (.Dict [] [] p)
  | idx {a i ea ei} (p : Pos) : P nk ns os ts a ea → P nk ns os ts i ei → plainIx ei = true → IsE1 P nk ns os ts (.idx a i) (.Subscript ea ei p)
  | slFrom {a x k} (p1 p2 p3 p : Pos) (kk : Nat) : P nk ns os ts a (.Name x p1) → IsE1 P nk ns os ts (.slFrom a k) (.Subscript (.Name x p1) (.Slice (some (.Constant (.int (k : Int)) kk p2)) none none p3) p)
  | slTo {a x k} (p1 p2 p3 p : Pos) (kk : Nat) : P nk ns os ts a (.Name x p1) → IsE1 P nk ns os ts (.slTo a k) (.Subscript (.Name x p1) (.Slice none (some (.Constant (.int (k : Int)) kk p2)) none p3) p)
  | rev {a x} (p1 p2 p3 p4 p : Pos) (kk : Nat) : P nk ns os ts a (.Name x p1) → IsE1 P nk ns os ts (.rev a) (.Subscript (.Name x p1) (.Slice none none (some (.UnaryOp .USub (.Constant (.int 1) kk p2) p3)) p4) p)
  | tab {a b ea eb x j} (p1 p2 p : Pos) (k : Nat) : ts[j]? = some x → (nk.lookup x = some .cell ∨ nk.lookup x = some .free) → (x == ("__debug__" : Str)) = false → P nk ns os ts a ea → P nk ns os ts b eb →
      IsE1 P nk ns os ts (.tab j a b) (.Subscript (.Name x p1) (.Tuple [ea, eb] k p2) p)
  | call {f nm l es} (p1 p : Pos) : fname f = some nm → nk.lookup (Str.ofString nm) = some .globalImplicit → ((Str.ofString nm) == ("__debug__" : Str)) = false → All2 (P nk ns os ts) l es → es ≠ [] →
      IsE1 P nk ns os ts (.call f l) (.Call (.Name (Str.ofString nm) p1) es [] p)
  | len {a ea} (p1 p : Pos) : nk.lookup ("len" : Str) = some .globalImplicit → P nk ns os ts a ea → IsE1 P nk ns os ts (.len a) (.Call (.Name ("len" : Str) p1) [ea] [] p)
  | lenDict {a ea} (p1 p2 p3 p : Pos) : nk.lookup ("len" : Str) = some .globalImplicit → nk.lookup ("dict" : Str) = some .globalImplicit → P nk ns os ts a ea →
      IsE1 P nk ns os ts (.lenDict a) (.Call (.Name ("len" : Str) p1) [.Call (.Name ("dict" : Str) p2) [ea] [] p3] [] p)
  | min {a ea} (p1 p : Pos) : nk.lookup ("min" : Str) = some .globalImplicit → P nk ns os ts a ea → IsE1 P nk ns os ts (.min a) (.Call (.Name ("min" : Str) p1) [ea] [] p)
  | mod {a ea k} (p p2 : Pos) (kk : Nat) : P nk ns os ts a ea → IsE1 P nk ns os ts (.mod a k) (.BinOp ea .Mod (.Constant (.int (k : Int)) kk p2) p)
  | max2 {a b ea eb} (p1 p : Pos) : nk.lookup ("max" : Str) = some .globalImplicit → P nk ns os ts a ea → P nk ns os ts b eb → IsE1 P nk ns os ts (.max2 a b) (.Call (.Name ("max" : Str) p1) [ea, eb] [] p)
  | min2 {a b ea eb} (p1 p : Pos) : nk.lookup ("min" : Str) = some .globalImplicit → P nk ns os ts a ea → P nk ns os ts b eb → IsE1 P nk ns os ts (.min2 a b) (.Call (.Name ("min" : Str) p1) [ea, eb] [] p)
  | slToE {a b ea eb} (p3 p : Pos) : P nk ns os ts a ea → P nk ns os ts b eb → IsE1 P nk ns os ts (.slToE a b) (.Subscript ea (.Slice none (some eb) none p3) p)
  | comp {elt tg it cond elte gs scope} (p : Pos) : IsE1 P nk ns os ts (.comp elt tg it cond) (.ListComp elte gs scope p)
end Mine

set_option linter.unusedVariables false
namespace Mine
open PySem PySem.Calls PyProof.Rows
noncomputable def eConstant (f : Const → Nat → Pos → Bool) (e : PySem.Expr) : Bool := if h : e.ctorIdx = 19 then PySem.Expr.Constant.elim (motive_1 := fun _ => Bool) e h f else false
theorem eConstant_ok {f : Const → Nat → Pos → Bool} {e : PySem.Expr} (h : eConstant f e = true) : ∃ x0 x1 x2, e = PySem.Expr.Constant x0 x1 x2 ∧ f x0 x1 x2 = true := by
  unfold eConstant at h
  split at h
  · rename_i hi
    obtain ⟨x0, x1, x2, rfl⟩ : ∃ x0 x1 x2, e = PySem.Expr.Constant x0 x1 x2 := PySem.Expr.Constant.elim (motive_1 := fun e => ∃ x0 x1 x2, e = PySem.Expr.Constant x0 x1 x2) e hi fun x0 x1 x2 => ⟨x0, x1, x2, rfl⟩
    exact ⟨x0, x1, x2, rfl, h⟩
  · exact (Bool.false_ne_true h).elim
noncomputable def eBinOp (f : PySem.Expr → Operator → PySem.Expr → Pos → Bool) (e : PySem.Expr) : Bool := if h : e.ctorIdx = 2 then PySem.Expr.BinOp.elim (motive_1 := fun _ => Bool) e h f else false
theorem eBinOp_ok {f : PySem.Expr → Operator → PySem.Expr → Pos → Bool} {e : PySem.Expr} (h : eBinOp f e = true) : ∃ x0 x1 x2 x3, e = PySem.Expr.BinOp x0 x1 x2 x3 ∧ f x0 x1 x2 x3 = true := by
  unfold eBinOp at h
  split at h
  · rename_i hi
    obtain ⟨x0, x1, x2, x3, rfl⟩ : ∃ x0 x1 x2 x3, e = PySem.Expr.BinOp x0 x1 x2 x3 := PySem.Expr.BinOp.elim (motive_1 := fun e => ∃ x0 x1 x2 x3, e = PySem.Expr.BinOp x0 x1 x2 x3) e hi fun x0 x1 x2 x3 => ⟨x0, x1, x2, x3, rfl⟩
    exact ⟨x0, x1, x2, x3, rfl, h⟩
  · exact (Bool.false_ne_true h).elim
noncomputable def eCompare (f : PySem.Expr → List CmpOp → List PySem.Expr → Pos → Bool) (e : PySem.Expr) : Bool := if h : e.ctorIdx = 15 then PySem.Expr.Compare.elim (motive_1 := fun _ => Bool) e h f else false
theorem eCompare_ok {f : PySem.Expr → List CmpOp → List PySem.Expr → Pos → Bool} {e : PySem.Expr} (h : eCompare f e = true) : ∃ x0 x1 x2 x3, e = PySem.Expr.Compare x0 x1 x2 x3 ∧ f x0 x1 x2 x3 = true := by
  unfold eCompare at h
  split at h
  · rename_i hi
    obtain ⟨x0, x1, x2, x3, rfl⟩ : ∃ x0 x1 x2 x3, e = PySem.Expr.Compare x0 x1 x2 x3 := PySem.Expr.Compare.elim (motive_1 := fun e => ∃ x0 x1 x2 x3, e = PySem.Expr.Compare x0 x1 x2 x3) e hi fun x0 x1 x2 x3 => ⟨x0, x1, x2, x3, rfl⟩
    exact ⟨x0, x1, x2, x3, rfl, h⟩
  · exact (Bool.false_ne_true h).elim
noncomputable def eBoolOp (f : BoolOp → List PySem.Expr → Pos → Bool) (e : PySem.Expr) : Bool := if h : e.ctorIdx = 0 then PySem.Expr.BoolOp.elim (motive_1 := fun _ => Bool) e h f else false
theorem eBoolOp_ok {f : BoolOp → List PySem.Expr → Pos → Bool} {e : PySem.Expr} (h : eBoolOp f e = true) : ∃ x0 x1 x2, e = PySem.Expr.BoolOp x0 x1 x2 ∧ f x0 x1 x2 = true := by
  unfold eBoolOp at h
  split at h
  · rename_i hi
    obtain ⟨x0, x1, x2, rfl⟩ : ∃ x0 x1 x2, e = PySem.Expr.BoolOp x0 x1 x2 := PySem.Expr.BoolOp.elim (motive_1 := fun e => ∃ x0 x1 x2, e = PySem.Expr.BoolOp x0 x1 x2) e hi fun x0 x1 x2 => ⟨x0, x1, x2, rfl⟩
    exact ⟨x0, x1, x2, rfl, h⟩
  · exact (Bool.false_ne_true h).elim
noncomputable def eUnaryOp (f : UnaryOp → PySem.Expr → Pos → Bool) (e : PySem.Expr) : Bool := if h : e.ctorIdx = 3 then PySem.Expr.UnaryOp.elim (motive_1 := fun _ => Bool) e h f else false
theorem eUnaryOp_ok {f : UnaryOp → PySem.Expr → Pos → Bool} {e : PySem.Expr} (h : eUnaryOp f e = true) : ∃ x0 x1 x2, e = PySem.Expr.UnaryOp x0 x1 x2 ∧ f x0 x1 x2 = true := by
  unfold eUnaryOp at h
  split at h
  · rename_i hi
    obtain ⟨x0, x1, x2, rfl⟩ : ∃ x0 x1 x2, e = PySem.Expr.UnaryOp x0 x1 x2 := PySem.Expr.UnaryOp.elim (motive_1 := fun e => ∃ x0 x1 x2, e = PySem.Expr.UnaryOp x0 x1 x2) e hi fun x0 x1 x2 => ⟨x0, x1, x2, rfl⟩
    exact ⟨x0, x1, x2, rfl, h⟩
  · exact (Bool.false_ne_true h).elim
noncomputable def eIfExp (f : PySem.Expr → PySem.Expr → PySem.Expr → Pos → Bool) (e : PySem.Expr) : Bool := if h : e.ctorIdx = 5 then PySem.Expr.IfExp.elim (motive_1 := fun _ => Bool) e h f else false
theorem eIfExp_ok {f : PySem.Expr → PySem.Expr → PySem.Expr → Pos → Bool} {e : PySem.Expr} (h : eIfExp f e = true) : ∃ x0 x1 x2 x3, e = PySem.Expr.IfExp x0 x1 x2 x3 ∧ f x0 x1 x2 x3 = true := by
  unfold eIfExp at h
  split at h
  · rename_i hi
    obtain ⟨x0, x1, x2, x3, rfl⟩ : ∃ x0 x1 x2 x3, e = PySem.Expr.IfExp x0 x1 x2 x3 := PySem.Expr.IfExp.elim (motive_1 := fun e => ∃ x0 x1 x2 x3, e = PySem.Expr.IfExp x0 x1 x2 x3) e hi fun x0 x1 x2 x3 => ⟨x0, x1, x2, x3, rfl⟩
    exact ⟨x0, x1, x2, x3, rfl, h⟩
  · exact (Bool.false_ne_true h).elim
noncomputable def eTuple (f : List PySem.Expr → Nat → Pos → Bool) (e : PySem.Expr) : Bool := if h : e.ctorIdx = 25 then PySem.Expr.Tuple.elim (motive_1 := fun _ => Bool) e h f else false
theorem eTuple_ok {f : List PySem.Expr → Nat → Pos → Bool} {e : PySem.Expr} (h : eTuple f e = true) : ∃ x0 x1 x2, e = PySem.Expr.Tuple x0 x1 x2 ∧ f x0 x1 x2 = true := by
  unfold eTuple at h
  split at h
  · rename_i hi
    obtain ⟨x0, x1, x2, rfl⟩ : ∃ x0 x1 x2, e = PySem.Expr.Tuple x0 x1 x2 := PySem.Expr.Tuple.elim (motive_1 := fun e => ∃ x0 x1 x2, e = PySem.Expr.Tuple x0 x1 x2) e hi fun x0 x1 x2 => ⟨x0, x1, x2, rfl⟩
    exact ⟨x0, x1, x2, rfl, h⟩
  · exact (Bool.false_ne_true h).elim
noncomputable def eList (f : List PySem.Expr → Pos → Bool) (e : PySem.Expr) : Bool := if h : e.ctorIdx = 24 then PySem.Expr.List.elim (motive_1 := fun _ => Bool) e h f else false
theorem eList_ok {f : List PySem.Expr → Pos → Bool} {e : PySem.Expr} (h : eList f e = true) : ∃ x0 x1, e = PySem.Expr.List x0 x1 ∧ f x0 x1 = true := by
  unfold eList at h
  split at h
  · rename_i hi
    obtain ⟨x0, x1, rfl⟩ : ∃ x0 x1, e = PySem.Expr.List x0 x1 := PySem.Expr.List.elim (motive_1 := fun e => ∃ x0 x1, e = PySem.Expr.List x0 x1) e hi fun x0 x1 => ⟨x0, x1, rfl⟩
    exact ⟨x0, x1, rfl, h⟩
  · exact (Bool.false_ne_true h).elim
noncomputable def eDict (f : List (Option PySem.Expr) → List PySem.Expr → Pos → Bool) (e : PySem.Expr) : Bool := if h : e.ctorIdx = 6 then PySem.Expr.Dict.elim (motive_1 := fun _ => Bool) e h f else false
theorem eDict_ok {f : List (Option PySem.Expr) → List PySem.Expr → Pos → Bool} {e : PySem.Expr} (h : eDict f e = true) : ∃ x0 x1 x2, e = PySem.Expr.Dict x0 x1 x2 ∧ f x0 x1 x2 = true := by
  unfold eDict at h
  split at h
  · rename_i hi
    obtain ⟨x0, x1, x2, rfl⟩ : ∃ x0 x1 x2, e = PySem.Expr.Dict x0 x1 x2 := PySem.Expr.Dict.elim (motive_1 := fun e => ∃ x0 x1 x2, e = PySem.Expr.Dict x0 x1 x2) e hi fun x0 x1 x2 => ⟨x0, x1, x2, rfl⟩
    exact ⟨x0, x1, x2, rfl, h⟩
  · exact (Bool.false_ne_true h).elim
noncomputable def eSubscript (f : PySem.Expr → PySem.Expr → Pos → Bool) (e : PySem.Expr) : Bool := if h : e.ctorIdx = 21 then PySem.Expr.Subscript.elim (motive_1 := fun _ => Bool) e h f else false
theorem eSubscript_ok {f : PySem.Expr → PySem.Expr → Pos → Bool} {e : PySem.Expr} (h : eSubscript f e = true) : ∃ x0 x1 x2, e = PySem.Expr.Subscript x0 x1 x2 ∧ f x0 x1 x2 = true := by
  unfold eSubscript at h
  split at h
  · rename_i hi
    obtain ⟨x0, x1, x2, rfl⟩ : ∃ x0 x1 x2, e = PySem.Expr.Subscript x0 x1 x2 := PySem.Expr.Subscript.elim (motive_1 := fun e => ∃ x0 x1 x2, e = PySem.Expr.Subscript x0 x1 x2) e hi fun x0 x1 x2 => ⟨x0, x1, x2, rfl⟩
    exact ⟨x0, x1, x2, rfl, h⟩
  · exact (Bool.false_ne_true h).elim
noncomputable def eSlice (f : Option PySem.Expr → Option PySem.Expr → Option PySem.Expr → Pos → Bool) (e : PySem.Expr) : Bool := if h : e.ctorIdx = 26 then PySem.Expr.Slice.elim (motive_1 := fun _ => Bool) e h f else false
theorem eSlice_ok {f : Option PySem.Expr → Option PySem.Expr → Option PySem.Expr → Pos → Bool} {e : PySem.Expr} (h : eSlice f e = true) : ∃ x0 x1 x2 x3, e = PySem.Expr.Slice x0 x1 x2 x3 ∧ f x0 x1 x2 x3 = true := by
  unfold eSlice at h
  split at h
  · rename_i hi
    obtain ⟨x0, x1, x2, x3, rfl⟩ : ∃ x0 x1 x2 x3, e = PySem.Expr.Slice x0 x1 x2 x3 := PySem.Expr.Slice.elim (motive_1 := fun e => ∃ x0 x1 x2 x3, e = PySem.Expr.Slice x0 x1 x2 x3) e hi fun x0 x1 x2 x3 => ⟨x0, x1, x2, x3, rfl⟩
    exact ⟨x0, x1, x2, x3, rfl, h⟩
  · exact (Bool.false_ne_true h).elim
noncomputable def eCall (f : PySem.Expr → List PySem.Expr → List Keyword → Pos → Bool) (e : PySem.Expr) : Bool := if h : e.ctorIdx = 16 then PySem.Expr.Call.elim (motive_1 := fun _ => Bool) e h f else false
theorem eCall_ok {f : PySem.Expr → List PySem.Expr → List Keyword → Pos → Bool} {e : PySem.Expr} (h : eCall f e = true) : ∃ x0 x1 x2 x3, e = PySem.Expr.Call x0 x1 x2 x3 ∧ f x0 x1 x2 x3 = true := by
  unfold eCall at h
  split at h
  · rename_i hi
    obtain ⟨x0, x1, x2, x3, rfl⟩ : ∃ x0 x1 x2 x3, e = PySem.Expr.Call x0 x1 x2 x3 := PySem.Expr.Call.elim (motive_1 := fun e => ∃ x0 x1 x2 x3, e = PySem.Expr.Call x0 x1 x2 x3) e hi fun x0 x1 x2 x3 => ⟨x0, x1, x2, x3, rfl⟩
    exact ⟨x0, x1, x2, x3, rfl, h⟩
  · exact (Bool.false_ne_true h).elim
noncomputable def eListComp (f : PySem.Expr → List Comprehension → Scope → Pos → Bool) (e : PySem.Expr) : Bool := if h : e.ctorIdx = 8 then PySem.Expr.ListComp.elim (motive_1 := fun _ => Bool) e h f else false
theorem eListComp_ok {f : PySem.Expr → List Comprehension → Scope → Pos → Bool} {e : PySem.Expr} (h : eListComp f e = true) : ∃ x0 x1 x2 x3, e = PySem.Expr.ListComp x0 x1 x2 x3 ∧ f x0 x1 x2 x3 = true := by
  unfold eListComp at h
  split at h
  · rename_i hi
    obtain ⟨x0, x1, x2, x3, rfl⟩ : ∃ x0 x1 x2 x3, e = PySem.Expr.ListComp x0 x1 x2 x3 := PySem.Expr.ListComp.elim (motive_1 := fun e => ∃ x0 x1 x2 x3, e = PySem.Expr.ListComp x0 x1 x2 x3) e hi fun x0 x1 x2 x3 => ⟨x0, x1, x2, x3, rfl⟩
    exact ⟨x0, x1, x2, x3, rfl, h⟩
  · exact (Bool.false_ne_true h).elim
noncomputable def eAttribute (f : PySem.Expr → Str → Pos → Bool) (e : PySem.Expr) : Bool := if h : e.ctorIdx = 20 then PySem.Expr.Attribute.elim (motive_1 := fun _ => Bool) e h f else false
theorem eAttribute_ok {f : PySem.Expr → Str → Pos → Bool} {e : PySem.Expr} (h : eAttribute f e = true) : ∃ x0 x1 x2, e = PySem.Expr.Attribute x0 x1 x2 ∧ f x0 x1 x2 = true := by
  unfold eAttribute at h
  split at h
  · rename_i hi
    obtain ⟨x0, x1, x2, rfl⟩ : ∃ x0 x1 x2, e = PySem.Expr.Attribute x0 x1 x2 := PySem.Expr.Attribute.elim (motive_1 := fun e => ∃ x0 x1 x2, e = PySem.Expr.Attribute x0 x1 x2) e hi fun x0 x1 x2 => ⟨x0, x1, x2, rfl⟩
    exact ⟨x0, x1, x2, rfl, h⟩
  · exact (Bool.false_ne_true h).elim
noncomputable def eYield (f : Option PySem.Expr → Pos → Bool) (e : PySem.Expr) : Bool := if h : e.ctorIdx = 13 then PySem.Expr.Yield.elim (motive_1 := fun _ => Bool) e h f else false
theorem eYield_ok {f : Option PySem.Expr → Pos → Bool} {e : PySem.Expr} (h : eYield f e = true) : ∃ x0 x1, e = PySem.Expr.Yield x0 x1 ∧ f x0 x1 = true := by
  unfold eYield at h
  split at h
  · rename_i hi
    obtain ⟨x0, x1, rfl⟩ : ∃ x0 x1, e = PySem.Expr.Yield x0 x1 := PySem.Expr.Yield.elim (motive_1 := fun e => ∃ x0 x1, e = PySem.Expr.Yield x0 x1) e hi fun x0 x1 => ⟨x0, x1, rfl⟩
    exact ⟨x0, x1, rfl, h⟩
  · exact (Bool.false_ne_true h).elim
noncomputable def eName (f : Str → Pos → Bool) (e : PySem.Expr) : Bool := if h : e.ctorIdx = 23 then PySem.Expr.Name.elim (motive_1 := fun _ => Bool) e h f else false
theorem eName_ok {f : Str → Pos → Bool} {e : PySem.Expr} (h : eName f e = true) : ∃ x0 x1, e = PySem.Expr.Name x0 x1 ∧ f x0 x1 = true := by
  unfold eName at h
  split at h
  · rename_i hi
    obtain ⟨x0, x1, rfl⟩ : ∃ x0 x1, e = PySem.Expr.Name x0 x1 := PySem.Expr.Name.elim (motive_1 := fun e => ∃ x0 x1, e = PySem.Expr.Name x0 x1) e hi fun x0 x1 => ⟨x0, x1, rfl⟩
    exact ⟨x0, x1, rfl, h⟩
  · exact (Bool.false_ne_true h).elim
noncomputable def sAssign (f : List PySem.Expr → PySem.Expr → Pos → Bool) (e : PySem.Stmt) : Bool := if h : e.ctorIdx = 5 then PySem.Stmt.Assign.elim (motive_2 := fun _ => Bool) e h f else false
theorem sAssign_ok {f : List PySem.Expr → PySem.Expr → Pos → Bool} {e : PySem.Stmt} (h : sAssign f e = true) : ∃ x0 x1 x2, e = PySem.Stmt.Assign x0 x1 x2 ∧ f x0 x1 x2 = true := by
  unfold sAssign at h
  split at h
  · rename_i hi
    obtain ⟨x0, x1, x2, rfl⟩ : ∃ x0 x1 x2, e = PySem.Stmt.Assign x0 x1 x2 := PySem.Stmt.Assign.elim (motive_2 := fun e => ∃ x0 x1 x2, e = PySem.Stmt.Assign x0 x1 x2) e hi fun x0 x1 x2 => ⟨x0, x1, x2, rfl⟩
    exact ⟨x0, x1, x2, rfl, h⟩
  · exact (Bool.false_ne_true h).elim
noncomputable def sExpr (f : PySem.Expr → Pos → Bool) (e : PySem.Stmt) : Bool := if h : e.ctorIdx = 24 then PySem.Stmt.Expr.elim (motive_2 := fun _ => Bool) e h f else false
theorem sExpr_ok {f : PySem.Expr → Pos → Bool} {e : PySem.Stmt} (h : sExpr f e = true) : ∃ x0 x1, e = PySem.Stmt.Expr x0 x1 ∧ f x0 x1 = true := by
  unfold sExpr at h
  split at h
  · rename_i hi
    obtain ⟨x0, x1, rfl⟩ : ∃ x0 x1, e = PySem.Stmt.Expr x0 x1 := PySem.Stmt.Expr.elim (motive_2 := fun e => ∃ x0 x1, e = PySem.Stmt.Expr x0 x1) e hi fun x0 x1 => ⟨x0, x1, rfl⟩
    exact ⟨x0, x1, rfl, h⟩
  · exact (Bool.false_ne_true h).elim
noncomputable def sIf (f : PySem.Expr → List Stmt → List Stmt → Pos → Bool) (e : PySem.Stmt) : Bool := if h : e.ctorIdx = 12 then PySem.Stmt.If.elim (motive_2 := fun _ => Bool) e h f else false
theorem sIf_ok {f : PySem.Expr → List Stmt → List Stmt → Pos → Bool} {e : PySem.Stmt} (h : sIf f e = true) : ∃ x0 x1 x2 x3, e = PySem.Stmt.If x0 x1 x2 x3 ∧ f x0 x1 x2 x3 = true := by
  unfold sIf at h
  split at h
  · rename_i hi
    obtain ⟨x0, x1, x2, x3, rfl⟩ : ∃ x0 x1 x2 x3, e = PySem.Stmt.If x0 x1 x2 x3 := PySem.Stmt.If.elim (motive_2 := fun e => ∃ x0 x1 x2 x3, e = PySem.Stmt.If x0 x1 x2 x3) e hi fun x0 x1 x2 x3 => ⟨x0, x1, x2, x3, rfl⟩
    exact ⟨x0, x1, x2, x3, rfl, h⟩
  · exact (Bool.false_ne_true h).elim
noncomputable def sFor (f : PySem.Expr → PySem.Expr → List Stmt → List Stmt → Pos → Bool) (e : PySem.Stmt) : Bool := if h : e.ctorIdx = 9 then PySem.Stmt.For.elim (motive_2 := fun _ => Bool) e h f else false
theorem sFor_ok {f : PySem.Expr → PySem.Expr → List Stmt → List Stmt → Pos → Bool} {e : PySem.Stmt} (h : sFor f e = true) : ∃ x0 x1 x2 x3 x4, e = PySem.Stmt.For x0 x1 x2 x3 x4 ∧ f x0 x1 x2 x3 x4 = true := by
  unfold sFor at h
  split at h
  · rename_i hi
    obtain ⟨x0, x1, x2, x3, x4, rfl⟩ : ∃ x0 x1 x2 x3 x4, e = PySem.Stmt.For x0 x1 x2 x3 x4 := PySem.Stmt.For.elim (motive_2 := fun e => ∃ x0 x1 x2 x3 x4, e = PySem.Stmt.For x0 x1 x2 x3 x4) e hi fun x0 x1 x2 x3 x4 => ⟨x0, x1, x2, x3, x4, rfl⟩
    exact ⟨x0, x1, x2, x3, x4, rfl, h⟩
  · exact (Bool.false_ne_true h).elim
noncomputable def sReturn (f : Option PySem.Expr → Pos → Bool) (e : PySem.Stmt) : Bool := if h : e.ctorIdx = 3 then PySem.Stmt.Return.elim (motive_2 := fun _ => Bool) e h f else false
theorem sReturn_ok {f : Option PySem.Expr → Pos → Bool} {e : PySem.Stmt} (h : sReturn f e = true) : ∃ x0 x1, e = PySem.Stmt.Return x0 x1 ∧ f x0 x1 = true := by
  unfold sReturn at h
  split at h
  · rename_i hi
    obtain ⟨x0, x1, rfl⟩ : ∃ x0 x1, e = PySem.Stmt.Return x0 x1 := PySem.Stmt.Return.elim (motive_2 := fun e => ∃ x0 x1, e = PySem.Stmt.Return x0 x1) e hi fun x0 x1 => ⟨x0, x1, rfl⟩
    exact ⟨x0, x1, rfl, h⟩
  · exact (Bool.false_ne_true h).elim
noncomputable def sAugAssign (f : PySem.Expr → Operator → PySem.Expr → Pos → Bool) (e : PySem.Stmt) : Bool := if h : e.ctorIdx = 7 then PySem.Stmt.AugAssign.elim (motive_2 := fun _ => Bool) e h f else false
theorem sAugAssign_ok {f : PySem.Expr → Operator → PySem.Expr → Pos → Bool} {e : PySem.Stmt} (h : sAugAssign f e = true) : ∃ x0 x1 x2 x3, e = PySem.Stmt.AugAssign x0 x1 x2 x3 ∧ f x0 x1 x2 x3 = true := by
  unfold sAugAssign at h
  split at h
  · rename_i hi
    obtain ⟨x0, x1, x2, x3, rfl⟩ : ∃ x0 x1 x2 x3, e = PySem.Stmt.AugAssign x0 x1 x2 x3 := PySem.Stmt.AugAssign.elim (motive_2 := fun e => ∃ x0 x1 x2 x3, e = PySem.Stmt.AugAssign x0 x1 x2 x3) e hi fun x0 x1 x2 x3 => ⟨x0, x1, x2, x3, rfl⟩
    exact ⟨x0, x1, x2, x3, rfl, h⟩
  · exact (Bool.false_ne_true h).elim
end Mine

set_option linter.unusedVariables false
namespace Mine
open PySem PySem.Calls PyProof.Rows

noncomputable def isL (nk : NK) (x : Str) : Bool := decide (nk.lookup x = some .local)
noncomputable def isC (nk : NK) (x : Str) : Bool := decide (nk.lookup x = some .cell)
noncomputable def isF (nk : NK) (x : Str) : Bool := decide (nk.lookup x = some .free)
noncomputable def isG (nk : NK) (x : Str) : Bool := decide (nk.lookup x = some .globalImplicit)
noncomputable def isAt (ns : List Str) (i : Nat) (x : Str) : Bool := decide (ns[i]? = some x)
noncomputable def noDbg (x : Str) : Bool := !(x == ("__debug__" : Str))
noncomputable def noSet (e : PySem.Expr) : Bool := !(Nat.beq e.ctorIdx 7)
noncomputable def noComp (e : PySem.Expr) : Bool := !(Nat.beq e.ctorIdx 8 || (Nat.beq e.ctorIdx 9 || Nat.beq e.ctorIdx 10))
theorem noSet_ok {e : PySem.Expr} (h : noSet e = true) (env : Env) (x : Value) : foldedSetIterable e env x = pure x := by cases e <;> first | rfl | exact (Bool.false_ne_true h).elim
theorem noComp_ok {e : PySem.Expr} (h : noComp e = true) (t : Option PySem.Expr) (l : Nat) (env : Env) : swapsWith e t l env = pure false := by cases e <;> first | rfl | exact (Bool.false_ne_true h).elim
theorem swaps_tup {e : PySem.Expr} {elts : List PySem.Expr} {k : Nat} {p : Pos} (l : Nat) (env : Env) : swapsWithSole [.Tuple elts k p] e l env = pure false := by cases e <;> rfl
theorem swaps_sub {e o i : PySem.Expr} {p : Pos} (l : Nat) (env : Env) : swapsWith e (some (.Subscript o i p)) l env = pure false := by cases e <;> rfl
noncomputable def noTup (e : PySem.Expr) : Bool := !(Nat.beq e.ctorIdx 25)
theorem swapped_no {e : PySem.Expr} (h : noTup e = true) {elts : List PySem.Expr} {k : Nat} {p : Pos} (env : Env) : swappedStores [.Tuple elts k p] e env = pure none := by cases e <;> first | rfl | exact (Bool.false_ne_true h).elim
theorem swapped_two {x y : Str} {p1 p2 p3 p5 : Pos} {k k2 : Nat} {e e2 : PySem.Expr} {env : Env} (hf : env.scope.kind = .function) (hy : env.kindOf y = some .cell) :
    swappedStores [.Tuple [.Name x p1, .Name y p2] k p3] (.Tuple [e, e2] k2 p5) env = pure none := by
  have hbk : env.blockKind = .function := by unfold Env.blockKind; rw [hf]; rfl
  unfold swappedStores
  simp only [hbk, List.length_cons, List.length_nil, List.filterMap_cons, List.filterMap_nil, hy]
  split
  · rfl
  · split
    · rfl
    · refine (if_pos ?_).trans rfl
      have e1 : (some NameKind.cell == some NameKind.local) = false := rfl
      simp only [e1, Bool.false_and, Bool.false_eq_true, if_false]
      split <;> simp

noncomputable def one {α : Type} (f : α → Bool) : List α → Bool
  | [a] => f a
  | _ => false
theorem one_ok {α : Type} {f : α → Bool} {l : List α} (h : one f l = true) : ∃ a, l = [a] ∧ f a = true := by
  match l, h with
  | [a], h => exact ⟨a, rfl, h⟩
noncomputable def two {α : Type} (f g : α → Bool) : List α → Bool
  | [a, b] => f a && g b
  | _ => false
theorem two_ok {α : Type} {f g : α → Bool} {l : List α} (h : two f g l = true) : ∃ a b, l = [a, b] ∧ f a = true ∧ g b = true := by
  match l, h with
  | [a, b], h => exact ⟨a, b, rfl, ((Bool.and_eq_true _ _).mp h).1, ((Bool.and_eq_true _ _).mp h).2⟩
noncomputable def yes? (f : PySem.Expr → Bool) : Option PySem.Expr → Bool
  | none => false
  | some e => f e
theorem yes?_ok {f : PySem.Expr → Bool} {o : Option PySem.Expr} (h : yes? f o = true) : ∃ e, o = some e ∧ f e = true := by
  cases o with
  | none => exact (Bool.false_ne_true h).elim
  | some e => exact ⟨e, rfl, h⟩
theorem and_l {a b : Bool} (h : (a && b) = true) : a = true := ((Bool.and_eq_true _ _).mp h).1
theorem and_r {a b : Bool} (h : (a && b) = true) : b = true := ((Bool.and_eq_true _ _).mp h).2
/-- a name -/
noncomputable def isName (x : Str) (e : PySem.Expr) : Bool := eName (fun y _ => decide (y = x)) e
theorem isName_ok {x : Str} {e : PySem.Expr} (h : isName x e = true) : ∃ p, e = .Name x p := by
  obtain ⟨y, p, rfl, h1⟩ := eName_ok h
  exact ⟨p, by rw [of_decide_eq_true h1]⟩
noncomputable def cInt (f : Int → Bool) (c : Const) : Bool := if h : c.ctorIdx = 2 then PySem.Const.int.elim (motive := fun _ => Bool) c h f else false
theorem cInt_ok {f : Int → Bool} {c : Const} (h : cInt f c = true) : ∃ z, c = .int z ∧ f z = true := by
  unfold cInt at h
  split at h
  · rename_i hi
    obtain ⟨z, rfl⟩ : ∃ z, c = .int z := PySem.Const.int.elim (motive := fun c => ∃ z, c = .int z) c hi fun z => ⟨z, rfl⟩
    exact ⟨z, rfl, h⟩
  · exact (Bool.false_ne_true h).elim
noncomputable def cStr (f : Str → Bool) (c : Const) : Bool := if h : c.ctorIdx = 5 then PySem.Const.str.elim (motive := fun _ => Bool) c h f else false
theorem cStr_ok {f : Str → Bool} {c : Const} (h : cStr f c = true) : ∃ z, c = .str z ∧ f z = true := by
  unfold cStr at h
  split at h
  · rename_i hi
    obtain ⟨z, rfl⟩ : ∃ z, c = .str z := PySem.Const.str.elim (motive := fun c => ∃ z, c = .str z) c hi fun z => ⟨z, rfl⟩
    exact ⟨z, rfl, h⟩
  · exact (Bool.false_ne_true h).elim
noncomputable def cBool (f : Bool → Bool) (c : Const) : Bool := if h : c.ctorIdx = 1 then PySem.Const.bool.elim (motive := fun _ => Bool) c h f else false
theorem cBool_ok {f : Bool → Bool} {c : Const} (h : cBool f c = true) : ∃ z, c = .bool z ∧ f z = true := by
  unfold cBool at h
  split at h
  · rename_i hi
    obtain ⟨z, rfl⟩ : ∃ z, c = .bool z := PySem.Const.bool.elim (motive := fun c => ∃ z, c = .bool z) c hi fun z => ⟨z, rfl⟩
    exact ⟨z, rfl, h⟩
  · exact (Bool.false_ne_true h).elim
noncomputable def kInt (z : Int) (e : PySem.Expr) : Bool := eConstant (fun v _ _ => cInt (fun y => decide (y = z)) v) e
theorem kInt_ok {z : Int} {e : PySem.Expr} (h : kInt z e = true) : ∃ k p, e = .Constant (.int z) k p := by
  obtain ⟨v, k, p, rfl, h1⟩ := eConstant_ok h
  obtain ⟨y, rfl, h2⟩ := cInt_ok h1
  exact ⟨k, p, by rw [of_decide_eq_true h2]⟩
noncomputable def kStr (z : Str) (e : PySem.Expr) : Bool := eConstant (fun v _ _ => cStr (fun y => decide (y = z)) v) e
theorem kStr_ok {z : Str} {e : PySem.Expr} (h : kStr z e = true) : ∃ k p, e = .Constant (.str z) k p := by
  obtain ⟨v, k, p, rfl, h1⟩ := eConstant_ok h
  obtain ⟨y, rfl, h2⟩ := cStr_ok h1
  exact ⟨k, p, by rw [of_decide_eq_true h2]⟩
noncomputable def kBool (z : Bool) (e : PySem.Expr) : Bool := eConstant (fun v _ _ => cBool (fun y => decide (y = z)) v) e
theorem kBool_ok {z : Bool} {e : PySem.Expr} (h : kBool z e = true) : ∃ k p, e = .Constant (.bool z) k p := by
  obtain ⟨v, k, p, rfl, h1⟩ := eConstant_ok h
  obtain ⟨y, rfl, h2⟩ := cBool_ok h1
  exact ⟨k, p, by rw [of_decide_eq_true h2]⟩
noncomputable def kBin (o : Operator) (l r : PySem.Expr → Bool) (e : PySem.Expr) : Bool := eBinOp (fun a op b _ => decide (op = o) && (l a && r b)) e
theorem kBin_ok {o : Operator} {l r : PySem.Expr → Bool} {e : PySem.Expr} (h : kBin o l r e = true) : ∃ a b p, e = .BinOp a o b p ∧ l a = true ∧ r b = true := by
  obtain ⟨a, op, b, p, rfl, h1⟩ := eBinOp_ok h
  obtain rfl := of_decide_eq_true (and_l h1)
  exact ⟨a, b, p, rfl, and_l (and_r h1), and_r (and_r h1)⟩
noncomputable def kCmp (o : CmpOp) (l r : PySem.Expr → Bool) (e : PySem.Expr) : Bool := eCompare (fun a os bs _ => decide (os = [o]) && (l a && one r bs)) e
theorem kCmp_ok {o : CmpOp} {l r : PySem.Expr → Bool} {e : PySem.Expr} (h : kCmp o l r e = true) : ∃ a b p, e = .Compare a [o] [b] p ∧ l a = true ∧ r b = true := by
  obtain ⟨a, os, bs, p, rfl, h1⟩ := eCompare_ok h
  obtain rfl := of_decide_eq_true (and_l h1)
  obtain ⟨b, rfl, h2⟩ := one_ok (and_r (and_r h1))
  exact ⟨a, b, p, rfl, and_l (and_r h1), h2⟩
noncomputable def kCall (f : Str) (g : List PySem.Expr → Bool) (e : PySem.Expr) : Bool := eCall (fun fn l ks _ => isName f fn && (g l && ks.isEmpty)) e
theorem kCall_ok {f : Str} {g : List PySem.Expr → Bool} {e : PySem.Expr} (h : kCall f g e = true) : ∃ p1 l p, e = .Call (.Name f p1) l [] p ∧ g l = true := by
  obtain ⟨fn, l, ks, p, rfl, h1⟩ := eCall_ok h
  obtain ⟨p1, rfl⟩ := isName_ok (and_l h1)
  obtain rfl := List.isEmpty_iff.mp (and_r (and_r h1))
  exact ⟨p1, l, p, rfl, and_l (and_r h1)⟩
end Mine

set_option linter.unusedVariables false
namespace Mine
open PySem PySem.Calls PyProof.Rows

noncomputable def chkL (f : ME → PySem.Expr → Bool) : List ME → List PySem.Expr → Bool
  | [], [] => true
  | m :: ms, e :: es => f m e && chkL f ms es
  | _, _ => false
noncomputable def chkI (nk : NK) (f : ME → PySem.Expr → Bool) : MI → PySem.Expr → Bool
  | .ex m, e => f m e && noSet e
  | .range1 a, e => isG nk ("range" : Str) && kCall ("range" : Str) (one (f a)) e
  | .range2 a b, e => isG nk ("range" : Str) && kCall ("range" : Str) (two (f a) (f b)) e
noncomputable def lName (nk : NK) (x : Str) (e : PySem.Expr) : Bool := isL nk x && isName x e
theorem chkL_ok {P : ME → PySem.Expr → Prop} {f : ME → PySem.Expr → Bool} (hf : ∀ m e, f m e = true → P m e) : ∀ {ms : List ME} {es : List PySem.Expr}, chkL f ms es = true → All2 P ms es
  | [], [], _ => trivial
  | m :: ms, e :: es, h => ⟨hf _ _ (and_l h), chkL_ok hf (and_r h)⟩
  | [], _ :: _, h => (Bool.false_ne_true h).elim
  | _ :: _, [], h => (Bool.false_ne_true h).elim
theorem chkI_ok {P : NK → List Str → List Str → List Str → ME → PySem.Expr → Prop} {nk ns os ts} {f : ME → PySem.Expr → Bool} (hf : ∀ m e, f m e = true → P nk ns os ts m e) {it : MI} {e : PySem.Expr} (h : chkI nk f it e = true) : IsI1 P nk ns os ts it e := by
  cases it with
  | ex m => exact .ex (hf _ _ (and_l h)) fun env x => noSet_ok (and_r h) env x
  | range1 a =>
    obtain ⟨p1, l, p, rfl, h1⟩ := kCall_ok (and_r h)
    obtain ⟨a, rfl, h2⟩ := one_ok h1
    exact .range1 _ _ (of_decide_eq_true (and_l h)) (hf _ _ h2)
  | range2 a b =>
    obtain ⟨p1, l, p, rfl, h1⟩ := kCall_ok (and_r h)
    obtain ⟨a, b, rfl, h2, h3⟩ := two_ok h1
    exact .range2 _ _ (of_decide_eq_true (and_l h)) (hf _ _ h2) (hf _ _ h3)

noncomputable def three {α : Type} (f g k : α → Bool) : List α → Bool
  | [a, b, c] => f a && (g b && k c)
  | _ => false
theorem three_ok {α : Type} {f g k : α → Bool} {l : List α} (h : three f g k l = true) : ∃ a b c, l = [a, b, c] ∧ f a = true ∧ g b = true ∧ k c = true := by
  match l, h with
  | [a, b, c], h => exact ⟨a, b, c, rfl, and_l h, and_l (and_r h), and_r (and_r h)⟩
noncomputable def nm (e : PySem.Expr) : Str := if h : e.ctorIdx = 23 then PySem.Expr.Name.elim (motive_1 := fun _ => Str) e h (fun x _ => x) else ⟨#[]⟩
noncomputable def els (e : PySem.Expr) : List PySem.Expr := if h : e.ctorIdx = 25 then PySem.Expr.Tuple.elim (motive_1 := fun _ => List PySem.Expr) e h (fun l _ _ => l) else []
noncomputable def tnsOf (tg : Option Nat) (e : PySem.Expr) : List Str := match tg with
  | none => [nm e]
  | some _ => (els e).map nm
noncomputable def chkT2 (nk : NK) (e : PySem.Expr) : List Str → Bool
  | [x, y] => decide (x ≠ y) && eTuple (fun l _ _ => two (lName nk x) (lName nk y) l) e
  | _ => false
noncomputable def chkT3 (nk : NK) (e : PySem.Expr) : List Str → Bool
  | [x, y, z] => (decide (x ≠ y) && (decide (x ≠ z) && decide (y ≠ z))) && eTuple (fun l _ _ => three (lName nk x) (lName nk y) (lName nk z) l) e
  | _ => false
noncomputable def chkT (nk : NK) (tg : Option Nat) (e : PySem.Expr) (tns : List Str) : Bool := match tg with
  | none => decide (tns = [nm e]) && lName nk (nm e) e
  | some k => if k = 2 then chkT2 nk e tns else if k = 3 then chkT3 nk e tns else false
theorem chkT_ok {nk : NK} {tg : Option Nat} {e : PySem.Expr} {tns : List Str} (h : chkT nk tg e tns = true) : IsT nk tg tns e := by
  cases tg with
  | none =>
    obtain rfl := of_decide_eq_true (and_l h)
    have h1 := and_r h
    obtain ⟨p, hp⟩ := isName_ok (and_r h1)
    have hl := of_decide_eq_true (and_l h1)
    generalize nm e = x at hp hl
    subst hp
    exact .one _ hl
  | some k =>
    unfold chkT at h
    split at h
    · rename_i e
      cases e
    · rename_i k' e
      cases e
      split at h
      · rename_i hk
        subst hk
        match tns, h with
        | [x, y], h =>
          obtain ⟨l, k, p, rfl, h1⟩ := eTuple_ok (and_r h)
          obtain ⟨a, b, rfl, h2, h3⟩ := two_ok h1
          obtain ⟨p1, rfl⟩ := isName_ok (and_r h2)
          obtain ⟨p2, rfl⟩ := isName_ok (and_r h3)
          exact .two _ _ _ _ (of_decide_eq_true (and_l h2)) (of_decide_eq_true (and_l h3)) (of_decide_eq_true (and_l h))
      · split at h
        · rename_i hk
          subst hk
          match tns, h with
          | [x, y, z], h =>
            obtain ⟨l, k, p, rfl, h1⟩ := eTuple_ok (and_r h)
            obtain ⟨a, b, c, rfl, h2, h3, h4⟩ := three_ok h1
            obtain ⟨p1, rfl⟩ := isName_ok (and_r h2)
            obtain ⟨p2, rfl⟩ := isName_ok (and_r h3)
            obtain ⟨p3, rfl⟩ := isName_ok (and_r h4)
            have h5 := and_l h
            exact .three _ _ _ _ _ (of_decide_eq_true (and_l h2)) (of_decide_eq_true (and_l h3)) (of_decide_eq_true (and_l h4)) (of_decide_eq_true (and_l h5)) (of_decide_eq_true (and_l (and_r h5))) (of_decide_eq_true (and_r (and_r h5)))
        · exact (Bool.false_ne_true h).elim
end Mine

set_option linter.unusedVariables false
namespace Mine
open PySem PySem.Calls PyProof.Rows

noncomputable def sNone (o : Option PySem.Expr) : Bool := o.isNone
theorem sNone_ok {o : Option PySem.Expr} (h : sNone o = true) : o = none := Option.isNone_iff_eq_none.mp h
noncomputable def isUSub1 (e : PySem.Expr) : Bool := eUnaryOp (fun o a _ => decide (o = UnaryOp.USub) && kInt 1 a) e
noncomputable def namedIs (f : PySem.Expr → Bool) (e : PySem.Expr) : Bool := isName (nm e) e && f e
noncomputable def chkCond (f : ME → PySem.Expr → Bool) : Option ME → List PySem.Expr → Bool
  | none, l => l.isEmpty
  | some m, l => one (f m) l
noncomputable def compSc (nk : NK) (os ts ns : List Str) (sc : Scope) : Bool := decide (os = []) && (decide (ts = ns) && (decide (sc.kind = .function) && (sc.names.all (fun y => decide (y.2 ≠ .cell)) &&
  (sc.names.all (fun y => decide (y.2 ≠ .local) || isL sc.names y.1) && sc.names.all (fun y => decide (y.2 ≠ .free) || isC nk y.1)))))
noncomputable def callIs (nk : NK) (x : Str) (g : List PySem.Expr → Bool) (e : PySem.Expr) : Bool := isG nk x && kCall x g e
noncomputable def callM (nk : NK) (o : Option String) (g : List PySem.Expr → Bool) (e : PySem.Expr) : Bool := match o with
  | none => false
  | some x => noDbg (Str.ofString x) && callIs nk (Str.ofString x) g e
noncomputable def noStar (e : PySem.Expr) : Bool := !(Nat.beq e.ctorIdx 22)
noncomputable def chkE1 (f : NK → List Str → List Str → List Str → ME → PySem.Expr → Bool) (nk : NK) (ns os ts : List Str) (m : ME) (e : PySem.Expr) : Bool := match m with
  | .int z => kInt z e
  | .bool b => kBool b e
  | .str l => kStr ⟨l.toArray⟩ e
  | .var i => isName (nm e) e && (isAt ns i (nm e) && noDbg (nm e))
  | .fre i => isName (nm e) e && (isAt os i (nm e) && (isF nk (nm e) && noDbg (nm e)))
  | .add a b => kBin .Add (f nk ns os ts a) (f nk ns os ts b) e
  | .sub a b => kBin .Sub (f nk ns os ts a) (f nk ns os ts b) e
  | .mul a b => kBin .Mult (f nk ns os ts a) (f nk ns os ts b) e
  | .eq a b => kCmp .Eq (f nk ns os ts a) (f nk ns os ts b) e
  | .ne a b => kCmp .NotEq (f nk ns os ts a) (f nk ns os ts b) e
  | .lt a b => kCmp .Lt (f nk ns os ts a) (f nk ns os ts b) e
  | .gt a b => kCmp .Gt (f nk ns os ts a) (f nk ns os ts b) e
  | .and a b => eBoolOp (fun o l _ => decide (o = BoolOp.And) && two (f nk ns os ts a) (f nk ns os ts b) l) e
  | .or a b => eBoolOp (fun o l _ => decide (o = BoolOp.Or) && two (f nk ns os ts a) (f nk ns os ts b) l) e
  | .not a => eUnaryOp (fun o x _ => decide (o = UnaryOp.Not) && f nk ns os ts a x) e
  | .ife c a b => eIfExp (fun x y z _ => f nk ns os ts c x && (f nk ns os ts a y && f nk ns os ts b z)) e
  | .tup l => eTuple (fun es _ _ => chkL (f nk ns os ts) l es) e
  | .list l => eList (fun es _ => chkL (f nk ns os ts) l es) e
  | .edict => eDict (fun ks vs _ => ks.isEmpty && vs.isEmpty) e
  | .idx a i => eSubscript (fun x y _ => f nk ns os ts a x && (f nk ns os ts i y && plainIx y)) e
  | .slFrom a k => eSubscript (fun x y _ => namedIs (f nk ns os ts a) x && eSlice (fun l u st _ => yes? (kInt (k : Int)) l && (sNone u && sNone st)) y) e
  | .slTo a k => eSubscript (fun x y _ => namedIs (f nk ns os ts a) x && eSlice (fun l u st _ => sNone l && (yes? (kInt (k : Int)) u && sNone st)) y) e
  | .rev a => eSubscript (fun x y _ => namedIs (f nk ns os ts a) x && eSlice (fun l u st _ => sNone l && (sNone u && yes? isUSub1 st)) y) e
  | .tab j a b => eSubscript (fun x y _ => isName (nm x) x && ((isAt ts j (nm x) && ((isC nk (nm x) || isF nk (nm x)) && noDbg (nm x))) && eTuple (fun l _ _ => two (f nk ns os ts a) (f nk ns os ts b) l) y)) e
  | .call j l => callM nk (fname j) (fun es => !es.isEmpty && chkL (f nk ns os ts) l es) e
  | .len a => callIs nk ("len" : Str) (one (f nk ns os ts a)) e
  | .lenDict a => callIs nk ("len" : Str) (one (callIs nk ("dict" : Str) (one (f nk ns os ts a)))) e
  | .min a => callIs nk ("min" : Str) (one (f nk ns os ts a)) e
  | .mod a k => kBin .Mod (f nk ns os ts a) (kInt (k : Int)) e
  | .max2 a b => callIs nk ("max" : Str) (two (f nk ns os ts a) (f nk ns os ts b)) e
  | .min2 a b => callIs nk ("min" : Str) (two (f nk ns os ts a) (f nk ns os ts b)) e
  | .slToE a b => eSubscript (fun x y _ => f nk ns os ts a x && eSlice (fun l u st _ => sNone l && (yes? (f nk ns os ts b) u && sNone st)) y) e
  | .comp elt tg it cond => eListComp (fun elte gs sc _ => one (fun g => decide (g.is_async = 0) && (chkT sc.names tg g.target (tnsOf tg g.target) && (chkI nk (f nk ns os ts) it g.iter &&
        (f sc.names (tnsOf tg g.target) ns ns elt elte && (chkCond (f sc.names (tnsOf tg g.target) ns ns) cond g.ifs && compSc nk os ts ns sc))))) gs) e
noncomputable def chkE : Nat → NK → List Str → List Str → List Str → ME → PySem.Expr → Bool
  | 0, _, _, _, _, _, _ => false
  | n + 1, nk, ns, os, ts, m, e => noStar e && chkE1 (chkE n) nk ns os ts m e
noncomputable def IsE (nk : NK) (ns os ts : List Str) (m : ME) (e : PySem.Expr) : Prop := ∃ n, chkE n nk ns os ts m e = true
noncomputable abbrev IsEs (nk : NK) (ns os ts : List Str) : List ME → List PySem.Expr → Prop := All2 (IsE nk ns os ts)
noncomputable abbrev IsI := IsI1 IsE
noncomputable abbrev IsC := IsC1 IsE
end Mine

set_option linter.unusedVariables false
namespace Mine
open PySem PySem.Calls PyProof.Rows

theorem callIs_ok {nk : NK} {x : Str} {g : List PySem.Expr → Bool} {e : PySem.Expr} (h : callIs nk x g e = true) : nk.lookup x = some .globalImplicit ∧ ∃ p1 l p, e = .Call (.Name x p1) l [] p ∧ g l = true :=
  ⟨of_decide_eq_true (and_l h), kCall_ok (and_r h)⟩
theorem dbg_ok {x : Str} (h : noDbg x = true) : (x == ("__debug__" : Str)) = false := by simpa [noDbg] using h
theorem nm_name (x : Str) (p : Pos) : nm (.Name x p) = x := rfl
theorem namedIs_ok {f : PySem.Expr → Bool} {e : PySem.Expr} (h : namedIs f e = true) : ∃ x p, e = .Name x p ∧ f (.Name x p) = true := by
  obtain ⟨p, hp⟩ := isName_ok (and_l h)
  have h2 := and_r h
  generalize nm e = x at hp
  subst hp
  exact ⟨x, p, rfl, h2⟩
theorem isUSub1_ok {e : PySem.Expr} (h : isUSub1 e = true) : ∃ k p2 p3, e = .UnaryOp .USub (.Constant (.int 1) k p2) p3 := by
  obtain ⟨o, a, p, rfl, h1⟩ := eUnaryOp_ok h
  obtain rfl := of_decide_eq_true (and_l h1)
  obtain ⟨k, p2, rfl⟩ := kInt_ok (and_r h1)
  exact ⟨_, _, _, rfl⟩
theorem all_ok' {l : List (Str × NameKind)} {f : Str × NameKind → Bool} (h : l.all f = true) : ∀ y ∈ l, f y = true := List.all_eq_true.mp h
theorem or_ok {a b : Bool} (h : (a || b) = true) : a = true ∨ b = true := (Bool.or_eq_true _ _).mp h

theorem callM_ok {nk : NK} {o : Option String} {g : List PySem.Expr → Bool} {e : PySem.Expr} (h : callM nk o g e = true) : ∃ x, o = some x ∧ (Str.ofString x == ("__debug__" : Str)) = false ∧ nk.lookup (Str.ofString x) = some .globalImplicit ∧ ∃ p1 l p, e = .Call (.Name (Str.ofString x) p1) l [] p ∧ g l = true := by
  cases o with
  | none => exact (Bool.false_ne_true h).elim
  | some x => exact ⟨x, rfl, dbg_ok (and_l h), callIs_ok (and_r h)⟩
theorem chkE1_ok {P : NK → List Str → List Str → List Str → ME → PySem.Expr → Prop} {f : NK → List Str → List Str → List Str → ME → PySem.Expr → Bool} (ih : ∀ {nk ns os ts m e}, f nk ns os ts m e = true → P nk ns os ts m e) {nk ns os ts m e}
    (h : chkE1 f nk ns os ts m e = true) : IsE1 P nk ns os ts m e := by
  have ihl : ∀ {nk ns os ts} {ms : List ME} {es : List PySem.Expr}, chkL (f nk ns os ts) ms es = true → All2 (P nk ns os ts) ms es := fun h => chkL_ok (fun _ _ => ih) h
  cases m with
  | int z => obtain ⟨k, p, rfl⟩ := kInt_ok h; exact .int _ _ _
  | bool b => obtain ⟨k, p, rfl⟩ := kBool_ok h; exact .bool _ _ _
  | str l => obtain ⟨k, p, rfl⟩ := kStr_ok h; exact .str _ _ rfl
  | var i =>
    obtain ⟨p, hp⟩ := isName_ok (and_l h)
    have h2 := and_r h
    generalize nm e = x at hp h2
    subst hp
    exact .var _ (of_decide_eq_true (and_l h2)) (dbg_ok (and_r h2))
  | fre i =>
    obtain ⟨p, hp⟩ := isName_ok (and_l h)
    have h2 := and_r h
    generalize nm e = x at hp h2
    subst hp
    exact .fre _ (of_decide_eq_true (and_l h2)) (of_decide_eq_true (and_l (and_r h2))) (dbg_ok (and_r (and_r h2)))
  | add a b => obtain ⟨x, y, p, rfl, h1, h2⟩ := kBin_ok h; exact .add _ (ih h1) (ih h2)
  | sub a b => obtain ⟨x, y, p, rfl, h1, h2⟩ := kBin_ok h; exact .sub _ (ih h1) (ih h2)
  | mul a b => obtain ⟨x, y, p, rfl, h1, h2⟩ := kBin_ok h; exact .mul _ (ih h1) (ih h2)
  | eq a b => obtain ⟨x, y, p, rfl, h1, h2⟩ := kCmp_ok h; exact .eq _ (ih h1) (ih h2)
  | ne a b => obtain ⟨x, y, p, rfl, h1, h2⟩ := kCmp_ok h; exact .ne _ (ih h1) (ih h2)
  | lt a b => obtain ⟨x, y, p, rfl, h1, h2⟩ := kCmp_ok h; exact .lt _ (ih h1) (ih h2)
  | gt a b => obtain ⟨x, y, p, rfl, h1, h2⟩ := kCmp_ok h; exact .gt _ (ih h1) (ih h2)
  | and a b =>
    obtain ⟨o, l, p, rfl, h1⟩ := eBoolOp_ok h
    obtain rfl := of_decide_eq_true (and_l h1)
    obtain ⟨x, y, rfl, h2, h3⟩ := two_ok (and_r h1)
    exact .and _ (ih h2) (ih h3)
  | or a b =>
    obtain ⟨o, l, p, rfl, h1⟩ := eBoolOp_ok h
    obtain rfl := of_decide_eq_true (and_l h1)
    obtain ⟨x, y, rfl, h2, h3⟩ := two_ok (and_r h1)
    exact .or _ (ih h2) (ih h3)
  | not a =>
    obtain ⟨o, x, p, rfl, h1⟩ := eUnaryOp_ok h
    obtain rfl := of_decide_eq_true (and_l h1)
    exact .not _ (ih (and_r h1))
  | ife c a b => obtain ⟨x, y, z, p, rfl, h1⟩ := eIfExp_ok h; exact .ife _ (ih (and_l h1)) (ih (and_l (and_r h1))) (ih (and_r (and_r h1)))
  | tup l => obtain ⟨es, k, p, rfl, h1⟩ := eTuple_ok h; exact .tup _ _ (ihl h1)
  | list l => obtain ⟨es, p, rfl, h1⟩ := eList_ok h; exact .list _ (ihl h1)
  | edict =>
    obtain ⟨ks, vs, p, rfl, h1⟩ := eDict_ok h
    obtain rfl := List.isEmpty_iff.mp (and_l h1)
    obtain rfl := List.isEmpty_iff.mp (and_r h1)
    exact .edict _
  | idx a i => obtain ⟨x, y, p, rfl, h1⟩ := eSubscript_ok h; exact .idx _ (ih (and_l h1)) (ih (and_l (and_r h1))) (and_r (and_r h1))
  | slFrom a k =>
    obtain ⟨x, y, p, rfl, h1⟩ := eSubscript_ok h
    obtain ⟨x, p1, rfl, h2⟩ := namedIs_ok (and_l h1)
    obtain ⟨l, u, st, p3, rfl, h3⟩ := eSlice_ok (and_r h1)
    obtain ⟨c, rfl, h4⟩ := yes?_ok (and_l h3)
    obtain ⟨kk, p2, rfl⟩ := kInt_ok h4
    obtain rfl := sNone_ok (and_l (and_r h3))
    obtain rfl := sNone_ok (and_r (and_r h3))
    exact .slFrom _ _ _ _ _ (ih h2)
  | slTo a k =>
    obtain ⟨x, y, p, rfl, h1⟩ := eSubscript_ok h
    obtain ⟨x, p1, rfl, h2⟩ := namedIs_ok (and_l h1)
    obtain ⟨l, u, st, p3, rfl, h3⟩ := eSlice_ok (and_r h1)
    obtain rfl := sNone_ok (and_l h3)
    obtain ⟨c, rfl, h4⟩ := yes?_ok (and_l (and_r h3))
    obtain ⟨kk, p2, rfl⟩ := kInt_ok h4
    obtain rfl := sNone_ok (and_r (and_r h3))
    exact .slTo _ _ _ _ _ (ih h2)
  | rev a =>
    obtain ⟨x, y, p, rfl, h1⟩ := eSubscript_ok h
    obtain ⟨x, p1, rfl, h2⟩ := namedIs_ok (and_l h1)
    obtain ⟨l, u, st, p3, rfl, h3⟩ := eSlice_ok (and_r h1)
    obtain rfl := sNone_ok (and_l h3)
    obtain rfl := sNone_ok (and_l (and_r h3))
    obtain ⟨c, rfl, h4⟩ := yes?_ok (and_r (and_r h3))
    obtain ⟨kk, p2, p4, rfl⟩ := isUSub1_ok h4
    exact .rev _ _ _ _ _ _ (ih h2)
  | tab j a b =>
    obtain ⟨x, y, p, rfl, h1⟩ := eSubscript_ok h
    obtain ⟨p1, hp⟩ := isName_ok (and_l h1)
    have h2 := and_r h1
    generalize nm x = z at hp h2
    subst hp
    obtain ⟨l, k, p2, rfl, h3⟩ := eTuple_ok (and_r h2)
    obtain ⟨u, v, rfl, h4, h5⟩ := two_ok h3
    have h6 := and_l h2
    exact .tab _ _ _ _ (of_decide_eq_true (and_l h6)) ((or_ok (and_l (and_r h6))).imp of_decide_eq_true of_decide_eq_true) (dbg_ok (and_r (and_r h6))) (ih h4) (ih h5)
  | call f l =>
    obtain ⟨nm', hnm, hd, hg, p1, es, p, rfl, h1⟩ := callM_ok h
    refine .call _ _ hnm hg hd (ihl (and_r h1)) fun he => ?_
    have := and_l h1
    rw [he] at this
    exact Bool.false_ne_true this
  | len a =>
    obtain ⟨hg, p1, es, p, rfl, h1⟩ := callIs_ok h
    obtain ⟨x, rfl, h2⟩ := one_ok h1
    exact .len _ _ hg (ih h2)
  | lenDict a =>
    obtain ⟨hg, p1, es, p, rfl, h1⟩ := callIs_ok h
    obtain ⟨x, rfl, h2⟩ := one_ok h1
    obtain ⟨hg2, p2, es, p3, rfl, h3⟩ := callIs_ok h2
    obtain ⟨x, rfl, h4⟩ := one_ok h3
    exact .lenDict _ _ _ _ hg hg2 (ih h4)
  | min a =>
    obtain ⟨hg, p1, es, p, rfl, h1⟩ := callIs_ok h
    obtain ⟨x, rfl, h2⟩ := one_ok h1
    exact .min _ _ hg (ih h2)
  | mod a k =>
    obtain ⟨x, y, p, rfl, h1, h2⟩ := kBin_ok h
    obtain ⟨kk, p2, rfl⟩ := kInt_ok h2
    exact .mod _ _ _ (ih h1)
  | max2 a b =>
    obtain ⟨hg, p1, es, p, rfl, h1⟩ := callIs_ok h
    obtain ⟨x, y, rfl, h2, h3⟩ := two_ok h1
    exact .max2 _ _ hg (ih h2) (ih h3)
  | min2 a b =>
    obtain ⟨hg, p1, es, p, rfl, h1⟩ := callIs_ok h
    obtain ⟨x, y, rfl, h2, h3⟩ := two_ok h1
    exact .min2 _ _ hg (ih h2) (ih h3)
  | slToE a b =>
    obtain ⟨x, y, p, rfl, h1⟩ := eSubscript_ok h
    obtain ⟨l, u, st, p3, rfl, h3⟩ := eSlice_ok (and_r h1)
    obtain rfl := sNone_ok (and_l h3)
    obtain ⟨c, rfl, h4⟩ := yes?_ok (and_l (and_r h3))
    obtain rfl := sNone_ok (and_r (and_r h3))
    exact .slToE _ _ (ih (and_l h1)) (ih h4)
  | comp elt tg it cond => obtain ⟨elte, gs, sc, p, rfl, h1⟩ := eListComp_ok h; exact .comp _
theorem chkE_ok : ∀ (n : Nat) {nk ns os ts m e}, chkE n nk ns os ts m e = true → IsE1 IsE nk ns os ts m e
  | 0, _, _, _, _, _, _, h => (Bool.false_ne_true h).elim
  | n + 1, _, _, _, _, _, _, h => chkE1_ok (fun h => ⟨n, h⟩) (and_r h)
theorem IsE.compInv {nk ns os ts elt tg it cond e} : IsE nk ns os ts (.comp elt tg it cond) e → ∃ elte tgte ite ifse scope tns p, e = .ListComp elte [⟨tgte, ite, ifse, 0⟩] scope p ∧ IsT scope.names tg tns tgte ∧ IsI nk ns os ts it ite ∧ IsE scope.names tns ns ns elt elte ∧
    IsC scope.names tns ns cond ifse ∧ os = [] ∧ ts = ns ∧ scope.kind = .function ∧ (∀ y ∈ scope.names, y.2 ≠ .cell) ∧ (∀ y ∈ scope.names, y.2 = .local → scope.names.lookup y.1 = some .local) ∧ (∀ y ∈ scope.names, y.2 = .free → nk.lookup y.1 = some .cell)
  | ⟨0, h⟩ => (Bool.false_ne_true h).elim
  | ⟨n + 1, h⟩ => by
    replace h : chkE1 (chkE n) nk ns os ts (.comp elt tg it cond) e = true := and_r h
    have ih : ∀ {nk ns os ts m e}, chkE n nk ns os ts m e = true → IsE nk ns os ts m e := fun h => ⟨n, h⟩
    obtain ⟨elte, gs, sc, p, rfl, h1⟩ := eListComp_ok h
    obtain ⟨g, rfl, h2⟩ := one_ok h1
    obtain ⟨gt, gi, gf, ga⟩ := g
    obtain rfl : ga = 0 := of_decide_eq_true (and_l h2)
    have h3 := and_r h2
    have h4 := and_r h3
    have h5 := and_r h4
    have h6 := and_r h5
    have h7 := and_r h6
    have h8 := and_r h7
    have h9 := and_r h8
    have h10 := and_r h9
    have h11 := and_r h10
    refine ⟨_, _, _, _, _, _, _, rfl, chkT_ok (and_l h3), chkI_ok (fun _ _ => ih) (and_l h4), ih (and_l h5), ?_, of_decide_eq_true (and_l h7), of_decide_eq_true (and_l h8), of_decide_eq_true (and_l h9), fun y hy => of_decide_eq_true (all_ok' (and_l h10) y hy),
      fun y hy e => (or_ok (all_ok' (and_l h11) y hy)).elim (fun q => absurd e (of_decide_eq_true q)) of_decide_eq_true, fun y hy e => (or_ok (all_ok' (and_r h11) y hy)).elim (fun q => absurd e (of_decide_eq_true q)) of_decide_eq_true⟩
    have hc := and_l h6
    cases cond with
    | none => obtain rfl := List.isEmpty_iff.mp hc; exact .none
    | some mc => obtain ⟨x, rfl, hx⟩ := one_ok hc; exact .some (ih hx)
theorem IsE.inv {nk ns os ts m e} (h : IsE nk ns os ts m e) : IsE1 IsE nk ns os ts m e := let ⟨n, h⟩ := h; chkE_ok n h
end Mine

set_option linter.unusedVariables false
namespace Mine
open PySem PySem.Calls PyProof.Rows

theorem star_of {e : PySem.Expr} (h : noStar e = true) (rest : List PySem.Expr) (env : Env) : starEach (e :: rest) env = (false, eval e env) :: starEach rest env := by
  cases e <;> first | rfl | exact (Bool.false_ne_true h).elim
theorem IsE.plain : ∀ {nk ns os ts m e}, IsE nk ns os ts m e → noStar e = true
  | _, _, _, _, _, _, ⟨0, h⟩ => (Bool.false_ne_true h).elim
  | _, _, _, _, _, _, ⟨_ + 1, h⟩ => and_l h
/-- no element of a display or of a call is starred -/
theorem IsE.star {nk ns os ts m e} (h : IsE nk ns os ts m e) (rest : List PySem.Expr) (env : Env) : starEach (e :: rest) env = (false, eval e env) :: starEach rest env := star_of h.plain rest env
theorem IsEs.plain {nk ns os ts} : ∀ {l es}, IsEs nk ns os ts l es → ∀ (p : Pos) (env : Env), (backTo p (starEach es env)).any (·.1) = false
  | [], [], _, p, env => rfl
  | _ :: _, _ :: _, h, p, env => by
    rw [h.1.star]
    have := IsEs.plain h.2 p env
    simp only [backTo, List.map_cons, List.any_cons, Bool.false_or] at this ⊢
    exact this
  | [], _ :: _, h, _, _ => h.elim
  | _ :: _, [], h, _, _ => h.elim

/-- what an environment resolves -/
structure EnvN (env : Env) (nk : NK) : Prop where
  fn : env.scope.kind = .function
  gl : env.globals = mainGlobals
  bi : env.builtins = builtinsNs
  loc : ∀ x, nk.lookup x = some .local → env.kindOf x = some .local
  cel : ∀ x, nk.lookup x = some .cell → env.kindOf x = some .cell
  fre : ∀ x, nk.lookup x = some .free → env.kindOf x = some .cell
  glo : ∀ x, nk.lookup x = some .globalImplicit → env.kindOf x = some .globalImplicit

end Mine

set_option linter.unusedVariables false
namespace Mine
open PySem PySem.Calls PyProof.Rows
noncomputable def IsNs (nk : NK) (ns : List Str) : List Nat → List PySem.Expr → Prop := All2 fun i e => ∃ x p, e = .Name x p ∧ ns[i]? = some x ∧ (nk.lookup x = some .local ∨ nk.lookup x = some .cell)
theorem IsNs.ind {nk : NK} {ns : List Str} {M : (is : List Nat) → (es : List PySem.Expr) → IsNs nk ns is es → Prop} (nil : M [] [] trivial)
    (cons : ∀ {i is x es} (p : Pos) (h1 : ns[i]? = some x) (h2 : nk.lookup x = some .local ∨ nk.lookup x = some .cell) (h : IsNs nk ns is es), M is es h → M (i :: is) (.Name x p :: es) ⟨⟨x, p, rfl, h1, h2⟩, h⟩) : ∀ {is es} (h : IsNs nk ns is es), M is es h
  | [], [], _ => nil
  | _ :: _, _ :: _, ⟨⟨_, p, rfl, h1, h2⟩, h⟩ => cons p h1 h2 h (IsNs.ind nil cons h)
  | [], _ :: _, h => h.elim
  | _ :: _, [], h => h.elim
inductive IsS1 (P : MS → Stmt → Prop) (nk : NK) (ns : List Str) : MS → Stmt → Prop
  | assign {i x m e} (p1 p : Pos) : ns[i]? = some x → (nk.lookup x = some .local ∨ nk.lookup x = some .cell) → IsE nk ns [] ns m e → (∀ (l : Nat) (env : Env), EnvN env nk → swapsWith e (some (.Name x p1)) l env = pure false) →
      IsS1 P nk ns (.assign i m) (.Assign [.Name x p1] e p)
  | assignC {i x elt tg it cond elte tgte ite ifse scope pc} (p1 p : Pos) : ns[i]? = some x → nk.lookup x = some .local → IsE nk ns [] ns (.comp elt tg it cond) (.ListComp elte [⟨tgte, ite, ifse, 0⟩] scope pc) →
      p1.line = pc.line → p.line = pc.line → (scope.names.any fun (n, k) => n == x && (k == .local || k == .cell)) = false →
      IsS1 P nk ns (.assign i (.comp elt tg it cond)) (.Assign [.Name x p1] (.ListComp elte [⟨tgte, ite, ifse, 0⟩] scope pc) p)
  | assignT {is m e elts} (k : Nat) (p1 p : Pos) : IsNs nk ns is elts → IsE nk ns [] ns m e → (∀ (l : Nat) (env : Env), swapsWithSole [.Tuple elts k p1] e l env = pure false) →
      (∀ env : Env, EnvN env nk → swappedStores [.Tuple elts k p1] e env = pure none) → IsS1 P nk ns (.assignT is m) (.Assign [.Tuple elts k p1] e p)
  | newL {i x} (p1 p2 p : Pos) : ns[i]? = some x → (nk.lookup x = some .local ∨ nk.lookup x = some .cell) → IsS1 P nk ns (.newL i) (.Assign [.Name x p1] (.List [] p2) p)
  | newT {i j x y m e} (k k2 : Nat) (p1 p2 p3 p4 p5 p : Pos) : ns[i]? = some x → ns[j]? = some y → (nk.lookup x = some .local ∨ nk.lookup x = some .cell) → nk.lookup y = some .cell → IsE nk ns [] ns m e →
      IsS1 P nk ns (.newT i j m) (.Assign [.Tuple [.Name x p1, .Name y p2] k p3] (.Tuple [e, .Dict [] [] p4] k2 p5) p)
  | app {i x m e} (p1 p2 p3 p : Pos) : ns[i]? = some x → (x == ("__debug__" : Str)) = false → p2.endLine = p3.line → IsE nk ns [] ns m e → IsS1 P nk ns (.app i m) (.Expr (.Call (.Attribute (.Name x p1) ("append" : Str) p2) [e] [] p3) p)
  | setTab {j x a b m ea eb e} (k : Nat) (p1 p2 p3 p : Pos) : ns[j]? = some x → (x == ("__debug__" : Str)) = false → IsE nk ns [] ns a ea → IsE nk ns [] ns b eb → IsE nk ns [] ns m e →
      (∀ (l : Nat) (env : Env), swapsWith e (some (.Subscript (.Name x p1) (.Tuple [ea, eb] k p2) p3)) l env = pure false) →
      IsS1 P nk ns (.setTab j a b m) (.Assign [.Subscript (.Name x p1) (.Tuple [ea, eb] k p2) p3] e p)
  | iff {c t ec body} (p : Pos) : IsE nk ns [] ns c ec → All2 P t body → IsS1 P nk ns (.iff c t) (.If ec body [] p)
  | for1 {i x it ite body bs} (p1 p : Pos) : ns[i]? = some x → (nk.lookup x = some .local ∨ nk.lookup x = some .cell) → IsI nk ns [] ns it ite → All2 P body bs → IsS1 P nk ns (.for1 i it body) (.For (.Name x p1) ite bs [] p)
  | forT {is elts it ite body bs} (k : Nat) (p1 p : Pos) : IsNs nk ns is elts → IsI nk ns [] ns it ite → All2 P body bs → IsS1 P nk ns (.forT is it body) (.For (.Tuple elts k p1) ite bs [] p)
  | forItems {i x xk xv bs} (k : Nat) (pk pv pt p1 p2 p3 p : Pos) : ns[i]? = some x → (x == ("__debug__" : Str)) = false → nk.lookup xk = some .local → nk.lookup xv = some .local → p2.endLine = p3.line →
      IsS1 P nk ns (.forItems i) (.For (.Tuple [.Name xk pk, .Name xv pv] k pt) (.Call (.Attribute (.Name x p1) ("items" : Str) p2) [] [] p3) bs [] p)
  | ret {m e} (p : Pos) : IsE nk ns [] ns m e → IsS1 P nk ns (.ret m) (.Return (some e) p)
  | retM {i x} (p1 p : Pos) : ns[i]? = some x → (x == ("__debug__" : Str)) = false → IsS1 P nk ns (.retM i) (.Return (some (.Name x p1)) p)
noncomputable def setName (nk : NK) (ns : List Str) (i : Nat) (e : PySem.Expr) : Bool := isName (nm e) e && (isAt ns i (nm e) && (isL nk (nm e) || isC nk (nm e)))
theorem setName_ok {nk : NK} {ns : List Str} {i : Nat} {e : PySem.Expr} (h : setName nk ns i e = true) : ∃ x p, e = .Name x p ∧ ns[i]? = some x ∧ (nk.lookup x = some .local ∨ nk.lookup x = some .cell) := by
  obtain ⟨p, hp⟩ := isName_ok (and_l h)
  have h2 := and_r h
  generalize nm e = x at hp h2
  subst hp
  exact ⟨x, p, rfl, of_decide_eq_true (and_l h2), (or_ok (and_r h2)).imp of_decide_eq_true of_decide_eq_true⟩
noncomputable def getName (ns : List Str) (i : Nat) (e : PySem.Expr) : Bool := isName (nm e) e && (isAt ns i (nm e) && noDbg (nm e))
theorem getName_ok {ns : List Str} {i : Nat} {e : PySem.Expr} (h : getName ns i e = true) : ∃ x p, e = .Name x p ∧ ns[i]? = some x ∧ (x == ("__debug__" : Str)) = false := by
  obtain ⟨p, hp⟩ := isName_ok (and_l h)
  have h2 := and_r h
  generalize nm e = x at hp h2
  subst hp
  exact ⟨x, p, rfl, of_decide_eq_true (and_l h2), dbg_ok (and_r h2)⟩
noncomputable def chkNs (nk : NK) (ns : List Str) : List Nat → List PySem.Expr → Bool
  | [], [] => true
  | i :: is, e :: es => setName nk ns i e && chkNs nk ns is es
  | _, _ => false
theorem chkNs_ok {nk : NK} {ns : List Str} : ∀ {is : List Nat} {es : List PySem.Expr}, chkNs nk ns is es = true → IsNs nk ns is es
  | [], [], _ => trivial
  | [], _ :: _, h => (Bool.false_ne_true h).elim
  | _ :: _, [], h => (Bool.false_ne_true h).elim
  | i :: is, e :: es, h => ⟨setName_ok (and_l h), chkNs_ok (and_r h)⟩
noncomputable def chkSL (f : MS → Stmt → Bool) : List MS → List Stmt → Bool
  | [], [] => true
  | m :: ms, e :: es => f m e && chkSL f ms es
  | _, _ => false
theorem chkSL_ok {P : MS → Stmt → Prop} {f : MS → Stmt → Bool} (hf : ∀ m e, f m e = true → P m e) : ∀ {ms : List MS} {es : List Stmt}, chkSL f ms es = true → All2 P ms es
  | [], [], _ => trivial
  | m :: ms, e :: es, h => ⟨hf _ _ (and_l h), chkSL_ok hf (and_r h)⟩
  | [], _ :: _, h => (Bool.false_ne_true h).elim
  | _ :: _, [], h => (Bool.false_ne_true h).elim

theorem swaps_cell {e : PySem.Expr} {x : Str} {p1 : Pos} {env : Env} (hx : env.kindOf x = some .cell) (l : Nat) : swapsWith e (some (.Name x p1)) l env = pure false := by
  have h : ∀ (sc : Scope) (ps : Pos), (pure (env.blockKind == .function && env.kindOf x == some .local && p1.line == ps.line && !(sc.names.any fun (n, k) => n == x && (k == .local || k == .cell))) : Sem Bool) = pure false := fun sc ps => by
    have e1 : (some NameKind.cell == some NameKind.local) = false := rfl
    rw [hx, e1]; simp
  cases e <;> first | rfl | exact h _ _

noncomputable def isCompM : ME → Bool
  | .comp .. => true
  | _ => false
theorem isCompM_ok {m : ME} (h : isCompM m = true) : ∃ a b c d, m = .comp a b c d := by
  cases m <;> first | exact (Bool.false_ne_true h).elim | exact ⟨_, _, _, _, rfl⟩
noncomputable def usedComp (nk : NK) (x : Str) (p1 p : Nat) (m : ME) (e : PySem.Expr) : Bool :=
  isCompM m && (isL nk x && eListComp (fun _ gs sc pc => one (fun g => decide (g.is_async = 0)) gs && (decide (p1 = pc.line) && (decide (p = pc.line) && !(sc.names.any fun (n, k) => n == x && (k == .local || k == .cell))))) e)
noncomputable def pairCell (nk : NK) (l : List PySem.Expr) (e : PySem.Expr) : Bool := two (fun a => isName (nm a) a) (fun b => isName (nm b) b && isC nk (nm b)) l && eTuple (fun vs _ _ => two (fun _ => true) (fun _ => true) vs) e
noncomputable def K : Nat := 30
theorem cE {nk ns os ts m e} (h : chkE K nk ns os ts m e = true) : IsE nk ns os ts m e := ⟨K, h⟩
noncomputable def chkS1 (g : MS → Stmt → Bool) (nk : NK) (ns : List Str) (m : MS) (st : Stmt) : Bool := match m with
  | .assign i m => sAssign (fun ts e p => one (fun t => setName nk ns i t && (chkE K nk ns [] ns m e && (noComp e || (isC nk (nm t) || usedComp nk (nm t) t.pos.line p.line m e)))) ts) st
  | .assignT is m => sAssign (fun ts e _ => one (eTuple fun elts _ _ => chkNs nk ns is elts && (chkE K nk ns [] ns m e && (noTup e || pairCell nk elts e))) ts) st
  | .newL i => sAssign (fun ts e _ => one (setName nk ns i) ts && eList (fun l _ => l.isEmpty) e) st
  | .newT i j m => sAssign (fun ts e _ => one (eTuple fun elts _ _ => two (setName nk ns i) (fun b => setName nk ns j b && isC nk (nm b)) elts) ts && eTuple (fun vs _ _ => two (chkE K nk ns [] ns m) (eDict fun ks vs _ => ks.isEmpty && vs.isEmpty) vs) e) st
  | .app i m => sExpr (fun e _ => eCall (fun f l ks p3 => eAttribute (fun o a p2 => getName ns i o && (decide (a = ("append" : Str)) && decide (p2.endLine = p3.line))) f && (one (chkE K nk ns [] ns m) l && ks.isEmpty)) e) st
  | .setTab j a b m => sAssign (fun ts e _ => one (eSubscript fun o i _ => getName ns j o && eTuple (fun l _ _ => two (chkE K nk ns [] ns a) (chkE K nk ns [] ns b) l) i) ts && chkE K nk ns [] ns m e) st
  | .iff c t => sIf (fun e b o _ => chkE K nk ns [] ns c e && (chkSL (g) t b && o.isEmpty)) st
  | .for1 i it body => sFor (fun t ite bs o _ => setName nk ns i t && (chkI nk (chkE K nk ns [] ns) it ite && (chkSL (g) body bs && o.isEmpty))) st
  | .forT is it body => sFor (fun t ite bs o _ => eTuple (fun elts _ _ => chkNs nk ns is elts) t && (chkI nk (chkE K nk ns [] ns) it ite && (chkSL (g) body bs && o.isEmpty))) st
  | .forItems i => sFor (fun t ite _ o _ => eTuple (fun elts _ _ => two (fun a => lName nk (nm a) a) (fun b => lName nk (nm b) b) elts) t && (eCall (fun f l ks p3 => eAttribute (fun ob a p2 => getName ns i ob && (decide (a = ("items" : Str)) && decide (p2.endLine = p3.line))) f && (l.isEmpty && ks.isEmpty)) ite && o.isEmpty)) st
  | .ret m => sReturn (fun v _ => yes? (chkE K nk ns [] ns m) v) st
  | .retM i => sReturn (fun v _ => yes? (getName ns i) v) st
noncomputable def chkS : Nat → NK → List Str → MS → Stmt → Bool
  | 0, _, _, _, _ => false
  | n + 1, nk, ns, m, st => chkS1 (chkS n nk ns) nk ns m st
noncomputable def IsS (nk : NK) (ns : List Str) (m : MS) (e : Stmt) : Prop := ∃ n, chkS n nk ns m e = true
noncomputable abbrev IsSs (nk : NK) (ns : List Str) : List MS → List Stmt → Prop := All2 (IsS nk ns)
theorem lName_ok {nk : NK} {e : PySem.Expr} (h : lName nk (nm e) e = true) : ∃ x p, e = .Name x p ∧ nk.lookup x = some .local := by
  obtain ⟨p, hp⟩ := isName_ok (and_r h)
  have h2 := and_l h
  generalize nm e = x at hp h2
  subst hp
  exact ⟨x, p, rfl, of_decide_eq_true h2⟩

theorem chkS1_ok {P : MS → Stmt → Prop} {g : MS → Stmt → Bool} {nk : NK} {ns : List Str} {m : MS} {st : Stmt} (hg : ∀ m e, g m e = true → P m e) (h : chkS1 g nk ns m st = true) : IsS1 P nk ns m st := by
  have ih : ∀ {ms : List MS} {es : List Stmt}, chkSL g ms es = true → All2 P ms es := fun h => chkSL_ok hg h
  cases m with
  | assign i m =>
    obtain ⟨ts, e, p, rfl, h1⟩ := sAssign_ok h
    obtain ⟨t, rfl, h2⟩ := one_ok h1
    obtain ⟨x, p1, rfl, g1, g2⟩ := setName_ok (and_l h2)
    have h3 := and_r h2
    have hE := cE (and_l h3)
    rcases or_ok (and_r h3) with h4 | h4
    · exact .assign _ _ g1 g2 hE fun l env _ => noComp_ok h4 _ l env
    · rcases or_ok h4 with h4 | h4
      · exact .assign _ _ g1 g2 hE fun l env hn => swaps_cell (hn.cel _ (of_decide_eq_true h4)) l
      · obtain ⟨a, b, c, d, rfl⟩ := isCompM_ok (and_l h4)
        have h5 := and_r h4
        obtain ⟨elt, gs, sc, pc, rfl, h6⟩ := eListComp_ok (and_r h5)
        obtain ⟨g, rfl, h7⟩ := one_ok (and_l h6)
        obtain ⟨gt, gi, gf, ga⟩ := g
        obtain rfl : ga = 0 := of_decide_eq_true h7
        have h8 := and_r h6
        exact .assignC _ _ g1 (of_decide_eq_true (and_l h5)) hE (of_decide_eq_true (and_l h8)) (of_decide_eq_true (and_l (and_r h8))) ((Bool.not_eq_true' _).mp (and_r (and_r h8)))
  | assignT is m =>
    obtain ⟨ts, e, p, rfl, h1⟩ := sAssign_ok h
    obtain ⟨t, rfl, h2⟩ := one_ok h1
    obtain ⟨elts, k, p1, rfl, h3⟩ := eTuple_ok h2
    have h4 := and_r h3
    refine .assignT _ _ _ (chkNs_ok (and_l h3)) (cE (and_l h4)) (fun l env => swaps_tup l env) fun env hn => ?_
    rcases or_ok (and_r h4) with h5 | h5
    · exact swapped_no h5 env
    · obtain ⟨a, b, rfl, h6, h7⟩ := two_ok (and_l h5)
      obtain ⟨vs, k2, p2, rfl, h8⟩ := eTuple_ok (and_r h5)
      obtain ⟨u, v, rfl, _, _⟩ := two_ok h8
      obtain ⟨q1, hq1⟩ := isName_ok h6
      obtain ⟨q2, hq2⟩ := isName_ok (and_l h7)
      have h9 := and_r h7
      generalize nm a = x at hq1
      generalize nm b = y at hq2 h9
      subst hq1 hq2
      exact swapped_two hn.fn (hn.cel _ (of_decide_eq_true h9))
  | newL i =>
    obtain ⟨ts, e, p, rfl, h1⟩ := sAssign_ok h
    obtain ⟨t, rfl, h2⟩ := one_ok (and_l h1)
    obtain ⟨x, p1, rfl, g1, g2⟩ := setName_ok h2
    obtain ⟨l, p2, rfl, h3⟩ := eList_ok (and_r h1)
    obtain rfl := List.isEmpty_iff.mp h3
    exact .newL _ _ _ g1 g2
  | newT i j m =>
    obtain ⟨ts, e, p, rfl, h1⟩ := sAssign_ok h
    obtain ⟨t, rfl, h2⟩ := one_ok (and_l h1)
    obtain ⟨elts, k, p1, rfl, h3⟩ := eTuple_ok h2
    obtain ⟨a, b, rfl, h4, h5⟩ := two_ok h3
    obtain ⟨x, p2, rfl, g1, g2⟩ := setName_ok h4
    obtain ⟨y, p3, rfl, g3, _⟩ := setName_ok (and_l h5)
    obtain ⟨vs, k2, p4, rfl, h6⟩ := eTuple_ok (and_r h1)
    obtain ⟨u, v, rfl, h7, h8⟩ := two_ok h6
    obtain ⟨ks, ws, p5, rfl, h9⟩ := eDict_ok h8
    obtain rfl := List.isEmpty_iff.mp (and_l h9)
    obtain rfl := List.isEmpty_iff.mp (and_r h9)
    exact .newT _ _ _ _ _ _ _ _ g1 g3 g2 (of_decide_eq_true (and_r h5)) (cE h7)
  | app i m =>
    obtain ⟨e, p, rfl, h1⟩ := sExpr_ok h
    obtain ⟨f, l, ks, p3, rfl, h2⟩ := eCall_ok h1
    obtain ⟨o, a, p2, rfl, h3⟩ := eAttribute_ok (and_l h2)
    obtain ⟨x, p1, rfl, g1, g2⟩ := getName_ok (and_l h3)
    obtain rfl := of_decide_eq_true (and_l (and_r h3))
    obtain ⟨u, rfl, h4⟩ := one_ok (and_l (and_r h2))
    obtain rfl := List.isEmpty_iff.mp (and_r (and_r h2))
    exact .app _ _ _ _ g1 g2 (of_decide_eq_true (and_r (and_r h3))) (cE h4)
  | setTab j a b m =>
    obtain ⟨ts, e, p, rfl, h1⟩ := sAssign_ok h
    obtain ⟨t, rfl, h2⟩ := one_ok (and_l h1)
    obtain ⟨o, ix, p3, rfl, h3⟩ := eSubscript_ok h2
    obtain ⟨x, p1, rfl, g1, g2⟩ := getName_ok (and_l h3)
    obtain ⟨l, k, p2, rfl, h4⟩ := eTuple_ok (and_r h3)
    obtain ⟨u, v, rfl, h5, h6⟩ := two_ok h4
    exact .setTab _ _ _ _ _ g1 g2 (cE h5) (cE h6) (cE (and_r h1)) fun l env => swaps_sub l env
  | iff c t =>
    obtain ⟨e, b, o, p, rfl, h1⟩ := sIf_ok h
    obtain rfl := List.isEmpty_iff.mp (and_r (and_r h1))
    exact .iff _ (cE (and_l h1)) (ih (and_l (and_r h1)))
  | for1 i it body =>
    obtain ⟨t, ite, bs, o, p, rfl, h1⟩ := sFor_ok h
    obtain ⟨x, p1, rfl, g1, g2⟩ := setName_ok (and_l h1)
    have h2 := and_r h1
    have h3 := and_r h2
    obtain rfl := List.isEmpty_iff.mp (and_r h3)
    exact .for1 _ _ g1 g2 (chkI_ok (fun _ _ => cE) (and_l h2)) (ih (and_l h3))
  | forT is it body =>
    obtain ⟨t, ite, bs, o, p, rfl, h1⟩ := sFor_ok h
    obtain ⟨elts, k, p1, rfl, h4⟩ := eTuple_ok (and_l h1)
    have h2 := and_r h1
    have h3 := and_r h2
    obtain rfl := List.isEmpty_iff.mp (and_r h3)
    exact .forT _ _ _ (chkNs_ok h4) (chkI_ok (fun _ _ => cE) (and_l h2)) (ih (and_l h3))
  | forItems i =>
    obtain ⟨t, ite, bs, o, p, rfl, h1⟩ := sFor_ok h
    obtain ⟨elts, k, p1, rfl, h4⟩ := eTuple_ok (and_l h1)
    obtain ⟨a, b, rfl, h5, h6⟩ := two_ok h4
    obtain ⟨xk, pk, rfl, gk⟩ := lName_ok h5
    obtain ⟨xv, pv, rfl, gv⟩ := lName_ok h6
    have h2 := and_r h1
    obtain rfl := List.isEmpty_iff.mp (and_r h2)
    obtain ⟨f, l, ks, p3, rfl, h7⟩ := eCall_ok (and_l h2)
    obtain ⟨ob, at', p2, rfl, h8⟩ := eAttribute_ok (and_l h7)
    obtain ⟨x, p4, rfl, g1, g2⟩ := getName_ok (and_l h8)
    obtain rfl := of_decide_eq_true (and_l (and_r h8))
    obtain rfl := List.isEmpty_iff.mp (and_l (and_r h7))
    obtain rfl := List.isEmpty_iff.mp (and_r (and_r h7))
    exact .forItems _ _ _ _ _ _ _ _ g1 g2 gk gv (of_decide_eq_true (and_r (and_r h8)))
  | ret m =>
    obtain ⟨v, p, rfl, h1⟩ := sReturn_ok h
    obtain ⟨e, rfl, h2⟩ := yes?_ok h1
    exact .ret _ (cE h2)
  | retM i =>
    obtain ⟨v, p, rfl, h1⟩ := sReturn_ok h
    obtain ⟨e, rfl, h2⟩ := yes?_ok h1
    obtain ⟨x, p1, rfl, g1, g2⟩ := getName_ok h2
    exact .retM _ _ g1 g2

theorem IsS.inv {nk ns m e} : IsS nk ns m e → IsS1 (IsS nk ns) nk ns m e
  | ⟨0, h⟩ => (Bool.false_ne_true h).elim
  | ⟨n + 1, h⟩ => chkS1_ok (fun _ _ h => ⟨n, h⟩) h
end Mine

set_option linter.unusedVariables false
namespace Mine
open PySem PySem.Calls PyProof.Rows
section
variable (prog : Program) (w : World) (ρ : Nat → Int)
noncomputable def KeyIn (G : Vw) (ks : List Int) (a : Addr) : Prop := ∃ o items n, G a = some o ∧ o.cls = .type "tuple" ∧ o.data = .seq items n ∧ ItemsAre (intKind prog w) ks items.toList
inductive TRel : List (List Int × Addr × Value) → List ((Int × Int) × AV) → Prop
  | nil : TRel [] []
  | cons {a : Addr} {v : Value} {x y : Int} {d : AV} {xs es} : RepV ρ (fun _ => none) v d → TRel xs es → TRel (([x, y], a, v) :: xs) (((x, y), d) :: es)
/-- a table by pairs of ints stands at a -/
noncomputable def TabRep (G : Vw) (h : Heap) (a : Addr) (es : List ((Int × Int) × AV)) : Prop :=
  ∃ o es' ep xs, h.get? a = some o ∧ o.ExactDict ∧ o.data = .dict es' ep ∧ es'.toList = xs.map (entryOfKey (tupleKind (intKind prog w))) ∧ (xs.map (·.1)).Nodup ∧ (∀ x ∈ xs, KeyIn prog w G x.1 x.2.1) ∧ TRel ρ xs es

/-- the names' values, as the context says -/
structure EI (env : Env) (nk : NK) (ns os ts : List Str) (G : Vw) (h : Heap) (c : Ctx) : Prop where
  own : ∀ i x v, ns[i]? = some x → getV c.own i = some v → ∃ val, Has env h x val ∧ RepV ρ G val v
  out : ∀ i x v, os[i]? = some x → nk.lookup x = some .free → getV c.out i = some v → ∃ val, Has env h x val ∧ RepV ρ G val v
  tab : ∀ j es, c.mu = some (j, .tab es) → ∃ a, TabRep prog w ρ G h a es ∧ ∀ x, ts[j]? = some x → (nk.lookup x = some .cell ∨ nk.lookup x = some .free) → Has env h x (.ref a)
end

section
variable {prog : Program} {w : World} {ρ : Nat → Int} {G G' : Vw} {h h' : Heap} {a : Addr} {es : List ((Int × Int) × AV)}
theorem KeyIn.mono {ks : List Int} (K : KeyIn prog w G ks a) (k : Le G G') : KeyIn prog w G' ks a := let ⟨o, items, n, e, r⟩ := K; ⟨o, items, n, k _ _ e, r⟩
theorem TabRep.mono (T : TabRep prog w ρ G h a es) (ha : ∀ o, h.get? a = some o → h'.get? a = some o) (k : Le G G') : TabRep prog w ρ G' h' a es :=
  let ⟨o, es', ep, xs, ho, h1, h2, h3, h4, h5, h6⟩ := T; ⟨o, es', ep, xs, ha o ho, h1, h2, h3, h4, fun x hx => (h5 x hx).mono k, h6⟩
theorem TabRep.dict (T : TabRep prog w ρ G h a es) (hG : ∀ b o, G b = some o → h.get? b = some o) : ∃ xs, h.DictOfH (tupleKind (intKind prog w)) a xs ∧ TRel ρ xs es ∧ ∀ x ∈ xs, KeyIn prog w G x.1 x.2.1 :=
  let ⟨o, es', ep, xs, ho, h1, h2, h3, h4, h5, h6⟩ := T
  ⟨xs, ⟨o, es', ep, ho, h1, h2, h3, fun x hx => let ⟨o, items, n, e, r⟩ := h5 x hx; ⟨o, items, n, hG _ _ e, r⟩, h4⟩, h6, h5⟩
theorem TRel.look {x y : Int} {v : AV} : ∀ {xs : List (List Int × Addr × Value)} {es : List ((Int × Int) × AV)}, TRel ρ xs es → lookT x y es = some v → ∃ ka val, atKey xs [x, y] = some (ka, val) ∧ RepV ρ (fun _ => none) val v
  | _, _, .nil, h => by simp [lookT] at h
  | _, _, .cons (a := ka) (v := val) (x := x') (y := y') r R, h => by
    simp only [lookT] at h
    by_cases hc : (decide (x' = x) && decide (y' = y)) = true
    · rw [if_pos hc] at h
      cases h
      simp only [Bool.and_eq_true, decide_eq_true_eq] at hc
      exact ⟨ka, val, by simp [atKey, hc.1, hc.2], r⟩
    · rw [if_neg hc] at h
      obtain ⟨ka', val', h1, h2⟩ := TRel.look R h
      refine ⟨ka', val', ?_, h2⟩
      have : ¬ ([x', y'] = [x, y]) := fun e => hc (by simp only [List.cons.injEq, and_true] at e; simp [e.1, e.2])
      simpa [atKey, List.find?_cons, this] using h1
theorem TRel.miss {x y : Int} : ∀ {xs : List (List Int × Addr × Value)} {es : List ((Int × Int) × AV)}, TRel ρ xs es → lookT x y es = none → atKey xs [x, y] = none
  | _, _, .nil, h => rfl
  | _, _, .cons (a := ka) (v := val) (x := x') (y := y') r R, h => by
    simp only [lookT] at h
    by_cases hc : (decide (x' = x) && decide (y' = y)) = true
    · rw [if_pos hc] at h; cases h
    · rw [if_neg hc] at h
      have h1 := TRel.miss R h
      have : ¬ ([x', y'] = [x, y]) := fun e => hc (by simp only [List.cons.injEq, and_true] at e; simp [e.1, e.2])
      simpa [atKey, List.find?_cons, this] using h1
theorem TRel.snoc {x y : Int} {ka : Addr} {val : Value} {v : AV} : ∀ {xs : List (List Int × Addr × Value)} {es : List ((Int × Int) × AV)}, TRel ρ xs es → RepV ρ (fun _ => none) val v → TRel ρ (xs ++ [([x, y], ka, val)]) (es ++ [((x, y), v)])
  | _, _, .nil, r => .cons r .nil
  | _, _, .cons r' R, r => .cons r' (TRel.snoc R r)
theorem TRel.length : ∀ {xs : List (List Int × Addr × Value)} {es : List ((Int × Int) × AV)}, TRel ρ xs es → xs.length = es.length
  | _, _, .nil => rfl
  | _, _, .cons _ R => by simp [TRel.length R]
variable {env : Env} {nk : NK} {ns os ts : List Str} {c : Ctx}
theorem EI.mono (I : EI prog w ρ env nk ns os ts G h c) (x : Ext h h') (k : Le G G') : EI prog w ρ env nk ns os ts G' h' c where
  own := fun i y v hi hv => let ⟨val, H, r⟩ := I.own i y v hi hv; ⟨val, H.mono x, r.mono k⟩
  out := fun i y v hi hf hv => let ⟨val, H, r⟩ := I.out i y v hi hf hv; ⟨val, H.mono x, r.mono k⟩
  tab := fun j es hj => let ⟨a, T, H⟩ := I.tab j es hj; ⟨a, T.mono (x a) k, fun y hy hk => (H y hy hk).mono x⟩
end
end Mine

set_option linter.unusedVariables false
namespace Mine
open PySem PySem.Calls PyProof.Rows
/-- a def stands at a, and it is the term's -/
structure FnAt (h : Heap) (a : Addr) (d : Fn) : Prop where
  fn : ∃ o fd body, h.get? a = some o ∧ o.data = .func fd ∧ h.CodeRec fd.code fd.qualname ∧ fd.body = .stmts body ∧ fd.globals = mainGlobals ∧ fd.closure = [] ∧ fd.builtins = builtinsNs ∧
    fd.scope.kind = .function ∧ fd.scope.isCoroutine = false ∧ fd.scope.isGenerator = false ∧ (d.names.map Str.ofString).Nodup ∧ (fd.scope.names.map (·.1)).Nodup ∧ (∀ y ∈ fd.scope.names, y.2 ≠ .free) ∧
    (∀ x ∈ d.names.map Str.ofString, fd.scope.names.lookup x = some .local ∨ fd.scope.names.lookup x = some .cell) ∧
    d.np ≤ d.names.length ∧ (∀ vals : List Value, vals.length = d.np → bindArgs fd ⟨vals, []⟩ = pure (((d.names.map Str.ofString).take d.np).zip vals)) ∧ IsSs fd.scope.names (d.names.map Str.ofString) d.body body
theorem FnAt.mono {h h' : Heap} {a : Addr} {d : Fn} (F : FnAt h a d) (k : Ext h h') : FnAt h' a d :=
  let ⟨o, fd, body, h1, h2, h3, r⟩ := F.fn; ⟨o, fd, body, k _ _ h1, h2, h3.keeps k, r⟩

/-- what stands all the while: the defs, the names -/
structure Stat (FA : Nat → Addr) (Chk : Heap → Prop) (mg mb : Str → Option Value) (h : Heap) : Prop where
  g : h.Ns mainGlobals mg
  b : h.Ns builtinsNs mb
  nolimit : h.NoLimit
  name : ∀ f nm, fname f = some nm → mg (Str.ofString nm) = some (.ref (FA f))
  fo : ∀ f nm, fname f = some nm → ∃ o fd, h.get? (FA f) = some o ∧ o.data = .func fd
  fn : ∀ f d, fnOf f = some d → FnAt h (FA f) d
  chk : Chk h
  len : mg ("len" : Str) = none ∧ mb ("len" : Str) = some (.builtin "len")
  min : mg ("min" : Str) = none ∧ mb ("min" : Str) = some (.builtin "min")
  max : mg ("max" : Str) = none ∧ mb ("max" : Str) = some (.builtin "max")
  dict : mg ("dict" : Str) = none ∧ mb ("dict" : Str) = some (.type "dict")
  range : mg ("range" : Str) = none ∧ mb ("range" : Str) = some (.type "range")
noncomputable def ExtP (P : Heap → Prop) : Prop := ∀ h h', Ext h h' → P h → P h'
theorem Stat.mono {FA : Nat → Addr} {Chk : Heap → Prop} (hC : ExtP Chk) {mg mb : Str → Option Value} {h h' : Heap} (S : Stat FA Chk mg mb h) (k : Ext h h') : Stat FA Chk mg mb h' where
  g := S.g.keeps k
  b := S.b.keeps k
  nolimit := S.nolimit.keeps k
  name := S.name
  fo := fun f nm hf => let ⟨o, fd, h1, h2⟩ := S.fo f nm hf; ⟨o, fd, k _ _ h1, h2⟩
  fn := fun f d hf => (S.fn f d hf).mono k
  chk := hC _ _ k S.chk
  len := S.len
  min := S.min
  max := S.max
  dict := S.dict
  range := S.range

structure AOk (n : Nat) (A : Around) : Prop where
  hh : A.handled = none
  depth : A.depth + n + 20 < recursionLimit
  units : A.units + 3 * n + 100 < cLine
theorem AOk.down {n : Nat} {A : Around} (a : AOk (n + 1) A) : AOk n A := ⟨a.hh, by have := a.depth; omega, by have := a.units; omega⟩
theorem AOk.room {n : Nat} {A : Around} (a : AOk n A) : A.units + 64 < cLine := by have := a.units; omega

/-- an environment's cells are told -/
structure EnvC (env : Env) (nk : NK) : Prop extends EnvN env nk where
  cll : ∀ x, env.kindOf x = some .cell → (env.cells.lookup x).isSome = true

section
variable (prog : Program) (w : World) (ρ : Nat → Int) (FA : Nat → Addr) (Chk : Heap → Prop) (mg mb : Str → Option Value)
structure SI (env : Env) (nk : NK) (ns os ts : List Str) (X : List Addr) (c : Ctx) (s : Shared) : Prop where
  stat : Stat FA Chk mg mb s.heap
  ei : EI prog w ρ env nk ns os ts (view X s.heap) s.heap c
  dom : Dom X s.heap
noncomputable def ESnd (r : Rec) (n : Nat) : Prop := ∀ (A : Around) (E : Value → Shared → Prop) (s : Shared) (env : Env) (nk : NK) (ns os ts : List Str) (X : List Addr) (c : Ctx) (m : ME) (e : Expr) (v : AV) (Q : Value → Shared → Prop),
  AOk n A → EnvC env nk → SI prog w ρ FA Chk mg mb env nk ns os ts X c s → IsE nk ns os ts m e → r.ev c m = some v → Out ρ X s v Q → wpAny (model prog w) A (eval e env) Q E s
noncomputable def TSnd (r : Rec) (n : Nat) : Prop := ∀ (A : Around) (E : Value → Shared → Prop) (s : Shared) (env : Env) (nk : NK) (ns os ts : List Str) (X : List Addr) (c : Ctx) (m : ME) (e : Expr) (b : Bool) (Q : Bool → Shared → Prop),
  AOk n A → EnvC env nk → SI prog w ρ FA Chk mg mb env nk ns os ts X c s → IsE nk ns os ts m e → r.ev c m = some (.bool b) → OutB s b Q → wpAny (model prog w) A (isTrue e env (eval e env)) Q E s
noncomputable def CSnd (r : Rec) (n : Nat) : Prop := ∀ (A : Around) (E : Value → Shared → Prop) (s : Shared) (X : List Addr) (f : Nat) (nm : String) (vals : List Value) (vs : List AV) (v : AV) (Q : Value → Shared → Prop),
  AOk n A → Stat FA Chk mg mb s.heap → Dom X s.heap → RepVs ρ (view X s.heap) vals vs → r.call f vs = some v → fname f = some nm → Out ρ X s v Q → wpAny (model prog w) A (call (.ref (FA f)) vals) Q E s
end

section
variable {prog : Program} {w : World} {ρ : Nat → Int} {FA : Nat → Addr} {Chk : Heap → Prop} {mg mb : Str → Option Value}
variable {A : Around} {E : Value → Shared → Prop} {s : Shared} {env : Env} {nk : NK} {ns os ts : List Str} {X : List Addr} {c : Ctx} {r : Rec} {n : Nat}
theorem SI.step (hC : ExtP Chk) {s' : Shared} (I : SI prog w ρ FA Chk mg mb env nk ns os ts X c s) (st : Step s s') : SI prog w ρ FA Chk mg mb env nk ns os ts X c s' :=
  ⟨I.stat.mono hC st.heap, I.ei.mono st.heap (st.heap.view X), I.dom.mono st.heap⟩
theorem Out.step {v : AV} {Q : Value → Shared → Prop} {s' : Shared} (h : Out ρ X s v Q) (st : Step s s') : Out ρ X s' v Q := fun s2 val st2 r2 => h s2 val (st.trans st2) r2
theorem OutB.step {b : Bool} {Q : Bool → Shared → Prop} {s' : Shared} (h : OutB s b Q) (st : Step s s') : OutB s' b Q := fun s2 st2 => h s2 (st.trans st2)

/-- a text's built-in by its name -/
theorem builtin_name {x : Str} {p : Pos} {v : Value} {Q : Value → Shared → Prop} (hn : EnvC env nk) (S : Stat FA Chk mg mb s.heap) (hk : nk.lookup x = some .globalImplicit) (hx : mg x = none ∧ mb x = some v) (hd : (x == ("__debug__" : Str)) = false) (h : Q v s) :
    wpAny (model prog w) A (eval (.Name x p) env) Q E s :=
  Name_function_global hn.fn (hn.glo x hk) (loadGlobal_builtin (env := env) (by rw [hn.gl]; exact S.g) hx.1 (by rw [hn.bi]; exact S.b) hx.2 h) hd
theorem global_name {x : Str} {p : Pos} {v : Value} {Q : Value → Shared → Prop} (hn : EnvC env nk) (S : Stat FA Chk mg mb s.heap) (hk : nk.lookup x = some .globalImplicit) (hx : mg x = some v) (hd : (x == ("__debug__" : Str)) = false) (h : Q v s) :
    wpAny (model prog w) A (eval (.Name x p) env) Q E s :=
  Name_function_global hn.fn (hn.glo x hk) (loadGlobal_global (env := env) (by rw [hn.gl]; exact S.g) hx h) hd

variable (hC : ExtP Chk) (hE : ESnd prog w ρ FA Chk mg mb r n)
include hC hE
theorem evs_ok (hA : AOk n A) (hn : EnvC env nk) : ∀ {ms : List ME} {es : List Expr} {vs : List AV} {s : Shared} {p : Pos} {Q : List Value → Shared → Prop}, SI prog w ρ FA Chk mg mb env nk ns os ts X c s → IsEs nk ns os ts ms es → evs r c ms = some vs →
    (∀ s' vals, Step s s' → RepVs ρ (view X s'.heap) vals vs → Q vals s') → wpAny (model prog w) A (spliced (backTo p (starEach es env))) Q E s
  | [], [], _, s, p, Q, I, _, h, hQ => by
    cases h
    exact args_nil (hQ s [] (Step.refl s) .nil)
  | [], _ :: _, _, s, p, Q, I, i, h, hQ => i.elim
  | _ :: _, [], _, s, p, Q, I, i, h, hQ => i.elim
  | m :: ms, _ :: _, _, s, p, Q, I, ⟨i, is⟩, h, hQ => by
    simp only [evs] at h
    split at h
    · cases h
    · rename_i v hv
      split at h
      · cases h
      · rename_i vs hvs
        cases h
        refine args_cons (hE _ _ _ _ _ _ _ _ _ _ _ _ _ _ hA hn I i hv fun s1 v1 st1 r1 => ?_) (i.star _ _)
        exact evs_ok hA hn (I.step hC st1) is hvs fun s2 vals st2 r2 => hQ s2 _ (st1.trans st2) (.cons (r1.mono (st2.heap.view X)) r2)
end
end Mine

set_option linter.unusedVariables false
namespace Mine
open PySem PySem.Calls PyProof.Rows

section
variable (prog : Program) (w : World) (ρ : Nat → Int) (FA : Nat → Addr) (Chk : Heap → Prop) (mg mb : Str → Option Value)
/-- what is asked of a comprehension and of len(dict(..)), shown apart -/
noncomputable def KSnd (r : Rec) (n : Nat) : Prop := ∀ (A : Around) (E : Value → Shared → Prop) (s : Shared) (env : Env) (nk : NK) (ns os ts : List Str) (X : List Addr) (c : Ctx) (elt : ME) (tg : Option Nat) (it : MI) (cond : Option ME) (e : Expr) (v : AV) (Q : Value → Shared → Prop),
  AOk (n + 1) A → EnvC env nk → SI prog w ρ FA Chk mg mb env nk ns os ts X c s → IsE nk ns os ts (.comp elt tg it cond) e → evS r c (.comp elt tg it cond) = some v → Out ρ X s v Q → wpAny (model prog w) A (eval e env) Q E s
noncomputable def DSnd : Prop := ∀ (n : Nat) (A : Around) (E : Value → Shared → Prop) (s : Shared) (X : List Addr) (a : Value) (l : List AV) (v : AV) (Q : Value → Shared → Prop),
  AOk n A → Stat FA Chk mg mb s.heap → Dom X s.heap → RepV ρ (view X s.heap) a (.list l) → small l.length = true → lenDictV (.list l) = some v →
  (∀ (s' : Shared) (d : Value), Step s s' → (∀ (E : Value → Shared → Prop) (Q' : Value → Shared → Prop), Out ρ X s' v Q' → wpAny (model prog w) A (call (.builtin "len") [d]) Q' E s') → Q d s') → wpAny (model prog w) A (call (.type "dict") [a]) Q E s
end

section
variable {prog : Program} {w : World} {ρ : Nat → Int} {FA : Nat → Addr} {Chk : Heap → Prop} {mg mb : Str → Option Value}
variable {A : Around} {E : Value → Shared → Prop} {s : Shared} {env : Env} {nk : NK} {ns os ts : List Str} {X : List Addr} {c : Ctx} {r : Rec} {n : Nat}

theorem kept_ref {s' : Shared} {a : Addr} {o : Obj} (st : Step s s') (h : s.heap.get? a = some o) : s'.heap.get? a = some o := st.heap a o h

theorem beh_eq (e : PySem.Expr) : behindInMarks .Eq e = false := by cases e <;> first | rfl | simp [behindInMarks]
theorem beh_ne (e : PySem.Expr) : behindInMarks .NotEq e = false := by cases e <;> first | rfl | simp [behindInMarks]
theorem beh_lt (e : PySem.Expr) : behindInMarks .Lt e = false := by cases e <;> first | rfl | simp [behindInMarks]
theorem beh_gt (e : PySem.Expr) : behindInMarks .Gt e = false := by cases e <;> first | rfl | simp [behindInMarks]

theorem All2.star {e : PySem.Expr} {es : List PySem.Expr} : ∀ {l : List ME}, All2 (IsE nk ns os ts) l (e :: es) → ∀ env, starEach (e :: es) env = (false, eval e env) :: starEach es env
  | [], h, _ => h.elim
  | _ :: _, h, env => h.1.star es env
theorem plain1 {m : ME} {e : PySem.Expr} (h : IsE nk ns os ts m e) (p : Pos) (env : Env) : (backTo p (starEach [e] env)).any (·.1) = false := IsEs.plain (l := [m]) (es := [e]) ⟨h, trivial⟩ p env

theorem ev_step (H : Rng ρ) (hC : ExtP Chk) (hE : ESnd prog w ρ FA Chk mg mb r n) (hT : TSnd prog w ρ FA Chk mg mb r n) (hF : CSnd prog w ρ FA Chk mg mb r n) (hK : KSnd prog w ρ FA Chk mg mb r n) (hD : DSnd prog w ρ FA Chk mg mb)
    (ex : St → MS → Option (Option AV × St)) (ca : Nat → List AV → Option AV) : ESnd prog w ρ FA Chk mg mb ⟨evS r, ex, ca⟩ (n + 1) := by
  intro A E s env nk ns os ts X c m e v Q hA' hn I his hv hQ
  have hA := hA'.down
  replace hv : evS r c m = some v := hv
  have ev1 : ∀ {E : Value → Shared → Prop} {s : Shared} {m : ME} {e : Expr} {v : AV} {Q : Value → Shared → Prop}, SI prog w ρ FA Chk mg mb env nk ns os ts X c s → IsE nk ns os ts m e → r.ev c m = some v → Out ρ X s v Q → wpAny (model prog w) A (eval e env) Q E s :=
    fun I h hv hQ => hE _ _ _ _ _ _ _ _ _ _ _ _ _ _ hA hn I h hv hQ
  have ev2 : ∀ {E : Value → Shared → Prop} {a b : ME} {ea eb : PySem.Expr} {x y : AV} {F : Value → Value → Sem Value} {Q : Value → Shared → Prop}, IsE nk ns os ts a ea → IsE nk ns os ts b eb → r.ev c a = some x → r.ev c b = some y →
      (∀ s2 v1 v2, Step s s2 → RepV ρ (view X s2.heap) v1 x → RepV ρ (view X s2.heap) v2 y → wpAny (model prog w) A (F v1 v2) Q E s2) → wpAny (model prog w) A (eval ea env) (fun v1 s1 => wpAny (model prog w) A (eval eb env) (fun v2 s2 => wpAny (model prog w) A (F v1 v2) Q E s2) E s1) E s :=
    fun ha hb hx hy hF => ev1 I ha hx fun s1 v1 st1 r1 => ev1 (I.step hC st1) hb hy fun s2 v2 st2 r2 => hF s2 v1 v2 (st1.trans st2) (r1.mono (st2.heap.view X)) r2
  have ev2i : ∀ {E : Value → Shared → Prop} {a b : ME} {ea eb : PySem.Expr} {x y : Int} {F : Value → Value → Sem Value} {Q : Value → Shared → Prop}, IsE nk ns os ts a ea → IsE nk ns os ts b eb → r.ev c a = some (.int x) → r.ev c b = some (.int y) →
      (∀ s2 t t', Step s s2 → wpAny (model prog w) A (F (.int x t) (.int y t')) Q E s2) → wpAny (model prog w) A (eval ea env) (fun v1 s1 => wpAny (model prog w) A (eval eb env) (fun v2 s2 => wpAny (model prog w) A (F v1 v2) Q E s2) E s1) E s :=
    fun ha hb hx hy hF => ev2 ha hb hx hy fun s2 v1 v2 st r1 r2 => by cases r1 with | int _ t => cases r2 with | int _ t' => exact hF s2 t t' st
  have evB : ∀ {E : Value → Shared → Prop} {s : Shared} {m : ME} {e : PySem.Expr} {t : Bool} {Q : Value → Shared → Prop}, SI prog w ρ FA Chk mg mb env nk ns os ts X c s → IsE nk ns os ts m e → r.ev c m = some (.bool t) → (∀ s1, Step s s1 → Q (.bool t) s1) → wpAny (model prog w) A (eval e env) Q E s :=
    fun I h hv hQ => ev1 I h hv fun s1 v1 st1 r1 => by cases r1; exact hQ s1 st1
  have evD : ∀ {E : Value → Shared → Prop} {m : ME} {e : PySem.Expr} {v : AV}, IsE nk ns os ts m e → r.ev c m = some v → ∀ (Q' : Value → Shared → Prop), (∀ s1 v1, Step s s1 → Dom X s1.heap → RepV ρ (view X s1.heap) v1 v → Q' v1 s1) → wpAny (model prog w) A (eval e env) Q' E s :=
    fun h hv Q' hQ' => ev1 I h hv fun s1 v1 st1 r1 => hQ' s1 v1 st1 (I.dom.mono st1.heap) r1
  cases his.inv with
  | int z k p => cases hv; exact wpAny_Constant_int (out_int hQ)
  | bool b k p => cases hv; exact wpAny_Constant_bool (out_bool hQ)
  | str k p hx =>
    cases hv
    subst hx
    exact wpAny_Constant_str (hQ _ _ (Step.toks s _) (.str _ _))
  | var p hx hd =>
    obtain ⟨val, hh, hr⟩ := I.ei.own _ _ _ hx hv
    exact wpAny_Name (hh.load hn.fn (hQ _ _ (Step.refl s) hr)) hd
  | fre p hx hf hd =>
    obtain ⟨val, hh, hr⟩ := I.ei.out _ _ _ hx hf hv
    exact wpAny_Name (hh.load hn.fn (hQ _ _ (Step.refl s) hr)) hd
  | add p ha hb =>
    obtain ⟨x, y, hx, hy, hv⟩ := bin_ok hv
    exact wpAny_BinOp (ev2 ha hb hx hy fun s2 v1 v2 st r1 r2 => addV_ok (I.step hC st).dom r1 r2 hv (hQ.step st))
  | sub p ha hb =>
    obtain ⟨x, y, hx, hy, hv⟩ := bin_ok hv
    exact wpAny_BinOp (ev2 ha hb hx hy fun s2 v1 v2 st r1 r2 => subV_ok r1 r2 hv (hQ.step st))
  | mul p ha hb =>
    obtain ⟨x, y, hx, hy, hv⟩ := bin_ok hv
    exact wpAny_BinOp (ev2 ha hb hx hy fun s2 v1 v2 st r1 r2 => mulV_ok H r1 r2 hv (hQ.step st))
  | eq p ha hb =>
    obtain ⟨x, y, hx, hy, hv⟩ := bin_ok hv
    obtain ⟨t, ht, rfl⟩ := Option.map_eq_some_iff.mp hv
    exact wpAny_Compare1 (hm := beh_eq _) (ev2 ha hb hx hy fun s2 v1 v2 st r1 r2 => (eqV_both H r1 r2 hA.room ht).1 _ (out_bool (hQ.step st)))
  | ne p ha hb =>
    obtain ⟨x, y, hx, hy, hv⟩ := bin_ok hv
    obtain ⟨t, ht, rfl⟩ := Option.map_eq_some_iff.mp hv
    exact wpAny_Compare1 (hm := beh_ne _) (ev2 ha hb hx hy fun s2 v1 v2 st r1 r2 => (eqV_both H r1 r2 hA.room ht).2 _ (out_bool (hQ.step st)))
  | lt p ha hb =>
    obtain ⟨x, y, hx, hy, hv⟩ := bini_ok hv
    cases hv
    exact wpAny_Compare1 (hm := beh_lt _) (ev2i ha hb hx hy fun s2 t t' st => lt_int (out_bool (hQ.step st)))
  | gt p ha hb =>
    obtain ⟨x, y, hx, hy, hv⟩ := bini_ok hv
    cases hv
    exact wpAny_Compare1 (hm := beh_gt _) (ev2i ha hb hx hy fun s2 t t' st => gt_int (out_bool (hQ.step st)))
  | and p ha hb =>
    obtain ⟨t, hx, hv⟩ := onB_ok hv
    refine wpAny_And2 (evB I ha hx fun s1 st1 => ?_)
    cases t
    · cases hv
      exact wpAny_truthy_bool (out_bool (hQ.step st1))
    · obtain ⟨u, hy, hv⟩ := onB_ok hv
      cases hv
      exact wpAny_truthy_bool (ev1 (I.step hC st1) hb hy (hQ.step st1))
  | or p ha hb =>
    obtain ⟨t, hx, hv⟩ := onB_ok hv
    refine wpAny_Or2 (evB I ha hx fun s1 st1 => ?_)
    cases t
    · obtain ⟨u, hy, hv⟩ := onB_ok hv
      cases hv
      exact wpAny_truthy_bool (ev1 (I.step hC st1) hb hy (hQ.step st1))
    · cases hv
      exact wpAny_truthy_bool (out_bool (hQ.step st1))
  | not p ha =>
    obtain ⟨t, hx, hv⟩ := onB_ok hv
    cases hv
    exact wpAny_UnaryOp (evB I ha hx fun s1 st1 => not_of (wpAny_truthy_bool (out_bool (hQ.step st1))))
  | ife p hc ha hb =>
    obtain ⟨t, hx, hv⟩ := onB_ok hv
    refine wpAny_IfExp (hT _ _ _ _ _ _ _ _ _ _ _ _ _ _ hA hn I hc hx fun s1 st1 => ?_)
    cases t
    · rw [if_neg Bool.false_ne_true]; exact ev1 (I.step hC st1) hb hv (hQ.step st1)
    · rw [if_pos rfl]; exact ev1 (I.step hC st1) ha hv (hQ.step st1)
  | tup k p hl =>
    obtain ⟨vs, hvs, hv⟩ := bd hv
    obtain ⟨hsm, hv⟩ := when_ok hv
    cases hv
    have := small_iff hsm
    refine wpAny_Tuple (evs_ok hC hE hA hn I hl hvs fun s1 vals st1 r1 => ?_)
    have e := r1.length
    refine ⟨by rw [sizeLine_eq]; omega, ?_⟩
    exact hQ _ _ (st1.trans (Step.of (tk := s1.toks) (Ext.push _ _))) (.tup (view_push (I.dom.mono st1.heap) rfl) rfl rfl (by simpa using r1.mono ((Ext.push _ _).view X)))
  | list p hl =>
    obtain ⟨vs, hvs, hv⟩ := bd hv
    obtain ⟨hsm, hv⟩ := when_ok hv
    cases hv
    have := small_iff hsm
    refine wpAny_List (evs_ok hC hE hA hn I hl hvs fun s1 vals st1 r1 => ?_)
    have e := r1.length
    refine ⟨by rw [sizeLine_eq]; omega, ?_⟩
    exact hQ _ _ (st1.trans (Step.of (tk := s1.toks) (Ext.push _ _))) (.list (view_push (I.dom.mono st1.heap) rfl) ⟨rfl, rfl⟩ rfl (by simpa using r1.mono ((Ext.push _ _).view X)))
  | edict p =>
    cases hv
    refine wpAny_Dict_empty (hQ _ _ (Step.of (tk := s.toks) (Ext.push _ _)) (.edict (view_push I.dom rfl) ?_))
    have := modules_low I.stat.nolimit
    exact beq_eq_false_iff_ne.mpr (Nat.ne_of_gt this)
  | idx p ha hi hp =>
    obtain ⟨x, y, hx, hy, hv⟩ := bin_ok hv
    refine Subscript_ (ev2 ha hi hx hy fun s2 v1 v2 st r1 r2 => ?_)
    obtain ⟨h1, T, id, h2, h3⟩ := idxV_ok (prog := prog) (w := w) (A := A) (E := E) r1 r2 hv (hQ.step st)
    exact tail_any h3 h2 h1 (subscripted_plain hp _ _)
  | slFrom p1 p2 p3 p kk ha =>
    obtain ⟨l, hx, hv⟩ := onL_ok hv
    obtain ⟨hs, hv⟩ := when_ok hv
    cases hv
    exact slFrom_ok ((Bool.and_eq_true _ _).mp hs).1 (evD ha hx) hQ
  | slTo p1 p2 p3 p kk ha =>
    obtain ⟨a, hx, hv⟩ := bd hv
    rcases slToV_ok hv with ⟨l, rfl, hv⟩ | ⟨l, rfl, hv⟩
    · obtain ⟨hs, hv⟩ := when_ok hv
      cases hv
      exact slToL_ok ((Bool.and_eq_true _ _).mp hs).1 (evD ha hx) hQ
    · obtain ⟨hs, hv⟩ := when_ok hv
      cases hv
      have hs := (Bool.and_eq_true _ _).mp hs
      have hs1 := (Bool.and_eq_true _ _).mp hs.1
      exact slToT_ok hs1.1 (Nat.le_of_ble_eq_true hs.2) (Nat.le_of_ble_eq_true hs1.2) (evD ha hx) hQ
  | rev p1 p2 p3 p4 p kk ha =>
    obtain ⟨l, hx, hv⟩ := onL_ok hv
    obtain ⟨hs, hv⟩ := when_ok hv
    cases hv
    exact rev_ok hs (evD ha hx) hQ
  | tab p1 p2 p k hx hk hd ha hb =>
    obtain ⟨x, y, hx', hy', hv⟩ := bini_ok hv
    obtain ⟨es, hmu, hv⟩ := tabV_ok hv
    obtain ⟨a, T, hh⟩ := I.ei.tab _ _ hmu
    have h0 := hh _ hx hk
    refine Subscript_ (wpAny_Name (h0.load hn.fn ?_) hd)
    refine wpAny_Tuple (args_cons (ev1 I ha hx' fun s1 v1 st1 r1 => args_cons (ev1 (I.step hC st1) hb hy' fun s2 v2 st2 r2 => args_nil ?_) (hb.star _ _)) (ha.star _ _))
    cases r1 with | int _ t => cases r2 with | int _ t' =>
      refine ⟨by rw [sizeLine_eq]; simp, ?_⟩
      have E2 : Ext s.heap (s2.heap.push { cls := .type "tuple", data := .seq [Value.int x t, Value.int y t'].toArray }) := (st1.trans st2).heap.trans (Ext.push _ _)
      obtain ⟨xs, hd', R, _⟩ := (T.mono (E2 a) (E2.view X)).dict (fun b o => view_get)
      obtain ⟨ka, val, h1, h2⟩ := R.look hv
      have hkey : IsTupleKey (intKind prog w) (s2.heap.push { cls := .type "tuple", data := .seq [Value.int x t, Value.int y t'].toArray }) [x, y] s2.heap.objs.size :=
        ⟨_, _, _, Heap.get?_push_size _ rfl, rfl, rfl, .cons (intKind_is _ _ _ _) (.cons (intKind_is _ _ _ _) .nil)⟩
      refine tail_any (ops := [_, _]) hd'.typeIs slot_dict_getitem.lookup (wpAny_getItem_heap (tupleKind_room_in1 (by have := hA.room; omega)) hkey hd' h1 ?_) rfl
      exact hQ _ _ ((st1.trans st2).trans (Step.of (Ext.push _ _))) (h2.mono fun b o (e : none = some o) => nomatch e)
  | @call _ _ _ es p1 p hf hk hd hl hne =>
    obtain ⟨vs, hvs, hv⟩ := bd hv
    obtain ⟨o, fd, ho, hdat⟩ := I.stat.fo _ _ hf
    refine Call_ (global_name hn I.stat hk (I.stat.name _ _ hf) hd ?_)
    cases es with
    | nil => exact absurd rfl hne
    | cons e0 es =>
      refine callWith_def hdat (evs_ok hC hE hA hn I hl hvs fun s1 vals st1 r1 => ⟨kept_ref st1 ho, ?_⟩) (All2.star hl _)
      exact hF _ _ _ _ _ _ _ _ _ _ hA (I.stat.mono hC st1.heap) (I.dom.mono st1.heap) r1 hv hf (hQ.step st1)
  | len p1 p hk ha =>
    obtain ⟨a, hx, hv⟩ := bd hv
    refine Call_ (builtin_name hn I.stat hk I.stat.len (by decide) ?_)
    refine callWith_builtin1 (args_cons (ev1 I ha hx fun s1 v1 st1 r1 => args_nil ?_) (ha.star _ _)) (ha.star _ _)
    rcases lenV_ok hv with ⟨l, rfl, hv⟩ | ⟨l, rfl, hv⟩
    · obtain ⟨hs, hv⟩ := when_ok hv
      cases hv
      exact len_list_ok r1 hs (hQ.step st1)
    · obtain ⟨hs, hv⟩ := when_ok hv
      cases hv
      exact len_str_ok r1 hs (hQ.step st1)
  | lenDict p1 p2 p3 p hk hk2 ha =>
    obtain ⟨l, hx, hv⟩ := onL_ok hv
    obtain ⟨hs, hv⟩ := when_ok hv
    refine Call_ (builtin_name hn I.stat hk I.stat.len (by decide) ?_)
    refine callWith_builtin1 (args_cons (Call_ (builtin_name hn I.stat hk2 I.stat.dict (by decide) ?_)))
    refine callWith_type1 (args_cons (ev1 I ha hx fun s1 v1 st1 r1 => args_nil ?_) (ha.star _ _)) (ha.star _ _)
    refine hD n A E s1 X v1 l v _ hA (I.stat.mono hC st1.heap) (I.dom.mono st1.heap) r1 hs hv fun s2 d st2 k2 => args_nil ?_
    exact k2 _ _ (hQ.step (st1.trans st2))
  | min p1 p hk ha =>
    obtain ⟨l, hx, hv⟩ := onL_ok hv
    obtain ⟨es, he, hv⟩ := bd hv
    obtain ⟨e0, es, rfl, hv⟩ := minV_ok hv
    obtain ⟨hs, hv⟩ := when_ok hv
    cases hv
    refine Call_ (builtin_name hn I.stat hk I.stat.min (by decide) ?_)
    refine callWith_builtin1 (args_cons (ev1 I ha hx fun s1 v1 st1 r1 => args_nil ?_) (ha.star _ _)) (ha.star _ _)
    exact min_ok hA.hh r1 he (hQ.step st1)
  | mod p p2 kk ha =>
    obtain ⟨z, hx, hv⟩ := onI_ok hv
    obtain ⟨hk, hv⟩ := when_ok hv
    cases hv
    have hk := Nat.le_of_ble_eq_true hk
    refine wpAny_BinOp (ev1 I ha hx fun s1 v1 st1 r1 => wpAny_Constant_int ?_)
    cases r1 with | int _ t =>
      exact mod_int (by omega) (hQ _ _ (st1.trans (Step.toks _ _)) (.int _ _))
  | max2 p1 p hk ha hb =>
    obtain ⟨x, y, hx, hy, hv⟩ := bini_ok hv
    cases hv
    refine Call_ (builtin_name hn I.stat hk I.stat.max (by decide) ?_)
    refine callWith_builtin1 (args_cons (ev1 I ha hx fun s1 v1 st1 r1 => args_cons (ev1 (I.step hC st1) hb hy fun s2 v2 st2 r2 => args_nil ?_) (hb.star _ _)) (ha.star _ _)) (ha.star _ _) (plain1 hb _ _)
    cases r1 with | int _ t => cases r2 with | int _ u =>
      refine max_two_ints hA.hh fun h' tk hk' => hQ _ _ ((st1.trans st2).trans (Step.of hk')) ?_
      split <;> exact .int _ _
  | min2 p1 p hk ha hb =>
    obtain ⟨x, y, hx, hy, hv⟩ := bini_ok hv
    cases hv
    refine Call_ (builtin_name hn I.stat hk I.stat.min (by decide) ?_)
    refine callWith_builtin1 (args_cons (ev1 I ha hx fun s1 v1 st1 r1 => args_cons (ev1 (I.step hC st1) hb hy fun s2 v2 st2 r2 => args_nil ?_) (hb.star _ _)) (ha.star _ _)) (ha.star _ _) (plain1 hb _ _)
    cases r1 with | int _ t => cases r2 with | int _ u =>
      refine min_two_ints hA.hh fun h' tk hk' => hQ _ _ ((st1.trans st2).trans (Step.of hk')) ?_
      split <;> exact .int _ _
  | slToE p3 p ha hb =>
    obtain ⟨x, y, hx, hy, hv⟩ := bin_ok hv
    obtain ⟨l, k, rfl, rfl, hv⟩ := slToEV_ok hv
    obtain ⟨hs, hv⟩ := when_ok hv
    cases hv
    have hs := (Bool.and_eq_true _ _).mp hs
    have hsm := small_iff hs.1
    refine Subscript_ (ev1 I ha hx fun s1 v1 st1 r1 => ?_)
    refine wpAny_Slice (wpAny_pure (ev1 (I.step hC st1) hb hy fun s2 v2 st2 r2 => wpAny_pure ?_))
    have r1' := r1.mono (st2.heap.view X)
    cases r2 with | int _ t =>
    cases r1' with
    | list h1 c d rr =>
      have e := rr.length
      simp only [Array.length_toList] at e
      rename_i a o vals nn
      obtain ⟨kn, rfl⟩ := Int.eq_ofNat_of_zero_le (of_decide_eq_true hs.2)
      have hL : (s2.heap.push { cls := Value.type "slice", data := Data.fields #[Value.none, Value.int (kn : Int) t, Value.none] }).IsList a vals := ⟨_, Heap.get?_push_of_some _ (view_get h1), c.1, _, d⟩
      refine tail_any (ops := [_, _]) hL.typeIs list_getitem_lookup (wpAny_getItem_list_slice hL (Heap.IsSliceOf.new ..) .none (.int _ _) .none (by simp) ?_ (by rw [sizeLine_eq]; omega)) rfl
      rw [slicePick_upto']
      have E1 : Ext s2.heap ((s2.heap.push { cls := Value.type "slice", data := Data.fields #[Value.none, Value.int (kn : Int) t, Value.none] }).push { cls := Value.type "list", data := Data.seq (List.take kn vals.toList).toArray }) := (Ext.push _ _).trans (Ext.push _ _)
      have D2 : Dom X (s2.heap.push { cls := Value.type "slice", data := Data.fields #[Value.none, Value.int (kn : Int) t, Value.none] }) := ((I.step hC st1).step hC st2).dom.mono (Ext.push _ _)
      refine hQ _ _ ((st1.trans st2).trans (Step.of (tk := s2.toks) E1)) (.list (view_push D2 rfl) ⟨rfl, rfl⟩ rfl ?_)
      simpa using (rr.take kn).mono (E1.view X)
  | comp p => exact hK _ _ _ _ _ _ _ _ _ _ _ _ _ _ _ _ _ hA' hn I his hv hQ
end
end Mine

set_option linter.unusedVariables false
namespace Mine
open PySem PySem.Calls PyProof.Rows

section
variable {prog : Program} {w : World} {ρ : Nat → Int} {FA : Nat → Addr} {Chk : Heap → Prop} {mg mb : Str → Option Value}
variable {r : Rec} {n : Nat}
theorem t_step (H : Rng ρ) (hC : ExtP Chk) (hE : ESnd prog w ρ FA Chk mg mb r n) (hT : TSnd prog w ρ FA Chk mg mb r n)
    (ex : St → MS → Option (Option AV × St)) (ca : Nat → List AV → Option AV) (hE' : ESnd prog w ρ FA Chk mg mb ⟨evS r, ex, ca⟩ (n + 1)) : TSnd prog w ρ FA Chk mg mb ⟨evS r, ex, ca⟩ (n + 1) := by
  intro A E s env nk ns os ts X c m e bb Q hA' hn I his hv hQ
  have hA := hA'.down
  have ev1 : ∀ {E : Value → Shared → Prop} {s : Shared} {m : ME} {e : PySem.Expr} {v : AV} {Q : Value → Shared → Prop}, SI prog w ρ FA Chk mg mb env nk ns os ts X c s → IsE nk ns os ts m e → r.ev c m = some v → Out ρ X s v Q → wpAny (model prog w) A (eval e env) Q E s :=
    fun I h hv hQ => hE _ _ _ _ _ _ _ _ _ _ _ _ _ _ hA hn I h hv hQ
  have ev2 : ∀ {E : Value → Shared → Prop} {a b : ME} {ea eb : PySem.Expr} {x y : AV} {R : Value → Value → Shared → Prop}, IsE nk ns os ts a ea → IsE nk ns os ts b eb → r.ev c a = some x → r.ev c b = some y →
      (∀ s2 v1 v2, Step s s2 → RepV ρ (view X s2.heap) v1 x → RepV ρ (view X s2.heap) v2 y → R v1 v2 s2) → wpAny (model prog w) A (eval ea env) (fun v1 s1 => wpAny (model prog w) A (eval eb env) (fun v2 s2 => R v1 v2 s2) E s1) E s :=
    fun ha hb hx hy hF => ev1 I ha hx fun s1 v1 st1 r1 => ev1 (I.step hC st1) hb hy fun s2 v2 st2 r2 => hF s2 v1 v2 (st1.trans st2) (r1.mono (st2.heap.view X)) r2
  have ev2i : ∀ {E : Value → Shared → Prop} {a b : ME} {ea eb : PySem.Expr} {x y : Int} {R : Value → Value → Shared → Prop}, IsE nk ns os ts a ea → IsE nk ns os ts b eb → r.ev c a = some (.int x) → r.ev c b = some (.int y) →
      (∀ s2 t t', Step s s2 → R (.int x t) (.int y t') s2) → wpAny (model prog w) A (eval ea env) (fun v1 s1 => wpAny (model prog w) A (eval eb env) (fun v2 s2 => R v1 v2 s2) E s1) E s :=
    fun ha hb hx hy hF => ev2 ha hb hx hy fun s2 v1 v2 st r1 r2 => by cases r1 with | int _ t => cases r2 with | int _ t' => exact hF s2 t t' st
  have tv1 : ∀ {E : Value → Shared → Prop} {s : Shared} {m : ME} {e : PySem.Expr} {b : Bool} {Q : Bool → Shared → Prop}, SI prog w ρ FA Chk mg mb env nk ns os ts X c s → IsE nk ns os ts m e → r.ev c m = some (.bool b) → OutB s b Q → wpAny (model prog w) A (isTrue e env (eval e env)) Q E s :=
    fun I h hv hQ => hT _ _ _ _ _ _ _ _ _ _ _ _ _ _ hA hn I h hv hQ
  have val : wpAny (model prog w) A (eval e env) (fun v s₁ => wpAny (model prog w) A (truthy v) Q E s₁) E s :=
    hE' _ _ _ _ _ _ _ _ _ _ _ _ _ _ hA' hn I his hv fun s1 v1 st1 r1 => by cases r1; exact wpAny_truthy_bool (hQ s1 st1)
  replace hv : evS r c m = some (.bool bb) := hv
  cases his.inv
  case eq a b ea eb p ha hb =>
    obtain ⟨x, y, hx, hy, hv⟩ := bin_ok hv
    obtain ⟨t, ht, ht'⟩ := Option.map_eq_some_iff.mp hv
    cases ht'
    exact wpAny_isTrue_Compare1 (hm := beh_eq _) (ev2 ha hb hx hy fun s2 v1 v2 st r1 r2 => (eqV_both H r1 r2 hA.room ht).1 _ (wpAny_truthy_bool (hQ _ st)))
  case ne a b ea eb p ha hb =>
    obtain ⟨x, y, hx, hy, hv⟩ := bin_ok hv
    obtain ⟨t, ht, ht'⟩ := Option.map_eq_some_iff.mp hv
    cases ht'
    exact wpAny_isTrue_Compare1 (hm := beh_ne _) (ev2 ha hb hx hy fun s2 v1 v2 st r1 r2 => (eqV_both H r1 r2 hA.room ht).2 _ (wpAny_truthy_bool (hQ _ st)))
  case lt a b ea eb p ha hb =>
    obtain ⟨x, y, hx, hy, hv⟩ := bini_ok hv
    cases hv
    exact wpAny_isTrue_Compare1 (hm := beh_lt _) (ev2i ha hb hx hy fun s2 t t' st => lt_int (wpAny_truthy_bool (hQ _ st)))
  case gt a b ea eb p ha hb =>
    obtain ⟨x, y, hx, hy, hv⟩ := bini_ok hv
    cases hv
    exact wpAny_isTrue_Compare1 (hm := beh_gt _) (ev2i ha hb hx hy fun s2 t t' st => gt_int (wpAny_truthy_bool (hQ _ st)))
  case and a b ea eb p ha hb =>
    obtain ⟨t, hx, hv⟩ := onB_ok hv
    refine wpAny_isTrue_BoolOp (wpAny_allTrue_And_cons (tv1 I ha hx fun s1 st1 => ?_))
    cases t
    · cases hv
      rw [if_neg Bool.false_ne_true]
      exact hQ _ st1
    · obtain ⟨u, hy, hv⟩ := onB_ok hv
      cases hv
      rw [if_pos rfl]
      refine wpAny_allTrue_And_cons (tv1 (I.step hC st1) hb hy fun s2 st2 => ?_)
      cases bb
      · rw [if_neg Bool.false_ne_true]; exact hQ _ (st1.trans st2)
      · rw [if_pos rfl]; exact wpAny_allTrue_And_nil (hQ _ (st1.trans st2))
  case or a b ea eb p ha hb =>
    obtain ⟨t, hx, hv⟩ := onB_ok hv
    refine wpAny_isTrue_BoolOp (wpAny_allTrue_Or_cons (tv1 I ha hx fun s1 st1 => ?_))
    cases t
    · obtain ⟨u, hy, hv⟩ := onB_ok hv
      cases hv
      rw [if_neg Bool.false_ne_true]
      refine wpAny_allTrue_Or_cons (tv1 (I.step hC st1) hb hy fun s2 st2 => ?_)
      cases bb
      · rw [if_neg Bool.false_ne_true]; exact wpAny_allTrue_Or_nil (hQ _ (st1.trans st2))
      · rw [if_pos rfl]; exact hQ _ (st1.trans st2)
    · cases hv
      rw [if_pos rfl]
      exact hQ _ st1
  case not a ea p ha =>
    obtain ⟨t, hx, hv⟩ := onB_ok hv
    cases hv
    exact wpAny_isTrue_Not (tv1 I ha hx fun s1 st1 => hQ _ st1)
  case ife a b d ea eb ed p ha hb hd =>
    obtain ⟨t, hx, hv⟩ := onB_ok hv
    refine isTrue_IfExp (tv1 I ha hx fun s1 st1 => ?_)
    cases t
    · rw [if_neg Bool.false_ne_true]
      exact tv1 (I.step hC st1) hd hv (hQ.step st1)
    · rw [if_pos rfl]
      exact tv1 (I.step hC st1) hb hv (hQ.step st1)
  all_goals exact wpAny_isTrue_value val
end
end Mine

set_option linter.unusedVariables false
namespace Mine
open PySem PySem.Calls PyProof.Rows

/-! the cells of a comprehension's outer names -/
noncomputable def clo (env : Env) : List (Str × NameKind) → List (Str × Addr) → List (Str × Addr)
  | [], acc => acc
  | (n, k) :: r, acc => if (k == NameKind.free) = true then (match env.cells.lookup n with | some a => clo env r ((n, a) :: acc) | none => clo env r acc) else clo env r acc
theorem clo_pure {scope : Scope} {env : Env} (h : ∀ y ∈ scope.names, y.2 = .free → (env.cells.lookup y.1).isSome = true) : closureFor scope env = pure (clo env scope.names []) := by
  simp only [closureFor, bind_pure]
  generalize scope.names = l at h ⊢
  generalize ([] : List (Str × Addr)) = acc
  induction l generalizing acc with
  | nil => rfl
  | cons x l ih =>
    obtain ⟨n, k⟩ := x
    rw [List.forIn_cons]
    have ih' := fun acc => ih (fun y hy => h y (List.mem_cons_of_mem _ hy)) acc
    by_cases hk : (k == NameKind.free) = true
    · obtain ⟨a, ha⟩ := Option.isSome_iff_exists.mp (h (n, k) List.mem_cons_self (by simpa using hk))
      have hc : cellOf env n = pure a := by unfold cellOf; rw [ha]
      simp only [hk, if_true, hc, pure_bind, clo, ha]
      exact ih' _
    · simp only [hk, if_false, pure_bind, clo, Bool.false_eq_true]
      exact ih' _
theorem clo_mem {env : Env} : ∀ (l : List (Str × NameKind)) (acc : List (Str × Addr)), (∀ p ∈ acc, env.cells.lookup p.1 = some p.2) → ∀ p ∈ clo env l acc, env.cells.lookup p.1 = some p.2
  | [], acc, h => h
  | (n, k) :: r, acc, h => by
    unfold clo
    split
    · split
      · rename_i a ha
        refine clo_mem r _ fun p hp => ?_
        rcases List.mem_cons.mp hp with rfl | hp
        · exact ha
        · exact h p hp
      · exact clo_mem r _ h
    · exact clo_mem r _ h
theorem clo_acc {env : Env} : ∀ (l : List (Str × NameKind)) (acc : List (Str × Addr)), ∀ p ∈ acc, p ∈ clo env l acc
  | [], acc, p, h => h
  | (n, k) :: r, acc, p, h => by
    unfold clo
    split
    · split
      · exact clo_acc r _ p (List.mem_cons_of_mem _ h)
      · exact clo_acc r _ p h
    · exact clo_acc r _ p h
theorem clo_has {env : Env} : ∀ (l : List (Str × NameKind)) (acc : List (Str × Addr)) (n : Str) (a : Addr), (n, NameKind.free) ∈ l → env.cells.lookup n = some a → (n, a) ∈ clo env l acc
  | [], acc, n, a, h, _ => nomatch h
  | (n', k) :: r, acc, n, a, h, ha => by
    unfold clo
    rcases List.mem_cons.mp h with h | h
    · cases h
      simp only [ha]
      exact clo_acc r _ _ List.mem_cons_self
    · split
      · split
        · exact clo_has r _ n a h ha
        · exact clo_has r _ n a h ha
      · exact clo_has r _ n a h ha
theorem lookup_of_all {β : Type} {f : Str → Option β} : ∀ {l : List (Str × β)} {n : Str} {a : β}, (∀ p ∈ l, f p.1 = some p.2) → (n, a) ∈ l → l.lookup n = some a
  | [], n, a, _, h => nomatch h
  | (m, b) :: r, n, a, hf, h => by
    by_cases e : (n == m) = true
    · have e' : n = m := by simpa using e
      subst e'
      have h1 := hf (n, b) List.mem_cons_self
      have h2 := hf (n, a) h
      rw [h1] at h2
      simp only [Option.some.injEq] at h2
      simp [List.lookup_cons, h2]
    · have e' : (n == m) = false := by simpa using e
      simp only [List.lookup_cons, e']
      refine lookup_of_all (fun p hp => hf p (List.mem_cons_of_mem _ hp)) ?_
      rcases List.mem_cons.mp h with h | h
      · cases h; simp at e
      · exact h
theorem clo_lookup {env : Env} {l : List (Str × NameKind)} {n : Str} {a : Addr} (h : (n, NameKind.free) ∈ l) (ha : env.cells.lookup n = some a) : (clo env l []).lookup n = some a :=
  lookup_of_all (f := fun n => env.cells.lookup n) (clo_mem l [] fun p hp => nomatch hp) (clo_has l [] n a h ha)

theorem lookup_mem {β : Type} : ∀ {l : List (Str × β)} {n : Str} {b : β}, l.lookup n = some b → (n, b) ∈ l
  | [], n, b, h => by simp at h
  | (m, c) :: r, n, b, h => by
    simp only [List.lookup_cons] at h
    split at h
    · rename_i e
      cases h
      have : n = m := by simpa using e
      subst this
      exact List.mem_cons_self
    · exact List.mem_cons_of_mem _ (lookup_mem h)

theorem relabel_lookup {env : Env} : ∀ {names : List (Str × NameKind)} {x : Str}, (names.map fun (n, k) => if (k == NameKind.free && env.scope.kind == .function && env.kindOf n == some .cell) then (n, NameKind.cell) else (n, k)).lookup x =
    (names.lookup x).map fun k => if (k == NameKind.free && env.scope.kind == .function && env.kindOf x == some .cell) then NameKind.cell else k
  | [], x => rfl
  | (n, k) :: r, x => by
    show List.lookup x ((if (k == NameKind.free && env.scope.kind == .function && env.kindOf n == some .cell) = true then (n, NameKind.cell) else (n, k)) :: _) = _
    have ih := @relabel_lookup env r x
    cases hx : x == n with
    | true =>
      have : x = n := by simpa using hx
      subst this
      by_cases hc : (k == NameKind.free && env.scope.kind == .function && env.kindOf x == some .cell) = true
      · rw [if_pos hc]; simp only [List.lookup_cons, hx, Option.map_some, if_pos hc]
      · rw [if_neg hc]; simp only [List.lookup_cons, hx, Option.map_some, if_neg hc]
    | false =>
      by_cases hc : (k == NameKind.free && env.scope.kind == .function && env.kindOf n == some .cell) = true
      · rw [if_pos hc]; simp only [List.lookup_cons, hx]; exact ih
      · rw [if_neg hc]; simp only [List.lookup_cons, hx]; exact ih

section
variable {env : Env} {nk : NK} {scope : Scope} {C : Addr}
theorem comp_kind {x : Str} : (compEnvC scope (clo env scope.names []) C env).kindOf x = (scope.names.lookup x).map fun k => if (k == NameKind.free && env.scope.kind == .function && env.kindOf x == some .cell) then NameKind.cell else k := relabel_lookup
theorem comp_env (hn : EnvC env nk) (hkind : scope.kind = .function) (hcell : ∀ y ∈ scope.names, y.2 ≠ .cell) (hfree : ∀ y ∈ scope.names, y.2 = .free → nk.lookup y.1 = some .cell) :
    EnvC (compEnvC scope (clo env scope.names []) C env) scope.names where
  fn := hkind
  gl := hn.gl
  bi := hn.bi
  loc := fun x h => by rw [comp_kind, h]; rfl
  cel := fun x h => absurd rfl (hcell _ (lookup_mem h))
  fre := fun x h => by
    have := hn.cel _ (hfree _ (lookup_mem h) rfl)
    rw [comp_kind, h]
    simp [hn.fn, this]
  glo := fun x h => by rw [comp_kind, h]; rfl
  cll := fun x h => by
    rw [comp_kind] at h
    cases hl : scope.names.lookup x with
    | none => rw [hl] at h; cases h
    | some k =>
      have hm := lookup_mem hl
      rw [hl] at h
      simp only [Option.map_some, Option.some.injEq] at h
      split at h
      · rename_i hc
        simp only [Bool.and_eq_true, beq_iff_eq] at hc
        obtain ⟨a, ha⟩ := Option.isSome_iff_exists.mp (hn.cll x hc.2)
        rw [hc.1.1] at hm
        show (List.lookup x (clo env scope.names [])).isSome = true
        rw [clo_lookup hm ha]; rfl
      · exact absurd h (hcell _ hm)
/-- an outer name is told in the comprehension as outside -/
theorem comp_has (hn : EnvC env nk) (hkind : scope.kind = .function) (hfree : ∀ y ∈ scope.names, y.2 = .free → nk.lookup y.1 = some .cell) {h : Heap} {x : Str} {v : Value}
    (hf : scope.names.lookup x = some .free) (H : Has env h x v) : Has (compEnvC scope (clo env scope.names []) C env) h x v := by
  have hc := hn.cel _ (hfree _ (lookup_mem hf) rfl)
  rcases H with ⟨hl, _⟩ | ⟨_, c, hl, hv⟩
  · rw [hc] at hl; cases hl
  · refine .inr ⟨by rw [comp_kind, hf]; simp [hn.fn, hc], c, clo_lookup (lookup_mem hf) hl, hv⟩
end
end Mine

set_option linter.unusedVariables false
namespace Mine
open PySem PySem.Calls PyProof.Rows

theorem walks_P {prog : Program} {w : World} {A : Around} {I : Addr} {fp wr : List Addr} {n : Nat} {P P' : Nat → Value → Prop} {St : Nat → Heap → Prop} (W : Walks prog w A I fp wr n P St) (h : ∀ i v, P i v → P' i v) : Walks prog w A I fp wr n P' St where
  sub := W.sub
  frame := W.frame
  item := fun i s Q E hi st hQ => W.item i s Q E hi st fun v h' tk hp => hQ v h' tk (h i v hp)
  done := W.done
  self := W.self

structure ItOk (prog : Program) (w : World) (A : Around) (ρ : Nat → Int) (X : List Addr) (s₀ s₂ : Shared) (items : List AV) (I : Addr) (fp : List Addr) (St : Nat → Heap → Prop) : Prop where
  step : Step s₀ s₂
  fresh : s₀.heap.get? I = none
  dom : ∃ o, s₂.heap.get? I = some o
  w : Walks prog w A I fp [I] items.length (fun i v => ∃ d, items[i]? = some d ∧ RepV ρ (view (I :: X) s₂.heap) v d) St
  st : St 0 s₂.heap
  live : ∀ i h, St i h → ∃ o, h.get? I = some o
  ex : ∀ b ∈ fp, ∃ o, s₂.heap.get? b = some o
  off : ∀ b ∈ fp, b = I ∨ b ∉ X
  fp : ∀ b ∈ fp, b < s₂.heap.objs.size
  go : (∀ i h, St i h → ∃ l j, h.IsListIter I l j) ∨ (∀ d ∈ items, ∃ z, d = .int z)

theorem rangeL_length : ∀ (n : Nat) (a : Int), (rangeL a n).length = n
  | 0, _ => rfl
  | n + 1, a => by simp [rangeL, rangeL_length n]
theorem rangeL_get : ∀ (n : Nat) (a : Int) (i : Nat), i < n → (rangeL a n)[i]? = some (.int (a + i))
  | 0, _, _, h => by omega
  | n + 1, a, 0, _ => by simp [rangeL]
  | n + 1, a, i + 1, h => by
    simp only [rangeL, List.getElem?_cons_succ]
    rw [rangeL_get n (a + 1) i (by omega)]
    congr 2
    push_cast; omega
theorem rangeL_int : ∀ (n : Nat) (a : Int), ∀ d ∈ rangeL a n, ∃ z, d = .int z
  | 0, _, _, h => nomatch h
  | n + 1, a, d, h => by
    rcases List.mem_cons.mp h with rfl | h
    · exact ⟨_, rfl⟩
    · exact rangeL_int n _ d h
theorem isList_iter_push {h : Heap} {l : Addr} : (h.push { cls := .type "list_iterator", data := .fields #[.ref l, .int 0 0] }).IsListIter h.objs.size l 0 := ⟨_, Heap.get?_push_size _ rfl, rfl, rfl⟩

section
variable {prog : Program} {w : World} {ρ : Nat → Int} {FA : Nat → Addr} {Chk : Heap → Prop} {mg mb : Str → Option Value}
variable {A : Around} {E : Value → Shared → Prop} {s : Shared} {env : Env} {nk : NK} {ns os ts : List Str} {X : List Addr} {c : Ctx} {r : Rec} {n : Nat}

theorem range_iter (hh : A.handled = none) {rg : Addr} {a b : Int} {t u v : Tok} {s₀ : Shared} {Q : Value → Shared → Prop} (st0 : Step s₀ s) (hr : IsRange s.heap rg a b 1 t u v) (ha : -1000 ≤ a) (ha' : a ≤ 1000) (hb : b ≤ 1000) (hb' : -(2 ^ 62) ≤ b)
    (hQ : ∀ s₂ I fp St, ItOk prog w A ρ X s₀ s₂ (rangeL a (b - a).toNat) I fp St → Q (.ref I) s₂) : wpAny (model prog w) A (pyIter (.ref rg)) Q E s := by
  refine wpAny_pyIter_range hr (small_one (by omega) (by omega) hb' (by omega)) ?_
  have hn : s₀.heap.get? s.heap.objs.size = none := by
    cases e : s₀.heap.get? s.heap.objs.size with
    | none => rfl
    | some o => exact absurd (Heap.lt_size (st0.heap _ _ e)) (Nat.lt_irrefl _)
  refine hQ _ _ [s.heap.objs.size] (fun i h => IsRangeIter h s.heap.objs.size (a + (i : Nat) * 1) (((b - a).toNat : Int) - (i : Nat)) 1)
    ⟨st0.trans (Step.of (tk := s.toks) (Ext.push _ _)), hn, ⟨_, Heap.get?_push_size _ rfl⟩, ?_, ?_, fun i h hst => ⟨_, hst⟩, fun b hb => by rw [List.mem_singleton] at hb; rw [hb]; exact ⟨_, Heap.get?_push_size _ rfl⟩, fun b hb => .inl (by simpa using hb), ?_, .inr (rangeL_int _ _)⟩
  · rw [rangeL_length]
    refine ⟨fun _ hb => hb, (Walks.range (prog := prog) (w := w) hh _ a 1 _).frame, fun i s Q E hi st hQ => (Walks.range (prog := prog) (w := w) hh _ a 1 _).item i s Q E hi st fun v h' tk hp => hQ v h' tk ?_, (Walks.range (prog := prog) (w := w) hh _ a 1 _).done, (Walks.range (prog := prog) (w := w) hh _ a 1 _).self⟩
    obtain ⟨t, rfl⟩ := hp
    exact ⟨_, rangeL_get _ _ _ hi, by rw [Int.mul_one]; exact .int _ _⟩
  · show IsRangeIter _ _ _ _ _
    rw [IsRangeIter, Heap.get?_push_size _ rfl, rangeSize_nat]
    simp
  · intro b hb
    simp only [List.mem_singleton] at hb
    subst hb
    rw [Heap.size_push]
    exact Nat.lt_succ_self _

variable (hC : ExtP Chk) (hE : ESnd prog w ρ FA Chk mg mb r n)
include hC hE
theorem evI_ok {it : MI} {ite : PySem.Expr} {items : List AV} {Q : Value → Shared → Prop} (hA : AOk n A) (hn : EnvC env nk) (I : SI prog w ρ FA Chk mg mb env nk ns os ts X c s) (his : IsI nk ns os ts it ite) (hv : evI r c it = some items)
    (hQ : ∀ s₂ I fp St, ItOk prog w A ρ X s s₂ items I fp St → Q (.ref I) s₂) : wpAny (model prog w) A (eval ite env) (fun xv s₁ => wpAny (model prog w) A (pyIter xv) Q E s₁) E s := by
  cases his with
  | ex h hf =>
    obtain ⟨a, hl, hv⟩ := bd hv
    obtain rfl := AV.l?_ok hv
    · refine hE _ _ _ _ _ _ _ _ _ _ _ _ _ _ hA hn I h hl fun s1 v1 st1 r1 => ?_
      cases r1 with
      | list ho hc hd rs =>
        rename_i a o vals nn
        have hL : s1.heap.IsList a vals := ⟨_, view_get ho, hc.1, _, hd⟩
        refine wpAny_pyIter_list hL ?_
        have hlt : a < s1.heap.objs.size := Heap.lt_size (view_get ho)
        have hfr : s1.heap.get? s1.heap.objs.size = none := none_of_size (Nat.le_refl _)
        have hn : s.heap.get? s1.heap.objs.size = none := by
          cases e : s.heap.get? s1.heap.objs.size with
          | none => rfl
          | some o => exact absurd (Heap.lt_size (st1.heap _ _ e)) (Nat.lt_irrefl _)
        have hlen := rs.length
        refine hQ _ _ [s1.heap.objs.size, a] (fun i h => h.IsListIter s1.heap.objs.size a i ∧ h.IsList a vals) ⟨st1.trans (Step.of (tk := s1.toks) (Ext.push _ _)), hn, ⟨_, Heap.get?_push_size _ rfl⟩, ?_, ⟨isList_iter_push, hL.push _⟩, fun i h hst => let ⟨o, ho, _⟩ := hst.1; ⟨o, ho⟩, ?_, ?_, ?_, .inl fun i h hst => ⟨_, _, hst.1⟩⟩
        · rw [show items.length = vals.size by rw [← hlen]; simp]
          refine walks_P (Walks.list hA.hh _ a (Nat.ne_of_lt hlt) vals) fun i v hv => ?_
          obtain ⟨d, hd, hr⟩ := rs.getL (v := v) (i := i) (by simpa using hv)
          exact ⟨d, hd, hr.mono (view_new (Ext.push _ _) fun b hb => by
            rcases List.mem_cons.mp hb with rfl | hb
            · exact .inr hfr
            · exact .inl hb)⟩
        · intro b hb
          rcases List.mem_cons.mp hb with rfl | hb
          · exact ⟨_, Heap.get?_push_size _ rfl⟩
          · rw [List.mem_singleton] at hb; subst hb; exact ⟨_, Heap.get?_push_of_some _ (view_get ho)⟩
        · intro b hb
          rcases List.mem_cons.mp hb with rfl | hb
          · exact .inl rfl
          · rw [List.mem_singleton] at hb; subst hb; exact .inr (view_some.mp ho).1
        · intro b hb
          rw [Heap.size_push]
          rcases List.mem_cons.mp hb with rfl | hb
          · exact Nat.lt_succ_self _
          · rw [List.mem_singleton] at hb; subst hb; exact Nat.lt_succ_of_lt hlt
  | range1 p1 p hk ha =>
    obtain ⟨z, hz, hv⟩ := onI_ok hv
    obtain ⟨hs, hv⟩ := when_ok hv
    cases hv
    refine Call_ (builtin_name hn I.stat hk I.stat.range (by decide) ?_)
    refine callWith_type1 (args_cons (hE _ _ _ _ _ _ _ _ _ _ _ _ _ _ hA hn I ha hz fun s1 v1 st1 r1 => args_nil ?_) (ha.star _ _)) (ha.star _ _)
    cases r1 with | int _ t =>
      refine call_range_1 ?_
      have h1 := smallZ_iff hs
      exact range_iter hA.hh (st1.trans (Step.of (Ext.push _ _))) (IsRange.new _ _ _ _ _ _ _) (by omega) (by omega) h1.2 (by omega) hQ
  | range2 p1 p hk ha hb =>
    obtain ⟨x, z, hx, hz, hv⟩ := bini_ok hv
    obtain ⟨hs, hv⟩ := when_ok hv
    cases hv
    have hs := (Bool.and_eq_true _ _).mp hs
    have h1 := smallZ_iff hs.1
    have h2 := smallZ_iff hs.2
    refine Call_ (builtin_name hn I.stat hk I.stat.range (by decide) ?_)
    refine callWith_type1 (args_cons (hE _ _ _ _ _ _ _ _ _ _ _ _ _ _ hA hn I ha hx fun s1 v1 st1 r1 => args_cons (hE _ _ _ _ _ _ _ _ _ _ _ _ _ _ hA hn (I.step hC st1) hb hz fun s2 v2 st2 r2 => args_nil ?_) (hb.star _ _)) (ha.star _ _)) (ha.star _ _) (plain1 hb _ _)
    cases r1 with | int _ t => cases r2 with | int _ u =>
      refine call_range_2 ?_
      exact range_iter hA.hh (st1.trans (st2.trans (Step.of (Ext.push _ _)))) (IsRange.new _ _ _ _ _ _ _) h1.1 h1.2 h2.2 (by omega) hQ
end
end Mine

set_option linter.unusedVariables false
namespace Mine
open PySem PySem.Calls PyProof.Rows

section
variable {prog : Program} {w : World} {A : Around} {E : Value → Shared → Prop} {R : Result → Shared → Prop} {s : Shared}
abbrev tests (ifs : List PySem.Expr) (env : Env) : Sem Bool := forIn ifs true fun c r => if r = true then do let ok ← isTrue c env (eval c env); pure (ForInStep.yield ok) else pure (ForInStep.yield r)
theorem compLoop_any {elt target iter : PySem.Expr} {ifs : List PySem.Expr} {scope : Scope} {pos : Pos} {it acc : Value} {env : Env} (I : Nat → Shared → Prop)
    (turn : ∀ n s, I n s → wpAny (model prog w) A (pyNext it) (fun r s₁ => match r with
      | none => R (.ok .next) s₁
      | some v => wpAny (model prog w) A (letOwnedTupleGo target it v) (fun _ s₁' => wpAny (model prog w) A (assign target env v) (fun _ s₂ =>
          wpAny (model prog w) A (tests ifs env) (fun ok s₃ =>
            if ok = true then wpAny (model prog w) A (eval elt env) (fun x s₄ =>
              wpAny (model prog w) A (call (.builtin "list.append") [acc, x]) (fun _ s₅ => ∃ m, m < n ∧ I m s₅) (notedBy (model prog w) A env fun e s' => R (.error e) s') s₄) (notedBy (model prog w) A env fun e s' => R (.error e) s') s₃
            else ∃ m, m < n ∧ I m s₃) (notedBy (model prog w) A env fun e s' => R (.error e) s') s₂) (notedBy (model prog w) A env fun e s' => R (.error e) s') s₁')
          (notedBy (model prog w) A env fun e s' => R (.error e) s') s₁) (notedBy (model prog w) A env fun e s' => R (.error e) s') s)
    (n : Nat) (h : I n s) :
    codeAny (model prog w) A (.compLoop (.ListComp elt [⟨target, iter, ifs, 0⟩] scope pos) 0 it acc env) R s := by
  refine codeAny_loop rfl I (fun n s hI => ?_) n h
  show wpAny _ A ((compTurn (.ListComp elt [⟨target, iter, ifs, 0⟩] scope pos) 0 it acc env).onRaise (fun x => do noteFrame x env; theTreesLotGoes x)) _ _ s
  refine wpAny_noted ?_
  rw [compTurn_list]
  refine wpAny_bind (wpAny_standAt (wpAny_bind (wpAny_mono (turn n s hI) (fun r s₁ h₁ => ?_) fun _ _ h' => h')))
  cases r with
  | none => exact wpAny_pure h₁
  | some v =>
    refine wpAny_bind (wpAny_mono h₁ (fun _ s₁' h₁' => ?_) fun _ _ h' => h')
    refine wpAny_bind (wpAny_mono h₁' (fun _ s₂ h₂ => wpAny_bind (wpAny_mono h₂ (fun ok s₃ h₃ => ?_) fun _ _ h' => h')) fun _ _ h' => h')
    cases ok with
    | false => exact wpAny_pure ⟨rfl, h₃⟩
    | true =>
      exact wpAny_bind (wpAny_bind (wpAny_mono h₃ (fun x s₄ h₄ => wpAny_bind (wpAny_mono h₄ (fun _ s₅ h₅ => wpAny_pure (wpAny_pure ⟨rfl, h₅⟩)) fun _ _ h' => h')) fun _ _ h' => h'))
end

theorem IsI.fold {nk ns os ts it ite} (h : IsI nk ns os ts it ite) (env : Env) (x : Value) : foldedSetIterable ite env x = pure x := by
  cases h with
  | ex _ hf => exact hf env x
  | range1 => rfl
  | range2 => rfl

theorem repv_tup {ρ : Nat → Int} {G : Vw} {v : Value} {l : List AV} (r : RepV ρ G v (.tup l)) : ∃ t o vals n, v = .ref t ∧ G t = some o ∧ o.cls = .type "tuple" ∧ o.data = .seq vals n ∧ RepVs ρ G vals.toList l := by
  cases r with
  | tup h c d rs => exact ⟨_, _, _, _, rfl, h, c, d, rs⟩

theorem bindT_tup {k : Nat} {d : AV} {own : List (Option AV)} (h : bindT (some k) d = some own) : ∃ l, d = .tup l ∧ l.length = k ∧ own = l.map some := by
  unfold bindT at h
  split at h
  · rename_i e; cases e
  · rename_i l e
    cases e
    split at h
    · rename_i hl
      cases h
      exact ⟨_, rfl, Nat.eq_of_beq_eq_true hl, rfl⟩
    · cases h
  · cases h

section
variable {prog : Program} {w : World} {A : Around} {E : Value → Shared → Prop} {s : Shared} {ρ : Nat → Int}
theorem comp_assign {nk : NK} {tg : Option Nat} {tns : List Str} {tgte : PySem.Expr} {d : AV} {own : List (Option AV)} {v : Value} {It : Addr} {Y : List Addr} {m : Str → Option Value} {cenv : Env} {Q : Unit → Shared → Prop}
    (hh : A.handled = none) (hT : IsT nk tg tns tgte) (hb : bindT tg d = some own) (hr : RepV ρ (view Y s.heap) v d) (hloc : ∀ x, nk.lookup x = some .local → cenv.kindOf x = some .local) (hfn : cenv.scope.kind = .function)
    (hn : s.heap.Ns cenv.locals m) (hgo : (∃ l j, s.heap.IsListIter It l j) ∨ ∃ z, d = .int z)
    (hQ : ∀ h' m' tk, But [cenv.locals] s.heap h' → h'.Ns cenv.locals m' → (∀ i x v, tns[i]? = some x → getV own i = some v → ∃ val, m' x = some val ∧ RepV ρ (view Y s.heap) val v) → Q () { s with heap := h', toks := tk }) :
    wpAny (model prog w) A (letOwnedTupleGo tgte (.ref It) v) (fun _ s₁ => wpAny (model prog w) A (assign tgte cenv v) Q E s₁) E s := by
  have hp : (cenv.scope.kind == .class || (cenv.scope.kind == .module && cenv.locals != cenv.globals)) = false := by rw [hfn]; rfl
  cases hT with
  | one p hx =>
    cases hb
    show wpAny _ A (pure ()) _ _ s
    refine wpAny_pure (wpAny_assign_Name (wpAny_storeName_local (hloc _ hx) hn (fun h' hn' hs' => ?_) hp))
    refine hQ h' _ _ (.of_same hs' (by simp)) hn' fun i y u hi hu => ?_
    cases i with
    | zero =>
      simp only [List.getElem?_cons_zero, Option.some.injEq] at hi
      subst hi
      simp only [getV, Option.some.injEq] at hu
      subst hu
      exact ⟨v, by simp, hr⟩
    | succ i => simp at hi
  | two p1 p2 p k hx hy hxy =>
    obtain ⟨l, rfl, hlen, rfl⟩ := bindT_tup hb
    obtain ⟨lx, j, hl⟩ : ∃ l j, s.heap.IsListIter It l j := hgo.elim id fun ⟨z, e⟩ => nomatch e
    obtain ⟨t, o, vals, n, rfl, ho, hc, hd, rs⟩ := repv_tup hr
    match l, hlen with
    | [a, b], _ =>
      obtain ⟨vl⟩ := vals
      cases rs with
      | cons ra rs => cases rs with
        | cons rb rs => cases rs with
          | nil =>
            rename_i va vb
            refine wpAny_letOwnedTupleGo_listiter hl (assign_Tuple_tuple hh ⟨o, view_get ho, hc, n, hd⟩ rfl rfl fun h5 he5 => ?_)
            have he5' : Ext s.heap h5 := fun b o e => he5 b o (Nat.ne_of_lt (Heap.lt_size e)) e
            refine assignInOrder_cons (wpAny_assign_Name (wpAny_storeName_local (hloc _ hx) (hn.keeps he5') (fun h6 hn6 hs6 => ?_) hp))
            refine assignInOrder_cons (wpAny_assign_Name (wpAny_storeName_local (hloc _ hy) hn6 (fun h7 hn7 hs7 => ?_) hp))
            refine assignInOrder_nil ?_
            refine hQ h7 _ _ ((he5'.but _).trans ((But.of_same hs6 (by simp)).trans (.of_same hs7 (by simp)))) hn7 fun i y u hi hu => ?_
            match i with
            | 0 =>
              simp only [List.getElem?_cons_zero, Option.some.injEq] at hi
              subst hi
              simp only [List.map_cons, getV, Option.some.injEq] at hu
              subst hu
              exact ⟨va, by simp [hxy], ra⟩
            | 1 =>
              simp only [List.getElem?_cons_succ, List.getElem?_cons_zero, Option.some.injEq] at hi
              subst hi
              simp only [List.map_cons, getV, Option.some.injEq] at hu
              subst hu
              exact ⟨vb, by simp, rb⟩
            | i + 2 => simp at hi
  | three p1 p2 p3 p k hx hy hz hxy hxz hyz =>
    obtain ⟨l, rfl, hlen, rfl⟩ := bindT_tup hb
    obtain ⟨lx, j, hl⟩ : ∃ l j, s.heap.IsListIter It l j := hgo.elim id fun ⟨z, e⟩ => nomatch e
    obtain ⟨t, o, vals, n, rfl, ho, hc, hd, rs⟩ := repv_tup hr
    match l, hlen with
    | [a, b, c], _ =>
      obtain ⟨vl⟩ := vals
      cases rs with
      | cons ra rs => cases rs with
        | cons rb rs => cases rs with
          | cons rc rs => cases rs with
            | nil =>
              rename_i va vb vc
              refine wpAny_letOwnedTupleGo_listiter hl (assign_Tuple_tuple hh ⟨o, view_get ho, hc, n, hd⟩ rfl rfl fun h5 he5 => ?_)
              have he5' : Ext s.heap h5 := fun b o e => he5 b o (Nat.ne_of_lt (Heap.lt_size e)) e
              refine assignInOrder_cons (wpAny_assign_Name (wpAny_storeName_local (hloc _ hx) (hn.keeps he5') (fun h6 hn6 hs6 => ?_) hp))
              refine assignInOrder_cons (wpAny_assign_Name (wpAny_storeName_local (hloc _ hy) hn6 (fun h7 hn7 hs7 => ?_) hp))
              refine assignInOrder_cons (wpAny_assign_Name (wpAny_storeName_local (hloc _ hz) hn7 (fun h8 hn8 hs8 => ?_) hp))
              refine assignInOrder_nil ?_
              refine hQ h8 _ _ ((he5'.but _).trans ((But.of_same hs6 (by simp)).trans ((But.of_same hs7 (by simp)).trans (.of_same hs8 (by simp))))) hn8 fun i y u hi hu => ?_
              match i with
              | 0 =>
                simp only [List.getElem?_cons_zero, Option.some.injEq] at hi
                subst hi
                simp only [List.map_cons, getV, Option.some.injEq] at hu
                subst hu
                exact ⟨va, by simp [hxy, hxz], ra⟩
              | 1 =>
                simp only [List.getElem?_cons_succ, List.getElem?_cons_zero, Option.some.injEq] at hi
                subst hi
                simp only [List.map_cons, getV, Option.some.injEq] at hu
                subst hu
                exact ⟨vb, by simp [hyz], rb⟩
              | 2 =>
                simp only [List.getElem?_cons_succ, List.getElem?_cons_zero, Option.some.injEq] at hi
                subst hi
                simp only [List.map_cons, getV, Option.some.injEq] at hu
                subst hu
                exact ⟨vc, by simp, rc⟩
              | i + 3 => simp at hi
end
end Mine

set_option linter.unusedVariables false
namespace Mine
open PySem PySem.Calls PyProof.Rows

theorem IsT.loc {nk tg tns tgte} (h : IsT nk tg tns tgte) {i : Nat} {x : Str} (hi : tns[i]? = some x) : nk.lookup x = some .local := by
  cases h with
  | one p h1 =>
    match i with
    | 0 => simp only [List.getElem?_cons_zero, Option.some.injEq] at hi; subst hi; exact h1
    | i + 1 => simp at hi
  | two p1 p2 p k h1 h2 _ =>
    match i with
    | 0 => simp only [List.getElem?_cons_zero, Option.some.injEq] at hi; subst hi; exact h1
    | 1 => simp only [List.getElem?_cons_succ, List.getElem?_cons_zero, Option.some.injEq] at hi; subst hi; exact h2
    | i + 2 => simp at hi
  | three p1 p2 p3 p k h1 h2 h3 _ _ _ =>
    match i with
    | 0 => simp only [List.getElem?_cons_zero, Option.some.injEq] at hi; subst hi; exact h1
    | 1 => simp only [List.getElem?_cons_succ, List.getElem?_cons_zero, Option.some.injEq] at hi; subst hi; exact h2
    | 2 => simp only [List.getElem?_cons_succ, List.getElem?_cons_zero, Option.some.injEq] at hi; subst hi; exact h3
    | i + 3 => simp at hi

theorem none_before {h h' : Heap} (x : Ext h h') {a : Addr} (e : h'.get? a = none) : h.get? a = none := by
  cases e' : h.get? a with
  | none => rfl
  | some o => rw [x a o e'] at e; cases e

section
variable {prog : Program} {w : World} {ρ : Nat → Int} {FA : Nat → Addr} {Chk : Heap → Prop} {mg mb : Str → Option Value}
variable {A : Around} {E : Value → Shared → Prop} {s : Shared} {env : Env} {nk : NK} {ns : List Str} {X : List Addr} {c : Ctx} {r : Rec} {n : Nat}
theorem inner_SI (hC : ExtP Chk) (hn : EnvC env nk) (I : SI prog w ρ FA Chk mg mb env nk ns [] ns X c s) {scope : Scope} {C : Addr} {Y : List Addr} {s' : Shared} {m' : Str → Option Value} {tns : List Str} {own : List (Option AV)} {tg : Option Nat} {tgte : PySem.Expr}
    (hkind : scope.kind = .function) (hcell : ∀ y ∈ scope.names, y.2 ≠ .cell) (hfree : ∀ y ∈ scope.names, y.2 = .free → nk.lookup y.1 = some .cell)
    (x : Ext s.heap s'.heap) (hle : Le (view X s.heap) (view Y s'.heap)) (D : Dom Y s'.heap) (hNs : s'.heap.Ns C m') (hT : IsT scope.names tg tns tgte)
    (hown : ∀ i x v, tns[i]? = some x → getV own i = some v → ∃ val, m' x = some val ∧ RepV ρ (view Y s'.heap) val v) :
    SI prog w ρ FA Chk mg mb (compEnvC scope (clo env scope.names []) C env) scope.names tns ns ns Y ⟨own, c.own, c.mu⟩ s' where
  stat := I.stat.mono hC x
  dom := D
  ei := {
    own := fun i y v hi hv => by
      obtain ⟨val, h1, h2⟩ := hown i y v hi hv
      exact ⟨val, .inl ⟨(comp_env (C := C) hn hkind hcell hfree).loc _ (hT.loc hi), m', hNs, h1⟩, h2⟩
    out := fun i y v hi hf hv => by
      obtain ⟨val, h1, h2⟩ := I.ei.own i y v hi hv
      exact ⟨val, comp_has hn hkind hfree hf (h1.mono x), h2.mono hle⟩
    tab := fun j es hj => by
      obtain ⟨a, T, h1⟩ := I.ei.tab j es hj
      refine ⟨a, T.mono (x a) hle, fun y hy hk => ?_⟩
      rcases hk with hk | hk
      · exact absurd rfl (hcell _ (lookup_mem hk))
      · exact comp_has hn hkind hfree hk ((h1 y hy (.inl (hfree _ (lookup_mem hk) rfl))).mono x) }

theorem compL_cons {elt : ME} {tg : Option Nat} {cond : Option ME} {v : AV} {vs xs : List AV} (h : compL r c elt tg cond (v :: vs) = some xs) :
    ∃ own, bindT tg v = some own ∧ ((condV r ⟨own, c.own, c.mu⟩ cond = some (.bool true) ∧ ∃ x xs', r.ev ⟨own, c.own, c.mu⟩ elt = some x ∧ compL r c elt tg cond vs = some xs' ∧ xs = x :: xs') ∨
      (condV r ⟨own, c.own, c.mu⟩ cond = some (.bool false) ∧ compL r c elt tg cond vs = some xs)) := by
  simp only [compL] at h
  split at h
  · cases h
  · rename_i own ho
    refine ⟨own, ho, ?_⟩
    split at h
    · rename_i hc
      split at h
      · rename_i x hx
        split at h
        · rename_i xs' hxs
          cases h
          exact .inl ⟨hc, x, xs', hx, hxs, rfl⟩
        · cases h
      · cases h
    · rename_i hc
      exact .inr ⟨hc, h⟩
    · cases h

theorem tests_ok (hT' : TSnd prog w ρ FA Chk mg mb r n) {tns : List Str} {cond : Option ME} {ifse : List PySem.Expr} {b : Bool} {Q : Bool → Shared → Prop} (hA : AOk n A) (hn : EnvC env nk) (I : SI prog w ρ FA Chk mg mb env nk tns ns ns X c s) (hc : IsC nk tns ns cond ifse)
    (hv : condV r c cond = some (.bool b)) (hQ : OutB s b Q) : wpAny (model prog w) A (tests ifse env) Q E s := by
  cases hc with
  | none => cases hv; exact wpAny_tests_nil (hQ s (Step.refl s))
  | some h => exact wpAny_tests_one (hT' _ _ _ _ _ _ _ _ _ _ _ _ _ _ hA hn I h hv hQ)

theorem comp_block (hC : ExtP Chk) (hE : ESnd prog w ρ FA Chk mg mb r n) (hT' : TSnd prog w ρ FA Chk mg mb r n)
    {elt : ME} {tg : Option Nat} {cond : Option ME} {tns : List Str} {elte tgte ite : PySem.Expr} {ifse : List PySem.Expr} {scope : Scope} {pos : Pos} {items xs : List AV} {s₂ : Shared} {It : Addr} {fp : List Addr} {St : Nat → Heap → Prop}
    (hA : AOk n A) (hn : EnvC env nk) (I : SI prog w ρ FA Chk mg mb env nk ns [] ns X c s) (hT : IsT scope.names tg tns tgte) (hElt : IsE scope.names tns ns ns elt elte) (hCond : IsC scope.names tns ns cond ifse)
    (hkind : scope.kind = .function) (hcell : ∀ y ∈ scope.names, y.2 ≠ .cell) (hfree : ∀ y ∈ scope.names, y.2 = .free → nk.lookup y.1 = some .cell)
    (ok : ItOk prog w A ρ X s s₂ items It fp St) (hsm : small items.length = true) (hxs : compL r c elt tg cond items = some xs) {RR : Value → Addr → Result → Shared → Prop}
    (hRR : ∀ D C s' m', s.heap.get? D = none → s.heap.get? C = none → D ≠ C → Step s s' → s'.heap.Ns C m' → (∃ ys, s'.heap.PlainList D ys ∧ RepVs ρ (view (D :: C :: X) s'.heap) ys.toList xs) → RR (.ref D) C (.ok .next) s') :
    wpAny (model prog w) A (newList []) (fun acc s₃ => wpAny (model prog w) A (newFunctionEnv scope env.globals (clo env scope.names []) [] env.qual none .none (some env)) (fun cenv s₄ =>
      codeAny (model prog w) A (.compStart (.ListComp elte [⟨tgte, ite, ifse, 0⟩] scope pos) 0 (.ref It) acc { cenv with scope := relabel scope env }) (RR acc cenv.locals) s₄) E s₃) E s₂ := by
  refine wpAny_newObj_type (wpAny_newFunctionEnv hcell (by intro y hy; simp at hy) (fun h₁ hns₁ hsb₁ => ?_) hkind)
  dsimp only at hns₁ hsb₁ ⊢
  generalize hH2 : s₂.heap.push { cls := .type "list", dict := none, data := .seq ([] : List Value).toArray } = H2 at hns₁ hsb₁ ⊢
  have hCs : H2.objs.size = s₂.heap.objs.size + 1 := by rw [← hH2, Heap.size_push]
  have hDC : s₂.heap.objs.size ≠ H2.objs.size := by rw [hCs]; exact Nat.ne_of_lt (Nat.lt_succ_self _)
  have below : ∀ b, b < s₂.heap.objs.size → b ≠ H2.objs.size ∧ b ≠ s₂.heap.objs.size := fun b hb => ⟨by rw [hCs]; exact Nat.ne_of_lt (Nat.lt_succ_of_lt hb), Nat.ne_of_lt hb⟩
  have hDf : s₂.heap.objs.size ∉ fp := fun hm => Nat.lt_irrefl _ (ok.fp _ hm)
  have hCf : H2.objs.size ∉ fp := fun hm => by have := ok.fp _ hm; rw [hCs] at this; exact Nat.lt_irrefl _ (Nat.lt_of_succ_lt this)
  obtain ⟨oI, hoI⟩ := ok.dom
  have hIlt : It < s₂.heap.objs.size := Heap.lt_size hoI
  have hIC := (below _ hIlt).1
  have hID := (below _ hIlt).2
  have old : Ext s₂.heap h₁ := fun b o e => hsb₁.extBut b o (below b (Heap.lt_size e)).1 (Heap.get?_push_of_some _ (hH2 ▸ Heap.get?_push_of_some _ e))
  have hacc : h₁.PlainList s₂.heap.objs.size #[] := ⟨_, hsb₁.extBut _ _ hDC (Heap.get?_push_of_some _ (hH2 ▸ Heap.get?_push_size _ rfl))⟩
  have hst₁ : St 0 h₁ := ok.w.frame _ _ _ ok.st fun b _ o e => old b o e
  generalize hD : s₂.heap.objs.size = D at *
  generalize hCC : H2.objs.size = C at *
  have nD : s₂.heap.get? D = none := none_of_size (by rw [hD]; exact Nat.le_refl _)
  have nC : s₂.heap.get? C = none := none_of_size (by rw [hCs, hD]; exact Nat.le_succ _)
  have nD0 := none_before ok.step.heap nD
  have nC0 := none_before ok.step.heap nC
  -- the view in which the comprehension runs
  have hYs : ∀ b ∈ It :: C :: D :: X, b ∈ X ∨ s.heap.get? b = none := fun b hb => by
    rcases List.mem_cons.mp hb with rfl | hb
    · exact .inr ok.fresh
    rcases List.mem_cons.mp hb with rfl | hb
    · exact .inr nC0
    rcases List.mem_cons.mp hb with rfl | hb
    · exact .inr nD0
    · exact .inl hb
  have hYs2 : ∀ b ∈ It :: C :: D :: X, b ∈ It :: X ∨ s₂.heap.get? b = none := fun b hb => by
    rcases List.mem_cons.mp hb with rfl | hb
    · exact .inl List.mem_cons_self
    rcases List.mem_cons.mp hb with rfl | hb
    · exact .inr nC
    rcases List.mem_cons.mp hb with rfl | hb
    · exact .inr nD
    · exact .inl (List.mem_cons_of_mem _ hb)
  have loop : ∀ s₃ : Shared, s₃ = { s₂ with heap := h₁, toks := s₂.toks + ([] : List (Str × Value)).length } →
      codeAny (model prog w) A (.compLoop (.ListComp elte [⟨tgte, ite, ifse, 0⟩] scope pos) 0 (.ref It) (.ref D) (compEnvC scope (clo env scope.names []) C env)) (RR (.ref D) C) s₃ := by
    intro s₃ e₃
    have st₃ : Step s₂ s₃ := by rw [e₃]; exact Step.of old
    have e₃h : s₃.heap = h₁ := by rw [e₃]
    rw [← e₃h] at hns₁ hacc hst₁ old
    have e03 : Ext s.heap s₃.heap := ok.step.heap.trans old
    have ext : ∀ {s' : Shared}, StepB [It, C, D] s₃ s' → Ext s.heap s'.heap := fun B => But.ext e03 B.heap fun b hb => by
      rcases List.mem_cons.mp hb with rfl | hb
      · exact ok.fresh
      rcases List.mem_cons.mp hb with rfl | hb
      · exact nC0
      rcases List.mem_cons.mp hb with rfl | hb
      · exact nD0
      · cases hb
    have vw : ∀ {s' : Shared}, StepB [It, C, D] s₃ s' → Le (view X s.heap) (view (It :: C :: D :: X) s'.heap) := fun B => view_new (ext B) hYs
    have vw2 : ∀ {s' : Shared}, StepB [It, C, D] s₃ s' → Le (view (It :: X) s₂.heap) (view (It :: C :: D :: X) s'.heap) := fun B b o e => by
      obtain ⟨e1, e2⟩ := view_some.mp e
      have hbC : b ≠ C := by rintro rfl; rw [nC] at e2; cases e2
      have hbD : b ≠ D := by rintro rfl; rw [nD] at e2; cases e2
      have hbI : b ≠ It := fun q => e1 (q ▸ List.mem_cons_self)
      have hbX : b ∉ X := fun q => e1 (List.mem_cons_of_mem _ q)
      exact view_some.mpr ⟨by simp [hbC, hbD, hbI, hbX], B.heap b o (by simp [hbC, hbD, hbI]) (old b o e2)⟩
    have dm : ∀ {s' : Shared} {i : Nat} {m' : Str → Option Value} {ys : Array Value}, StepB [It, C, D] s₃ s' → St i s'.heap → s'.heap.Ns C m' → s'.heap.PlainList D ys → Dom (It :: C :: D :: X) s'.heap := fun B h1 h2 h3 b hb => by
      rcases List.mem_cons.mp hb with rfl | hb
      · exact ok.live _ _ h1
      rcases List.mem_cons.mp hb with rfl | hb
      · obtain ⟨o, _, _, ho, _⟩ := h2; exact ⟨o, ho⟩
      rcases List.mem_cons.mp hb with rfl | hb
      · obtain ⟨n, ho⟩ := h3; exact ⟨_, ho⟩
      · exact I.dom.mono (ext B) b hb
    have hsm' := small_iff hsm
    refine compLoop_any (fun k s' => ∃ i m' ys done rest, StepB [It, C, D] s₃ s' ∧ i ≤ items.length ∧ k = items.length + 1 - i ∧ St i s'.heap ∧ s'.heap.Ns C m' ∧ s'.heap.PlainList D ys ∧ ys.size ≤ i ∧
        RepVs ρ (view (It :: C :: D :: X) s'.heap) ys.toList done ∧ xs = done ++ rest ∧ compL r c elt tg cond (items.drop i) = some rest) ?_ (items.length + 1)
      ⟨0, _, _, [], xs, ⟨fun _ _ _ e => e, id, rfl, rfl⟩, Nat.zero_le _, rfl, hst₁, hns₁, hacc, Nat.zero_le _, .nil, rfl, hxs⟩
    rintro k s' ⟨i, m', ys, done, rest, B, hi, rfl, hst, hns, hpl, hys, hrep, hx, hcl⟩
    by_cases hlt : i < items.length
    · refine ok.w.item i _ _ _ hlt hst fun v h₂ tk₂ hP hst₂ hk₂ => ?_
      obtain ⟨d, hd, hr⟩ := hP
      have hdd : items[i] = d := by rw [List.getElem?_eq_getElem hlt] at hd; exact Option.some.inj hd
      rw [List.drop_eq_getElem_cons hlt, hdd] at hcl
      obtain ⟨own, hown, hcase⟩ := compL_cons hcl
      have hb2 : But [It, C, D] s'.heap h₂ := fun b o hb e => hk₂ b o (fun q => hb (by rw [List.mem_singleton] at q; simp [q])) e
      have hns2 : h₂.Ns C m' := hns.at' fun o e => hk₂ _ o (by simpa using Ne.symm hIC) e
      have hpl2 : h₂.PlainList D ys := hpl.at fun o e => hk₂ _ o (by simpa using Ne.symm hID) e
      have B2 : StepB [It, C, D] s₃ { s' with heap := h₂, toks := tk₂ } := ⟨B.heap.trans hb2, B.gens, B.drawn, B.os⟩
      have hrep2 : RepVs ρ (view (It :: C :: D :: X) h₂) ys.toList done := hrep.mono (hb2.view fun b hb => by simp at hb ⊢; rcases hb with h | h | h <;> simp [h])
      dsimp only
      refine comp_assign (Y := It :: C :: D :: X) (cenv := compEnvC scope (clo env scope.names []) C env) hA.hh hT hown (hr.mono (vw2 B2)) (comp_env hn hkind hcell hfree).loc hkind hns2 (ok.go.imp (fun h => h _ _ hst₂) fun h => h d (by rw [← hdd]; exact List.getElem_mem hlt)) fun h₃ m₃ tk₃ hb₃ hns₃ hown₃ => ?_
      replace hb₃ : But [C] h₂ h₃ := hb₃
      have hb3 : But [It, C, D] h₂ h₃ := hb₃.mono fun b hb => by simp at hb; simp [hb]
      have B3 : StepB [It, C, D] s₃ { s' with heap := h₃, toks := tk₃ } := ⟨B2.heap.trans hb3, B.gens, B.drawn, B.os⟩
      have hst3 : St (i + 1) h₃ := ok.w.frame _ _ _ hst₂ fun b hb o e => hb₃ b o (fun q => hCf (by rw [List.mem_singleton] at q; exact q ▸ hb)) e
      have hpl3 : h₃.PlainList D ys := hpl2.at fun o e => hb₃ _ o (by simpa using hDC) e
      have le3 : Le (view (It :: C :: D :: X) h₂) (view (It :: C :: D :: X) h₃) := hb3.view fun b hb => by simp at hb ⊢; rcases hb with h | h | h <;> simp [h]
      have inner : SI prog w ρ FA Chk mg mb (compEnvC scope (clo env scope.names []) C env) scope.names tns ns ns (It :: C :: D :: X) ⟨own, c.own, c.mu⟩ { s' with heap := h₃, toks := tk₃ } :=
        inner_SI hC hn I hkind hcell hfree (ext B3) (vw B3) (dm B3 hst3 hns₃ hpl3) hns₃ hT fun i x v h1 h2 => let ⟨val, h3, h4⟩ := hown₃ i x v h1 h2; ⟨val, h3, h4.mono le3⟩
      have hnc := comp_env (C := C) hn hkind hcell hfree
      have hrep3 := hrep2.mono le3
      rcases hcase with ⟨hc, x, xs', hxv, hxs', hxx⟩ | ⟨hc, hxs'⟩
      · refine tests_ok hT' hA hnc inner hCond hc fun s4 st4 => ?_
        rw [if_pos rfl]
        refine hE _ _ _ _ _ _ _ _ _ _ _ _ _ _ hA hnc (inner.step hC st4) hElt hxv fun s5 vx st5 rx => ?_
        have st45 := st4.trans st5
        have hpl5 : s5.heap.PlainList D ys := hpl3.at fun o e => st45.heap _ o e
        refine wpAny_list_append_plain hpl5 (fun h6 hpl6 hs6 => ?_) (by rw [sizeLine_eq]; omega)
        have hb6 : But [It, C, D] s5.heap h6 := But.of_same hs6 (by simp)
        have B5 : StepB [It, C, D] s₃ s5 := B3.trans (st45.b _)
        have B6 : StepB [It, C, D] s₃ { s5 with heap := h6 } := ⟨B5.heap.trans hb6, B5.gens, B5.drawn, B5.os⟩
        have le6 : Le (view (It :: C :: D :: X) s5.heap) (view (It :: C :: D :: X) h6) := hb6.view fun b hb => by simp at hb ⊢; rcases hb with h | h | h <;> simp [h]
        refine ⟨items.length + 1 - (i + 1), by omega, i + 1, m₃, ys.push vx, done ++ [x], xs', B6, hlt, rfl, ok.w.frame _ _ _ hst3 fun b hb o e => hs6.extBut b o (fun q => hDf (q ▸ hb)) (st45.heap b o e), (hns₃.keeps st45.heap).sameBut hs6 (Ne.symm hDC), hpl6, by simp; omega, ?_, by rw [hx, hxx]; simp, hxs'⟩
        rw [Array.toList_push]
        exact ((hrep3.mono (st45.heap.view _)).mono le6).snoc (rx.mono le6)
      · refine tests_ok hT' hA hnc inner hCond hc fun s4 st4 => ?_
        rw [if_neg Bool.false_ne_true]
        exact ⟨items.length + 1 - (i + 1), by omega, i + 1, m₃, ys, done, rest, B3.trans (st4.b _), hlt, rfl, ok.w.frame _ _ _ hst3 fun b _ o e => st4.heap b o e, hns₃.keeps st4.heap, hpl3.at fun o e => st4.heap _ o e, by omega, hrep3.mono (st4.heap.view _), hx, hxs'⟩
    · obtain rfl : i = items.length := Nat.le_antisymm hi (Nat.not_lt.mp hlt)
      rw [List.drop_length] at hcl
      cases hcl
      rw [List.append_nil] at hx
      subst hx
      refine ok.w.done _ _ _ hst fun h₂ tk₂ hk₂ => ?_
      have hb2 : But [It] s'.heap h₂ := fun b o hb e => hk₂ b o hb e
      have B2 : StepB [It, C, D] s₃ { s' with heap := h₂, toks := tk₂ } := ⟨B.heap.trans (hb2.mono fun b hb => by simp at hb; simp [hb]), B.gens, B.drawn, B.os⟩
      refine hRR D C _ m' nD0 nC0 hDC ⟨ext B2, fun g => B.gens (st₃.gens (ok.step.gens g)), B.drawn.trans (st₃.drawn.trans ok.step.drawn), B.os.trans (st₃.os.trans ok.step.os)⟩ (hns.at' fun o e => hk₂ _ o (by simpa using Ne.symm hIC) e)
        ⟨ys, hpl.at fun o e => hk₂ _ o (by simpa using Ne.symm hID) e, hrep.mono fun b o e => ?_⟩
      obtain ⟨e1, e2⟩ := view_some.mp e
      simp only [List.mem_cons, not_or] at e1
      exact view_some.mpr ⟨by simp [e1.2.1, e1.2.2.1, e1.2.2.2], hk₂ b o (by simpa using e1.1) e2⟩

  exact codeAny_compStart_list (loop _ rfl) (ok.w.self 0 _ _ _ hst₁ (loop _ rfl))

theorem comp_closure (hn : EnvC env nk) {scope : Scope} (hfree : ∀ y ∈ scope.names, y.2 = .free → nk.lookup y.1 = some .cell) : closureFor scope env = pure (clo env scope.names []) :=
  clo_pure fun y hy hf => hn.cll _ (hn.cel _ (hfree y hy hf))

theorem comp_step (hC : ExtP Chk) (hE : ESnd prog w ρ FA Chk mg mb r n) (hT' : TSnd prog w ρ FA Chk mg mb r n) : KSnd prog w ρ FA Chk mg mb r n := by
  intro A E s env nk ns os ts X c elt tg it cond e v Q hA' hn I his hv hQ
  have hA := hA'.down
  obtain ⟨elte, tgte, ite, ifse, scope, tns, p, rfl, hT, hI, hElt, hCond, rfl, rfl, hkind, hcell, hnames, hfree⟩ := his.compInv
  obtain ⟨items, hit, hv⟩ := bd hv
  obtain ⟨hsm, hv⟩ := when_ok hv
  obtain ⟨xs, hxs, hv⟩ := bd hv
  cases hv
  · · · · rw [eval_ListComp]
          refine wpAny_comprehension_free (use := none) rfl (fun x => hI.fold env x) (comp_closure hn hfree) hkind hnames ?_
          refine evI_ok hC hE hA hn I hI hit fun s₂ It fp St ok => ?_
          refine comp_block hC hE hT' hA hn I hT hElt hCond hkind hcell hfree ok hsm hxs (RR := fun acc C => compPost (model prog w) A E none Q acc C) fun D C s' m' hD hCn hDC st hns hpl => ?_
          obtain ⟨ys, ⟨nn, hpl⟩, hrep⟩ := hpl
          refine ⟨m', hns, fun h'' hs'' => ?_⟩
          have hCX : ∀ b, s.heap.get? b = none → b ∉ X := fun b hb hm => by obtain ⟨o, ho⟩ := I.dom b hm; rw [hb] at ho; cases ho
          have le : Le (view (D :: C :: X) s'.heap) (view X h'') := fun b o e => by
            obtain ⟨e1, e2⟩ := view_some.mp e
            simp only [List.mem_cons, not_or] at e1
            exact view_some.mpr ⟨e1.2.2, hs''.extBut b o e1.2.1 e2⟩
          have hb : But [C] s'.heap h'' := But.of_same hs'' (by simp)
          have ext : Ext s.heap h'' := But.ext st.heap hb fun b hb => by rw [List.mem_singleton] at hb; rw [hb]; exact hCn
          exact hQ _ _ ⟨ext, st.gens, st.drawn, st.os⟩ (.list (view_some.mpr ⟨hCX _ hD, hs''.extBut D _ hDC hpl⟩) ⟨rfl, rfl⟩ rfl (hrep.mono le))
end
end Mine

set_option linter.unusedVariables false
namespace Mine
open PySem PySem.Calls PyProof.Rows

noncomputable def frameA (env : Env) (am : Option Addr) : List Addr := env.locals :: cellsA env ++ am.toList
theorem frameA_base {env : Env} {am : Option Addr} {b : Addr} (h : b ∈ env.locals :: cellsA env) : b ∈ frameA env am := List.mem_append_left _ h
theorem mem_frameA {env : Env} {am : Option Addr} {b : Addr} : b ∈ frameA env am ↔ b ∈ env.locals :: cellsA env ∨ am = some b := by
  unfold frameA
  rw [List.mem_append]
  cases am with
  | none => simp
  | some a => simp [eq_comm]

section
variable (prog : Program) (w : World) (ρ : Nat → Int) (FA : Nat → Addr) (Chk : Heap → Prop) (mg mb : Str → Option Value)
noncomputable def MuOk (env : Env) (ns : List Str) (G : Vw) (h : Heap) (am : Option Addr) : Option (Nat × MO) → Prop
  | none => am = none
  | some (j, .lst l) => ∃ a x ys, am = some a ∧ ns[j]? = some x ∧ Has env h x (.ref a) ∧ a ∉ env.locals :: cellsA env ∧ h.PlainList a ys ∧ RepVs ρ G ys.toList l
  | some (j, .tab es) => ∃ a x, am = some a ∧ ns[j]? = some x ∧ Has env h x (.ref a) ∧ a ∉ env.locals :: cellsA env ∧ TabRep prog w ρ G h a es
structure FI (env : Env) (nk : NK) (ns : List Str) (X : List Addr) (h₀ : Heap) (am : Option Addr) (st : St) (s : Shared) : Prop where
  stat0 : Stat FA Chk mg mb h₀
  pl : Pl env s.heap
  h0 : Ext h₀ s.heap
  fr0 : ∀ b ∈ frameA env am, h₀.get? b = none
  amX : ∀ a, am = some a → a ∉ X
  dom : Dom (frameA env am ++ X) s.heap
  vars : ∀ i x v, ns[i]? = some x → getV st.vars i = some v → ∃ val, Has env s.heap x val ∧ RepV ρ (view (frameA env am ++ X) s.heap) val v
  mu : MuOk prog w ρ env ns (view (frameA env am ++ X) s.heap) s.heap am st.mu
end

theorem getV_setV_self {v : AV} : ∀ {l : List (Option AV)} {i : Nat}, i < l.length → getV (setV v l i) i = some v
  | [], i, h => absurd h (Nat.not_lt_zero _)
  | x :: r, 0, _ => rfl
  | x :: r, i + 1, h => by
    simp only [setV, getV]
    exact getV_setV_self (by simpa using h)
theorem getV_setV_ne {v : AV} : ∀ {l : List (Option AV)} {i j : Nat}, i ≠ j → getV (setV v l i) j = getV l j
  | [], i, j, h => rfl
  | x :: r, 0, 0, h => absurd rfl h
  | x :: r, 0, j + 1, h => rfl
  | x :: r, i + 1, 0, h => rfl
  | x :: r, i + 1, j + 1, h => getV_setV_ne (l := r) (by omega)
theorem getV_setV {v u : AV} {l : List (Option AV)} {i j : Nat} (h : getV (setV v l i) j = some u) : (j = i ∧ u = v) ∨ (j ≠ i ∧ getV l j = some u) := by
  by_cases e : i = j
  · subst e
    by_cases hl : i < l.length
    · rw [getV_setV_self hl] at h
      exact .inl ⟨rfl, (Option.some.inj h).symm⟩
    · exfalso
      have : ∀ (l : List (Option AV)) (i : Nat), l.length ≤ i → getV (setV v l i) i = none := by
        intro l
        induction l with
        | nil => intro i _; rfl
        | cons x r ih =>
          intro i hi
          cases i with
          | zero => simp at hi
          | succ i => exact ih i (by simpa using hi)
      rw [this l i (by omega)] at h
      cases h
  · exact .inr ⟨Ne.symm e, by rwa [getV_setV_ne e] at h⟩
theorem getV_clrV {u : AV} : ∀ {l : List (Option AV)} {i j : Nat}, getV (clrV l i) j = some u → getV l j = some u ∧ j ≠ i
  | [], i, j, h => by simp [clrV, getV] at h
  | x :: r, 0, 0, h => by simp [clrV, getV] at h
  | x :: r, 0, j + 1, h => ⟨h, by omega⟩
  | x :: r, i + 1, 0, h => ⟨h, by omega⟩
  | x :: r, i + 1, j + 1, h => let ⟨h1, h2⟩ := getV_clrV (l := r) h; ⟨h1, by omega⟩

/-- no name stands twice -/
noncomputable def Dis (ns : List Str) : Prop := ∀ (i j : Nat) (x : Str), ns[i]? = some x → ns[j]? = some x → i = j
noncomputable def AmR (am am' : Option Addr) (s : Shared) : Prop := am' = am ∨ (am = none ∧ ∃ a, am' = some a ∧ s.heap.get? a = none)
noncomputable def FlowOk (ρ : Nat → Int) (X : List Addr) (f : Flow) (fl : Option AV) (s' : Shared) : Prop := match fl with
  | none => f = .next
  | some v => ∃ val, f = .ret val ∧ RepV ρ (view X s'.heap) val v

section
variable {prog : Program} {w : World} {ρ : Nat → Int} {FA : Nat → Addr} {Chk : Heap → Prop} {mg mb : Str → Option Value}
variable {A : Around} {E : Value → Shared → Prop} {s : Shared} {env : Env} {nk : NK} {ns : List Str} {X : List Addr} {h₀ : Heap} {am : Option Addr} {st : St} {r : Rec} {n : Nat}

theorem MuOk.cast {G G' : Vw} {h h' : Heap} {m : Option (Nat × MO)} (M : MuOk prog w ρ env ns G h am m) (k : Le G G') (hh : ∀ x v, (∀ j mo, m = some (j, mo) → ns[j]? = some x → Has env h x v → Has env h' x v)) (ha : ∀ a, am = some a → a ∉ env.locals :: cellsA env → ∀ o, h.get? a = some o → h'.get? a = some o) : MuOk prog w ρ env ns G' h' am m := by
  match m, M with
  | none, M => exact M
  | some (j, .lst l), ⟨a, x, ys, e1, e2, e3, e4, e5, e6⟩ => exact ⟨a, x, ys, e1, e2, hh x _ j _ rfl e2 e3, e4, e5.at (ha a e1 e4), e6.mono k⟩
  | some (j, .tab es), ⟨a, x, e1, e2, e3, e4, e5⟩ => exact ⟨a, x, e1, e2, hh x _ j _ rfl e2 e3, e4, e5.mono (ha a e1 e4) k⟩

theorem FI.stat (hC : ExtP Chk) (F : FI prog w ρ FA Chk mg mb env nk ns X h₀ am st s) : Stat FA Chk mg mb s.heap := F.stat0.mono hC F.h0
theorem FI.si (hC : ExtP Chk) (hd : Dis ns) (F : FI prog w ρ FA Chk mg mb env nk ns X h₀ am st s) : SI prog w ρ FA Chk mg mb env nk ns [] ns (frameA env am ++ X) (cx st) s where
  stat := F.stat hC
  dom := F.dom
  ei := {
    own := F.vars
    out := fun i x v h => by simp at h
    tab := fun j es hj => by
      have M := F.mu
      have hj' : st.mu = some (j, .tab es) := hj
      rw [hj'] at M
      obtain ⟨a, x, e1, e2, e3, e4, e5⟩ := M
      exact ⟨a, e5, fun y hy _ => by rw [e2] at hy; cases hy; exact e3⟩ }

theorem AmR.refl {s : Shared} : AmR am am s := .inl rfl
theorem AmR.trans {am' am'' : Option Addr} {s s' : Shared} (x : AmR am am' s) (y : AmR am' am'' s') (k : ∀ a, s'.heap.get? a = none → s.heap.get? a = none) : AmR am am'' s := by
  rcases x with rfl | ⟨h1, a, h2, h3⟩
  · rcases y with rfl | ⟨h1, a, h2, h3⟩
    · exact .inl rfl
    · exact .inr ⟨h1, a, h2, k a h3⟩
  · rcases y with rfl | ⟨h4, a', h5, h6⟩
    · exact .inr ⟨h1, a, h2, h3⟩
    · rw [h2] at h4; cases h4
/-- what was before is kept by the one and by the other -/
theorem stepC_am {am' : Option Addr} {s s' s'' : Shared} (x : StepC (frameA env am) s s') (a : AmR am am' s) (y : StepC (frameA env am') s' s'') : StepC (frameA env am) s s'' := by
  refine ⟨⟨fun b o hb e => ?_, fun g => y.b.gens (x.b.gens g), y.b.drawn.trans x.b.drawn, y.b.os.trans x.b.os⟩, fun a o e => let ⟨o', e'⟩ := x.live a o e; y.live a o' e'⟩
  refine y.b.heap b o (fun hm => ?_) (x.b.heap b o hb e)
  rcases a with rfl | ⟨h1, a, h2, h3⟩
  · exact hb hm
  · rcases mem_frameA.mp hm with h4 | h4
    · exact hb (frameA_base h4)
    · rw [h2] at h4
      cases h4
      rw [h3] at e
      cases e
theorem AmR.then {am' am'' : Option Addr} {M : List Addr} {s s' : Shared} (x : AmR am am' s) (y : AmR am' am'' s') (k : StepC M s s') : AmR am am'' s := x.trans y fun _ h => k.none h

/-- the same names, told after what does not turn them, seen from elsewhere -/
theorem FI.to (F : FI prog w ρ FA Chk mg mb env nk ns X h₀ am st s) {X' : List Addr} {s' : Shared} (x : Ext s.heap s'.heap) (hX : ∀ b ∈ X', b ∈ X ∨ s.heap.get? b = none) (D : Dom X' s'.heap) : FI prog w ρ FA Chk mg mb env nk ns X' h₀ am st s' := by
  have le : Le (view (frameA env am ++ X) s.heap) (view (frameA env am ++ X') s'.heap) := view_new x fun b hb => by
    rcases List.mem_append.mp hb with h | h
    · exact .inl (List.mem_append_left _ h)
    · exact (hX b h).imp (List.mem_append_right _) id
  exact { stat0 := F.stat0, pl := F.pl.mono x, h0 := F.h0.trans x, fr0 := F.fr0,
          amX := fun a ha hm => by
            rcases hX a hm with h | h
            · exact F.amX a ha h
            · obtain ⟨o, e⟩ := F.dom a (List.mem_append_left _ (mem_frameA.mpr (.inr ha)))
              rw [h] at e; cases e
          dom := fun b hb => by
            rcases List.mem_append.mp hb with h | h
            · exact F.dom.mono x b (List.mem_append_left _ h)
            · exact D b h
          vars := fun i y v h1 h2 => let ⟨val, h3, h4⟩ := F.vars i y v h1 h2; ⟨val, h3.mono x, h4.mono le⟩
          mu := F.mu.cast le (fun y v _ _ _ _ h => h.mono x) fun a _ _ => x a }
theorem FI.step (F : FI prog w ρ FA Chk mg mb env nk ns X h₀ am st s) {s' : Shared} (x : Step s s') : FI prog w ρ FA Chk mg mb env nk ns X h₀ am st s' :=
  F.to x.heap (fun b hb => .inl hb) fun b hb => F.dom.mono x.heap b (List.mem_append_right _ hb)

/-- a name is set -/
theorem FI.set (hn : EnvC env nk) (hap : env.cells.Pairwise fun a b => a.2 ≠ b.2) (hd : Dis ns) (F : FI prog w ρ FA Chk mg mb env nk ns X h₀ am st s) {i : Nat} {x : Str} {v : Value} {d : AV} {st' : St} {Q : Unit → Shared → Prop}
    (hx : ns[i]? = some x) (hk : nk.lookup x = some .local ∨ nk.lookup x = some .cell) (hr : RepV ρ (view (frameA env am ++ X) s.heap) v d) (ht : tg1 i st d = some st')
    (hQ : ∀ s', FI prog w ρ FA Chk mg mb env nk ns X h₀ am st' s' → StepC (env.locals :: cellsA env) s s' → Q () s') : wpAny (model prog w) A (storeName env x v) Q E s := by
  unfold tg1 at ht
  split at ht
  · rename_i hok
    cases ht
    refine store hn.fn hap F.pl (hk.imp (hn.loc _) fun h => ⟨hn.cel _ h, hn.cll _ (hn.cel _ h)⟩) fun h' tk hb live hp hh ho => hQ _ ?_ ⟨⟨hb, id, rfl, rfl⟩, live⟩
    have le : Le (view (frameA env am ++ X) s.heap) (view (frameA env am ++ X) h') := hb.view fun b hb => List.mem_append_left _ (frameA_base hb)
    refine { stat0 := F.stat0, pl := hp, h0 := But.ext F.h0 hb fun b hb => F.fr0 b (frameA_base hb), fr0 := F.fr0, amX := F.amX,
             dom := fun b hb => let ⟨o, e⟩ := F.dom b hb; live b o e
             vars := fun j y u hj hu => ?_
             mu := F.mu.cast le (fun y u j mo hm hj h => ho y u (fun e => ?_) h) fun a ha hna o e => hb a o hna e }
    · rcases getV_setV hu with ⟨rfl, rfl⟩ | ⟨hne, hu⟩
      · rw [hx] at hj
        cases hj
        exact ⟨v, hh, hr.mono le⟩
      · obtain ⟨val, h1, h2⟩ := F.vars j y u hj hu
        exact ⟨val, ho y val (fun e => hne (hd j i x (e ▸ hj) hx)) h1, h2.mono le⟩
    · subst e
      have hij := hd i j y hx hj
      subst hij
      have hm' : st.mu = some (i, mo) := hm
      unfold okI at hok
      rw [hm'] at hok
      simp at hok
  · cases ht
end
end Mine

set_option linter.unusedVariables false
namespace Mine
open PySem PySem.Calls PyProof.Rows

theorem cell_at {h h' : Heap} {c : Addr} {v : Option Value} (x : h.IsCell c v) (k : ∀ o, h.get? c = some o → h'.get? c = some o) : h'.IsCell c v := let ⟨o, ho, r⟩ := x; ⟨o, k o ho, r⟩
theorem Pl.at {env : Env} {h h' : Heap} (P : Pl env h) (k : ∀ b ∈ env.locals :: cellsA env, ∀ o, h.get? b = some o → h'.get? b = some o) : Pl env h' where
  ns := let ⟨m, hn⟩ := P.ns; ⟨m, hn.at' (k _ List.mem_cons_self)⟩
  cell := fun x c hc => let ⟨v, hv⟩ := P.cell x c hc; ⟨v, cell_at hv (k _ (List.mem_cons_of_mem _ (List.mem_map.mpr ⟨(x, c), mem_of_lookup hc, rfl⟩)))⟩
theorem Has.at {env : Env} {h h' : Heap} {x : Str} {v : Value} (H : Has env h x v) (k : ∀ b ∈ env.locals :: cellsA env, ∀ o, h.get? b = some o → h'.get? b = some o) : Has env h' x v := by
  rcases H with ⟨hl, m, hn, hm⟩ | ⟨hl, c, hc, hv⟩
  · exact .inl ⟨hl, m, hn.at' (k _ List.mem_cons_self), hm⟩
  · exact .inr ⟨hl, c, hc, cell_at hv (k _ (List.mem_cons_of_mem _ (List.mem_map.mpr ⟨(x, c), mem_of_lookup hc, rfl⟩)))⟩

section
variable {prog : Program} {w : World} {ρ : Nat → Int} {FA : Nat → Addr} {Chk : Heap → Prop} {mg mb : Str → Option Value}
variable {A : Around} {E : Value → Shared → Prop} {s : Shared} {env : Env} {nk : NK} {ns : List Str} {X : List Addr} {h₀ : Heap} {am : Option Addr} {st : St} {r : Rec} {n : Nat}

/-- what is elsewhere may be turned -/
theorem FI.but (F : FI prog w ρ FA Chk mg mb env nk ns X h₀ am st s) {M : List Addr} {s' : Shared} (hb : But M s.heap s'.heap) (hM : ∀ b ∈ M, b ∈ X) (hf : ∀ b ∈ M, b ∉ frameA env am) (h0 : ∀ b ∈ M, h₀.get? b = none)
    (live : ∀ b o, s.heap.get? b = some o → ∃ o', s'.heap.get? b = some o') : FI prog w ρ FA Chk mg mb env nk ns X h₀ am st s' := by
  have le : Le (view (frameA env am ++ X) s.heap) (view (frameA env am ++ X) s'.heap) := hb.view fun b hb => List.mem_append_right _ (hM b hb)
  have k : ∀ b ∈ env.locals :: cellsA env, ∀ o, s.heap.get? b = some o → s'.heap.get? b = some o := fun b hb' o e => hb b o (fun hm => hf b hm (frameA_base hb')) e
  exact { stat0 := F.stat0, pl := F.pl.at k, h0 := But.ext F.h0 hb h0, fr0 := F.fr0, amX := F.amX,
          dom := fun b hb => let ⟨o, e⟩ := F.dom b hb; live b o e
          vars := fun i y v h1 h2 => let ⟨val, h3, h4⟩ := F.vars i y v h1 h2; ⟨val, h3.at k, h4.mono le⟩
          mu := F.mu.cast le (fun y v _ _ _ _ h => h.at k) fun a ha _ o e => hb a o (fun hm => hf a hm (mem_frameA.mpr (.inr ha))) e }

theorem assignEach_ns {is : List Nat} {elts : List PySem.Expr} (h : IsNs nk ns is elts) : (assignEach elts env).length = is.length ∧ (assignEach elts env).findIdx? (·.1) = none := by
  induction h using IsNs.ind with
  | nil => exact ⟨rfl, rfl⟩
  | cons p hx hk h ih =>
    refine ⟨by show (_ :: assignEach _ env).length = _; rw [List.length_cons, ih.1, List.length_cons], ?_⟩
    show ((false, _) :: assignEach _ env).findIdx? _ = none
    rw [List.findIdx?_cons, ih.2]
    rfl

variable (hn : EnvC env nk) (hap : env.cells.Pairwise fun a b => a.2 ≠ b.2) (hd : Dis ns)
include hn hap hd
theorem assignOrder_ok {is : List Nat} {elts : List PySem.Expr} (h : IsNs nk ns is elts) : ∀ {st st' : St} {s : Shared} {vals : List Value} {ds : List AV} {Q : Unit → Shared → Prop}, FI prog w ρ FA Chk mg mb env nk ns X h₀ am st s → RepVs ρ (view (frameA env am ++ X) s.heap) vals ds → tgs st is ds = some st' →
    (∀ s', FI prog w ρ FA Chk mg mb env nk ns X h₀ am st' s' → StepC (env.locals :: cellsA env) s s' → Q () s') → wpAny (model prog w) A (assignInOrder ((assignEach elts env).map (·.2)) vals) Q E s := by
  induction h using IsNs.ind with
  | nil =>
    intro st st' s vals ds Q F R h hQ
    cases ds with
    | nil => cases h; exact assignInOrder_nil (hQ s F ((Step.refl s).c _))
    | cons d ds => simp [tgs] at h
  | cons p hx hk h ih =>
    intro st st' s vals ds Q F R h hQ
    cases R with
    | nil => simp [tgs] at h
    | cons rv R =>
      simp only [tgs] at h
      split at h
      · rename_i st1 h1
        refine assignInOrder_cons (wpAny_assign_Name (F.set hn hap hd hx hk rv h1 fun s1 F1 c1 => ?_))
        exact ih F1 (R.mono (c1.b.heap.view fun b hb => List.mem_append_left _ (frameA_base hb))) h fun s2 F2 c2 => hQ s2 F2 (c1.trans c2)
      · cases h

/-- a target is set by the walk's next -/
noncomputable def TG (prog : Program) (w : World) (ρ : Nat → Int) (FA : Nat → Addr) (Chk : Heap → Prop) (mg mb : Str → Option Value) (A : Around) (env : Env) (nk : NK) (ns : List Str) (h₀ : Heap) (target : PySem.Expr) (tg : St → AV → Option St) : Prop :=
  ∀ (E : Value → Shared → Prop) (s : Shared) (X : List Addr) (am : Option Addr) (st st' : St) (d : AV) (v : Value) (It : Addr) (Q : Unit → Shared → Prop), FI prog w ρ FA Chk mg mb env nk ns X h₀ am st s → RepV ρ (view (frameA env am ++ X) s.heap) v d → tg st d = some st' →
    ((∃ l j, s.heap.IsListIter It l j) ∨ ∃ z, d = .int z) → (∀ s', FI prog w ρ FA Chk mg mb env nk ns X h₀ am st' s' → StepC (env.locals :: cellsA env) s s' → Q () s') →
    wpAny (model prog w) A (letOwnedTupleGo target (.ref It) v) (fun _ s₁ => wpAny (model prog w) A (assign target env v) Q E s₁) E s
theorem tg_one {i : Nat} {x : Str} {p : Pos} (hx : ns[i]? = some x) (hk : nk.lookup x = some .local ∨ nk.lookup x = some .cell) : TG prog w ρ FA Chk mg mb A env nk ns h₀ (.Name x p) (tg1 i) := by
  intro E s X am st st' d v It Q F R h _ hQ
  show wpAny _ A (pure ()) _ _ s
  exact wpAny_pure (wpAny_assign_Name (F.set hn hap hd hx hk R h hQ))
theorem tuple_set {is : List Nat} {elts : List PySem.Expr} {k : Nat} {p : Pos} (hh : A.handled = none) (hi : IsNs nk ns is elts) {st st' : St} {d : AV} {v : Value} {Q : Unit → Shared → Prop} (F : FI prog w ρ FA Chk mg mb env nk ns X h₀ am st s) (R : RepV ρ (view (frameA env am ++ X) s.heap) v d)
    (h : tgT is st d = some st') (hQ : ∀ s', FI prog w ρ FA Chk mg mb env nk ns X h₀ am st' s' → StepC (env.locals :: cellsA env) s s' → Q () s') : wpAny (model prog w) A (assign (.Tuple elts k p) env v) Q E s := by
  unfold tgT at h
  split at h
  · rename_i l
    obtain ⟨t, o, vals, nn, rfl, ho, hc, hdd, rs⟩ := repv_tup R
    have e := assignEach_ns (env := env) hi
    have hlen : ∀ (is : List Nat) (l : List AV) (st st' : St), tgs st is l = some st' → is.length = l.length := by
      intro is
      induction is with
      | nil => intro l st st' h; cases l <;> simp [tgs] at h ⊢
      | cons i is ih =>
        intro l st st' h
        cases l with
        | nil => simp [tgs] at h
        | cons a l =>
          simp only [tgs] at h
          split at h
          · simp [ih l _ _ h]
          · cases h
    refine assign_Tuple_tuple hh ⟨o, view_get ho, hc, nn, hdd⟩ (by rw [e.1, hlen _ _ _ _ h, ← rs.length]; simp) e.2 fun h' he => ?_
    have st1 : Step s { s with heap := h' } := ⟨fun b o e => he b o (Nat.ne_of_lt (Heap.lt_size e)) e, id, rfl, rfl⟩
    exact assignOrder_ok hn hap hd hi (F.step st1) (rs.mono (st1.heap.view _)) h fun s2 F2 c2 => hQ s2 F2 ((st1.c _).trans c2)
  · cases h
theorem tg_tup {is : List Nat} {elts : List PySem.Expr} {k : Nat} {p : Pos} (hh : A.handled = none) (hi : IsNs nk ns is elts) : TG prog w ρ FA Chk mg mb A env nk ns h₀ (.Tuple elts k p) (tgT is) := by
  intro E s X am st st' d v It Q F R h hgo hQ
  have h' := h
  unfold tgT at h'
  split at h'
  · rename_i l
    obtain ⟨lx, j, hl⟩ : ∃ l j, s.heap.IsListIter It l j := hgo.elim id fun ⟨z, e⟩ => nomatch e
    obtain ⟨t, o, vals, nn, rfl, ho, hc, hdd, rs⟩ := repv_tup R
    exact wpAny_letOwnedTupleGo_listiter hl (tuple_set hn hap hd hh hi F R h hQ)
  · cases h'
end
end Mine

set_option linter.unusedVariables false
namespace Mine
open PySem PySem.Calls PyProof.Rows

section
variable (prog : Program) (w : World) (ρ : Nat → Int) (FA : Nat → Addr) (Chk : Heap → Prop) (mg mb : Str → Option Value)
noncomputable def XSnd (r : Rec) (n : Nat) : Prop := ∀ (A : Around) (E : Value → Shared → Prop) (s : Shared) (env : Env) (nk : NK) (ns : List Str) (X : List Addr) (h₀ : Heap) (am : Option Addr) (st : St) (m : MS) (e : Stmt) (fl : Option AV) (st' : St) (Q : Flow → Shared → Prop),
  AOk n A → EnvC env nk → (env.cells.Pairwise fun a b => a.2 ≠ b.2) → Dis ns → FI prog w ρ FA Chk mg mb env nk ns X h₀ am st s → IsS nk ns m e → r.ex st m = some (fl, st') →
  (∀ s' am' f, FI prog w ρ FA Chk mg mb env nk ns X h₀ am' st' s' → AmR am am' s → StepC (frameA env am) s s' → FlowOk ρ X f fl s' → Q f s') → wpAny (model prog w) A (exec e env) Q E s
noncomputable def XsSnd (r : Rec) (n : Nat) : Prop := ∀ (A : Around) (E : Value → Shared → Prop) (s : Shared) (env : Env) (nk : NK) (ns : List Str) (X : List Addr) (h₀ : Heap) (am : Option Addr) (st : St) (ms : List MS) (es : List Stmt) (fl : Option AV) (st' : St) (Q : Flow → Shared → Prop),
  AOk n A → EnvC env nk → (env.cells.Pairwise fun a b => a.2 ≠ b.2) → Dis ns → FI prog w ρ FA Chk mg mb env nk ns X h₀ am st s → IsSs nk ns ms es → exs r st ms = some (fl, st') →
  (∀ s' am' f, FI prog w ρ FA Chk mg mb env nk ns X h₀ am' st' s' → AmR am am' s → StepC (frameA env am) s s' → FlowOk ρ X f fl s' → Q f s') → wpAny (model prog w) A (execs es env) Q E s
end

section
variable {prog : Program} {w : World} {ρ : Nat → Int} {FA : Nat → Addr} {Chk : Heap → Prop} {mg mb : Str → Option Value}
variable {A : Around} {E : Value → Shared → Prop} {s : Shared} {env : Env} {nk : NK} {ns : List Str} {X : List Addr} {h₀ : Heap} {am : Option Addr} {st : St} {r : Rec} {n : Nat}

theorem xs_ok (hX : XSnd prog w ρ FA Chk mg mb r n) : XsSnd prog w ρ FA Chk mg mb r n := by
  intro A E s env nk ns X h₀ am st ms es fl st' Q hA hn hap hd F his hv hQ
  induction ms generalizing es st s am Q with
  | nil =>
    cases es with
    | cons _ _ => exact his.elim
    | nil =>
    cases hv
    exact wpAny_execs_nil (hQ s am .next F AmR.refl ((Step.refl s).c _) rfl)
  | cons m ms ih =>
    cases es with
    | nil => exact his.elim
    | cons _ _ =>
      obtain ⟨h, hs⟩ := his
      simp only [exs] at hv
      split at hv
      · rename_i st1 h1
        refine wpAny_execs_cons (hX _ _ _ _ _ _ _ _ _ _ _ _ _ _ _ hA hn hap hd F h h1 fun s1 am1 f F1 a1 c1 fo => ?_)
        cases fo
        exact ih _ _ _ _ _ F1 hs hv fun s2 am2 f F2 a2 c2 fo => hQ s2 am2 f F2 (a1.then a2 c1) (stepC_am c1 a1 c2) fo
      · rename_i hne
        refine wpAny_execs_cons (hX _ _ _ _ _ _ _ _ _ _ _ _ _ _ _ hA hn hap hd F h hv fun s1 am1 f F1 a1 c1 fo => ?_)
        cases fl with
        | none => exact absurd hv (hne _)
        | some v =>
          obtain ⟨val, rfl, hr⟩ := fo
          exact hQ s1 am1 _ F1 a1 c1 ⟨val, rfl, hr⟩

theorem FI.off0 (F : FI prog w ρ FA Chk mg mb env nk ns X h₀ am st s) {b : Addr} (h : s.heap.get? b = none) : b ∉ frameA env am ∧ b ∉ X := by
  constructor <;> intro hm
  · obtain ⟨o, e⟩ := F.dom b (List.mem_append_left _ hm); rw [h] at e; cases e
  · obtain ⟨o, e⟩ := F.dom b (List.mem_append_right _ hm); rw [h] at e; cases e

theorem FI.drop {It : Addr} (F : FI prog w ρ FA Chk mg mb env nk ns (It :: X) h₀ am st s) {s' : Shared} (hb : But [It] s.heap s'.heap) (hI : It ∉ frameA env am) (hX : It ∉ X) (h0 : h₀.get? It = none) : FI prog w ρ FA Chk mg mb env nk ns X h₀ am st s' := by
  have le : Le (view (frameA env am ++ It :: X) s.heap) (view (frameA env am ++ X) s'.heap) := fun b o e => by
    obtain ⟨e1, e2⟩ := view_some.mp e
    simp only [List.mem_cons, List.mem_append, not_or] at e1
    exact view_some.mpr ⟨by simp only [List.mem_append, not_or]; exact ⟨e1.1, e1.2.2⟩, hb b o (by simpa using e1.2.1) e2⟩
  have k : ∀ b ∈ env.locals :: cellsA env, ∀ o, s.heap.get? b = some o → s'.heap.get? b = some o := fun b hb' o e => hb b o (fun hm => hI (by rw [List.mem_singleton] at hm; exact hm ▸ frameA_base hb')) e
  exact { stat0 := F.stat0, pl := F.pl.at k, h0 := But.ext F.h0 hb (fun b hb => by rw [List.mem_singleton] at hb; rw [hb]; exact h0), fr0 := F.fr0, amX := fun a ha hm => F.amX a ha (List.mem_cons_of_mem _ hm)
          dom := fun b hm => by
            have hbI : b ∉ [It] := fun q => by
              rw [List.mem_singleton] at q
              rcases List.mem_append.mp hm with h | h
              · exact hI (q ▸ h)
              · exact hX (q ▸ h)
            obtain ⟨o, e⟩ := F.dom b (by
              rcases List.mem_append.mp hm with h | h
              · exact List.mem_append_left _ h
              · exact List.mem_append_right _ (List.mem_cons_of_mem _ h))
            exact ⟨o, hb b o hbI e⟩
          vars := fun i y v h1 h2 => let ⟨val, h3, h4⟩ := F.vars i y v h1 h2; ⟨val, h3.at k, h4.mono le⟩
          mu := F.mu.cast le (fun y v _ _ _ _ h => h.at k) fun a ha _ o e => hb a o (fun hm => hI (by rw [List.mem_singleton] at hm; exact hm ▸ mem_frameA.mpr (.inr ha))) e }

/-- the steps of a walk -/
theorem for_ok (hX : XSnd prog w ρ FA Chk mg mb r n) (hA : AOk n A) (hn : EnvC env nk) (hap : env.cells.Pairwise fun a b => a.2 ≠ b.2) (hd : Dis ns) {target : PySem.Expr} {tg : St → AV → Option St} {body : List MS} {bs : List Stmt} {items : List AV} {fl : Option AV} {st' : St}
    {s₂ : Shared} {It : Addr} {fp : List Addr} {St' : Nat → Heap → Prop} {R : Result → Shared → Prop}
    (T : TG prog w ρ FA Chk mg mb A env nk ns h₀ target tg) (F : FI prog w ρ FA Chk mg mb env nk ns X h₀ am st s) (hb : IsSs nk ns body bs) (ok : ItOk prog w A ρ (frameA env am ++ X) s s₂ items It fp St') (hv : forL r body tg st items = some (fl, st'))
    (hQ : ∀ s' am' f, FI prog w ρ FA Chk mg mb env nk ns X h₀ am' st' s' → AmR am am' s → StepC (frameA env am) s s' → FlowOk ρ X f fl s' → R (.ok f) s') :
    codeAny (model prog w) A (.forLoop target (.ref It) bs [] env) R s₂ := by
  have hItX := F.off0 ok.fresh
  have hIt0 : h₀.get? It = none := none_before F.h0 ok.fresh
  have F2 : FI prog w ρ FA Chk mg mb env nk ns (It :: X) h₀ am st s₂ := F.to ok.step.heap (fun b hb => by
    rcases List.mem_cons.mp hb with rfl | hb
    · exact .inr ok.fresh
    · exact .inl hb) fun b hb => by
    rcases List.mem_cons.mp hb with rfl | hb
    · exact ok.dom
    · exact F.dom.mono ok.step.heap b (List.mem_append_right _ hb)
  refine codeAny_forLoop_any (fun k s' => ∃ i am' st'', FI prog w ρ FA Chk mg mb env nk ns (It :: X) h₀ am' st'' s' ∧ AmR am am' s₂ ∧ StepC (It :: frameA env am) s₂ s' ∧ i ≤ items.length ∧ k = items.length + 1 - i ∧ St' i s'.heap ∧
      forL r body tg st'' (items.drop i) = some (fl, st')) ?_ (items.length + 1) ⟨0, am, st, F2, AmR.refl, (Step.refl _).c _, Nat.zero_le _, rfl, ok.st, hv⟩
  rintro k s' ⟨i, am', st'', F', a', c', hi, rfl, hst, hv'⟩
  -- what the walk stands on is none of the frame's
  have offp : ∀ b ∈ fp, b ∉ frameA env am' := fun b hb hm => by
    obtain ⟨o, e⟩ := ok.ex b hb
    have h1 : b ∉ frameA env am := by
      rcases ok.off b hb with rfl | h
      · exact hItX.1
      · exact fun q => h (List.mem_append_left _ q)
    rcases a' with rfl | ⟨_, a, h2, h3⟩
    · exact h1 hm
    · rcases mem_frameA.mp hm with h4 | h4
      · exact h1 (frameA_base h4)
      · rw [h2] at h4; cases h4; rw [h3] at e; cases e
  have hItF' : It ∉ frameA env am' := by
    intro hm
    rcases a' with rfl | ⟨_, a, h2, h3⟩
    · exact hItX.1 hm
    · rcases mem_frameA.mp hm with h4 | h4
      · exact hItX.1 (frameA_base h4)
      · rw [h2] at h4; cases h4; obtain ⟨o, e⟩ := ok.dom; rw [h3] at e; cases e
  by_cases hlt : i < items.length
  · refine ok.w.item i _ _ _ hlt hst fun v h₂ tk₂ hP hst₂ hk₂ => ?_
    obtain ⟨d, hdd, hr⟩ := hP
    have hdi : items[i] = d := by rw [List.getElem?_eq_getElem hlt] at hdd; exact Option.some.inj hdd
    rw [List.drop_eq_getElem_cons hlt, hdi] at hv'
    simp only [forL] at hv'
    split at hv'
    · cases hv'
    rename_i st1 h1
    have live₂ : ∀ b o, s'.heap.get? b = some o → ∃ o', h₂.get? b = some o' := fun b o e => by
      by_cases q : b = It
      · rw [q]; exact ok.live _ _ hst₂
      · exact ⟨o, hk₂ b o (by simpa using q) e⟩
    have F3 : FI prog w ρ FA Chk mg mb env nk ns (It :: X) h₀ am' st'' { s' with heap := h₂, toks := tk₂ } :=
      F'.but (M := [It]) (fun b o hb e => hk₂ b o hb e) (fun b hb => by rw [List.mem_singleton] at hb; simp [hb]) (fun b hb => by rw [List.mem_singleton] at hb; rw [hb]; exact hItF') (fun b hb => by rw [List.mem_singleton] at hb; rw [hb]; exact hIt0) live₂
    have c3 : StepC (It :: frameA env am) s₂ { s' with heap := h₂, toks := tk₂ } := c'.trans ⟨⟨fun b o hb e => hk₂ b o (fun q => hb (by rw [List.mem_singleton] at q; simp [q])) e, id, rfl, rfl⟩, live₂⟩
    have vw : Le (view (It :: (frameA env am ++ X)) s₂.heap) (view (frameA env am' ++ It :: X) h₂) := fun b o e => by
      obtain ⟨e1, e2⟩ := view_some.mp e
      simp only [List.mem_cons, List.mem_append, not_or] at e1
      have hbF : b ∉ frameA env am' := fun hm => by
        rcases a' with rfl | ⟨_, a, h2, h3⟩
        · exact e1.2.1 hm
        · rcases mem_frameA.mp hm with h4 | h4
          · exact e1.2.1 (frameA_base h4)
          · rw [h2] at h4; cases h4; rw [h3] at e2; cases e2
      exact view_some.mpr ⟨by simp only [List.mem_cons, List.mem_append, not_or]; exact ⟨hbF, e1.1, e1.2.2⟩, c3.b.heap b o (by simp only [List.mem_cons, not_or]; exact ⟨e1.1, e1.2.1⟩) e2⟩
    dsimp only
    refine T _ _ _ _ _ _ _ _ _ _ F3 (hr.mono vw) h1 (ok.go.imp (fun h => h _ _ hst₂) fun h => h d (by rw [← hdi]; exact List.getElem_mem hlt)) fun s4 F4 c4 => ?_
    have hst4 : St' (i + 1) s4.heap := ok.w.frame _ _ _ hst₂ fun b hb o e => c4.b.heap b o (fun hm => offp b hb (frameA_base hm)) e
    have amr4 : ∀ {am''}, AmR am' am'' s4 → AmR am am'' s₂ := fun h => a'.trans h fun a e => c3.none (c4.none e)
    have cfin : ∀ {s5}, StepC (frameA env am') s4 s5 → StepC (It :: frameA env am) s₂ s5 := fun {s5} c5 => by
      have c45 : StepC (frameA env am') { s' with heap := h₂, toks := tk₂ } s5 := (c4.mono fun b hb => frameA_base hb).trans c5
      refine ⟨⟨fun b o hb e => ?_, fun g => c45.b.gens (c3.b.gens g), c45.b.drawn.trans c3.b.drawn, c45.b.os.trans c3.b.os⟩, fun a o e => let ⟨o', e'⟩ := c3.live a o e; c45.live a o' e'⟩
      refine c45.b.heap b o (fun hm => ?_) (c3.b.heap b o hb e)
      simp only [List.mem_cons, not_or] at hb
      rcases a' with rfl | ⟨_, a, h2, h3⟩
      · exact hb.2 hm
      · rcases mem_frameA.mp hm with h4 | h4
        · exact hb.2 (frameA_base h4)
        · rw [h2] at h4; cases h4; rw [h3] at e; cases e
    split at hv'
    · rename_i st2 h2
      refine xs_ok hX _ _ _ _ _ _ _ _ _ _ _ _ _ _ _ hA hn hap hd F4 hb h2 fun s5 am5 f F5 a5 c5 fo => ?_
      cases fo
      exact ⟨items.length + 1 - (i + 1), by omega, i + 1, am5, st2, F5, amr4 a5, cfin c5, hlt, rfl, ok.w.frame _ _ _ hst4 fun b hb o e => c5.b.heap b o (offp b hb) e, hv'⟩
    · rename_i hne
      refine xs_ok hX _ _ _ _ _ _ _ _ _ _ _ _ _ _ _ hA hn hap hd F4 hb hv' fun s5 am5 f F5 a5 c5 fo => ?_
      cases fl with
      | none => exact absurd hv' (hne _)
      | some v =>
        obtain ⟨val, rfl, hr⟩ := fo
        have c := cfin c5
        refine hQ s5 am5 _ (F5.to (Ext.refl _) (fun b hb => .inl (List.mem_cons_of_mem _ hb)) fun b hb => F5.dom b (List.mem_append_right _ (List.mem_cons_of_mem _ hb))) (AmR.trans (AmR.refl (s := s)) (amr4 a5) fun a e => none_before ok.step.heap e) ⟨⟨fun b o hb e => c.b.heap b o ?_ (ok.step.heap b o e), fun g => c.b.gens (ok.step.gens g), c.b.drawn.trans ok.step.drawn, c.b.os.trans ok.step.os⟩, fun a o e => c.live a o (ok.step.heap a o e)⟩ ⟨val, rfl, hr.mono (view_sub _ fun b hb => List.mem_cons_of_mem _ hb)⟩
        simp only [List.mem_cons, not_or]
        exact ⟨fun q => (by rw [q, ok.fresh] at e; cases e), hb⟩
  · obtain rfl : i = items.length := Nat.le_antisymm hi (Nat.not_lt.mp hlt)
    rw [List.drop_length] at hv'
    cases hv'
    refine ok.w.done _ _ _ hst fun h₂ tk₂ hk₂ => ?_
    refine wpAny_execs_nil (hQ _ am' .next (F'.drop (s' := { s' with heap := h₂, toks := tk₂ }) (fun b o hb e => hk₂ b o hb e) hItF' hItX.2 hIt0) (AmR.trans (AmR.refl (s := s)) a' fun a e => none_before ok.step.heap e)
      ⟨⟨fun b o hb e => ?_, fun g => c'.b.gens (ok.step.gens g), c'.b.drawn.trans ok.step.drawn, c'.b.os.trans ok.step.os⟩, fun a o e => ?_⟩ rfl)
    · have hbI : b ≠ It := fun q => by rw [q, ok.fresh] at e; cases e
      exact hk₂ b o (by simpa using hbI) (c'.b.heap b o (by simp only [List.mem_cons, not_or]; exact ⟨hbI, hb⟩) (ok.step.heap b o e))
    · have hbI : a ≠ It := fun q => by rw [q, ok.fresh] at e; cases e
      obtain ⟨o', e'⟩ := c'.live a o (ok.step.heap a o e)
      exact ⟨o', hk₂ a o' (by simpa using hbI) e'⟩
end
end Mine

set_option linter.unusedVariables false
namespace Mine
open PySem PySem.Calls PyProof.Rows

noncomputable def MuC (prog : Program) (w : World) (ρ : Nat → Int) (G : Vw) (h : Heap) (a : Addr) : MO → Prop
  | .lst l => ∃ ys, h.PlainList a ys ∧ RepVs ρ G ys.toList l
  | .tab es => TabRep prog w ρ G h a es

theorem sym_bare {ρ : Nat → Int} {G G' : Vw} {v : Value} {d : AV} {e : SE} (r : RepV ρ G v d) (h : d.sym? = some e) : RepV ρ G' v d := by
  cases r <;> first | exact .int _ _ | exact .sym _ _ | (simp [AV.sym?] at h)

section
variable {prog : Program} {w : World} {ρ : Nat → Int} {FA : Nat → Addr} {Chk : Heap → Prop} {mg mb : Str → Option Value}
variable {A : Around} {E : Value → Shared → Prop} {s : Shared} {env : Env} {nk : NK} {ns : List Str} {X : List Addr} {h₀ : Heap} {am : Option Addr} {st : St} {r : Rec} {n : Nat}

theorem MuOk.of {G : Vw} {h : Heap} {a : Addr} {j : Nat} {x : Str} {mo : MO} (e2 : ns[j]? = some x) (e3 : Has env h x (.ref a)) (e4 : a ∉ env.locals :: cellsA env) (c : MuC prog w ρ G h a mo) : MuOk prog w ρ env ns G h (some a) (some (j, mo)) := by
  cases mo with
  | lst l => obtain ⟨ys, h1, h2⟩ := c; exact ⟨a, x, ys, rfl, e2, e3, e4, h1, h2⟩
  | tab es => exact ⟨a, x, rfl, e2, e3, e4, c⟩
theorem MuOk.get {G : Vw} {h : Heap} {j : Nat} {mo : MO} (M : MuOk prog w ρ env ns G h am (some (j, mo))) : ∃ a x, am = some a ∧ ns[j]? = some x ∧ Has env h x (.ref a) ∧ a ∉ env.locals :: cellsA env ∧ MuC prog w ρ G h a mo := by
  cases mo with
  | lst l => obtain ⟨a, x, ys, e1, e2, e3, e4, h1, h2⟩ := M; exact ⟨a, x, e1, e2, e3, e4, ys, h1, h2⟩
  | tab es => obtain ⟨a, x, e1, e2, e3, e4, h1⟩ := M; exact ⟨a, x, e1, e2, e3, e4, h1⟩

/-- a new list or table is named -/
theorem FI.new (hn : EnvC env nk) (hap : env.cells.Pairwise fun a b => a.2 ≠ b.2) (hd : Dis ns) {D : Addr} (F : FI prog w ρ FA Chk mg mb env nk ns (D :: X) h₀ none st s) {i : Nat} {x : Str} {mo : MO} {Q : Unit → Shared → Prop}
    (hx : ns[i]? = some x) (hk : nk.lookup x = some .local ∨ nk.lookup x = some .cell) (hDf : D ∉ frameA env none) (hDX : D ∉ X) (hD0 : h₀.get? D = none)
    (hc : ∀ G h', (∀ o, s.heap.get? D = some o → h'.get? D = some o) → MuC prog w ρ G h' D mo)
    (hQ : ∀ s', FI prog w ρ FA Chk mg mb env nk ns X h₀ (some D) { vars := clrV st.vars i, mu := some (i, mo) } s' → StepC (env.locals :: cellsA env) s s' → Q () s') : wpAny (model prog w) A (storeName env x (.ref D)) Q E s := by
  have hDb : D ∉ env.locals :: cellsA env := fun h => hDf (frameA_base h)
  refine store hn.fn hap F.pl (hk.imp (hn.loc _) fun h => ⟨hn.cel _ h, hn.cll _ (hn.cel _ h)⟩) fun h' tk hb live hp hh ho => hQ _ ?_ ⟨⟨hb, id, rfl, rfl⟩, live⟩
  have mem : ∀ b, b ∈ frameA env (some D) ++ X ↔ b ∈ frameA env none ++ D :: X := fun b => by
    simp only [List.mem_append, List.mem_cons, mem_frameA, Option.some.injEq, reduceCtorEq, or_false]
    constructor
    · rintro ((h | h) | h)
      · exact .inl h
      · exact .inr (.inl h.symm)
      · exact .inr (.inr h)
    · rintro (h | h | h)
      · exact .inl (.inl h)
      · exact .inl (.inr h.symm)
      · exact .inr h
  have le : Le (view (frameA env none ++ D :: X) s.heap) (view (frameA env (some D) ++ X) h') := fun b o e => by
    obtain ⟨e1, e2⟩ := view_some.mp e
    exact view_some.mpr ⟨fun hm => e1 ((mem b).mp hm), hb b o (fun hm => e1 (List.mem_append_left _ (frameA_base hm))) e2⟩
  exact { stat0 := F.stat0, pl := hp, h0 := But.ext F.h0 hb fun b hb => F.fr0 b (frameA_base hb)
          fr0 := fun b hm => by
            rcases mem_frameA.mp hm with h | h
            · exact F.fr0 b (frameA_base h)
            · cases h; exact hD0
          amX := fun a ha hm => by cases ha; exact hDX hm
          dom := fun b hm => let ⟨o, e⟩ := F.dom b ((mem b).mp hm); live b o e
          vars := fun j y u hj hu => by
            obtain ⟨h1, h2⟩ := getV_clrV hu
            obtain ⟨val, h3, h4⟩ := F.vars j y u hj h1
            exact ⟨val, ho y val (fun e => h2 (hd j i x (e ▸ hj) hx)) h3, h4.mono le⟩
          mu := MuOk.of hx hh hDb (hc _ _ fun o e => hb D o hDb e) }

/-- what a frame turns in place is turned -/
theorem FI.mut {a : Addr} {j : Nat} {mo mo' : MO} (F : FI prog w ρ FA Chk mg mb env nk ns X h₀ (some a) { vars := st.vars, mu := some (j, mo) } s) {s' : Shared} (hs : Heap.SameBut a s.heap s'.heap) (live : ∃ o, s'.heap.get? a = some o)
    (hc : MuC prog w ρ (view (frameA env (some a) ++ X) s'.heap) s'.heap a mo') : FI prog w ρ FA Chk mg mb env nk ns X h₀ (some a) { vars := st.vars, mu := some (j, mo') } s' := by
  obtain ⟨a', x, e1, e2, e3, e4, _⟩ := F.mu.get
  cases e1
  have ha : a ∈ frameA env (some a) := mem_frameA.mpr (.inr rfl)
  have hb : But (frameA env (some a)) s.heap s'.heap := But.of_same hs ha
  have le : Le (view (frameA env (some a) ++ X) s.heap) (view (frameA env (some a) ++ X) s'.heap) := hb.view fun b hb => List.mem_append_left _ hb
  have k : ∀ b ∈ env.locals :: cellsA env, ∀ o, s.heap.get? b = some o → s'.heap.get? b = some o := fun b hb' o e => (hs.2 b fun q => e4 (q ▸ hb')).trans e
  exact { stat0 := F.stat0, pl := F.pl.at k, h0 := But.ext F.h0 hb F.fr0, fr0 := F.fr0, amX := F.amX
          dom := fun b hm => by
            by_cases q : b = a
            · rw [q]; exact live
            · obtain ⟨o, e⟩ := F.dom b hm; exact ⟨o, (hs.2 b q).trans e⟩
          vars := fun i y v h1 h2 => let ⟨val, h3, h4⟩ := F.vars i y v h1 h2; ⟨val, h3.at k, h4.mono le⟩
          mu := MuOk.of e2 (e3.at k) e4 hc }
end
end Mine

set_option linter.unusedVariables false
namespace Mine
open PySem PySem.Calls PyProof.Rows

section
variable (prog : Program) (w : World) (ρ : Nat → Int) (FA : Nat → Addr) (Chk : Heap → Prop) (mg mb : Str → Option Value)
/-- a comprehension whose list is used before its names are let go -/
noncomputable def USnd (r : Rec) (n : Nat) : Prop := ∀ (A : Around) (E : Value → Shared → Prop) (s : Shared) (env : Env) (nk : NK) (ns : List Str) (X : List Addr) (c : Ctx) (elt : ME) (tg : Option Nat) (it : MI) (cond : Option ME) (elte tgte ite : PySem.Expr) (ifse : List PySem.Expr) (scope : Scope) (pc pos : Pos) (u : Value → Sem Unit) (v : AV) (Q : Value → Shared → Prop),
  AOk n A → EnvC env nk → SI prog w ρ FA Chk mg mb env nk ns [] ns X c s → IsE nk ns [] ns (.comp elt tg it cond) (.ListComp elte [⟨tgte, ite, ifse, 0⟩] scope pc) → r.ev c (.comp elt tg it cond) = some v →
  (∀ D C s' m', s.heap.get? D = none → s.heap.get? C = none → D ≠ C → Step s s' → s'.heap.Ns C m' → RepV ρ (view (C :: X) s'.heap) (.ref D) v →
    wpAny (model prog w) A (u (.ref D)) (fun _ s'' => ∃ m, s''.heap.Ns C m ∧ ∀ h', Heap.SameBut C s''.heap h' → Q .none { s'' with heap := h' }) E s') →
  wpAny (model prog w) A (comprehension (.ListComp elte [⟨tgte, ite, ifse, 0⟩] scope pc) scope env pos (newList []) false (eval ite env) (some u)) Q E s
end

section
variable {prog : Program} {w : World} {ρ : Nat → Int} {FA : Nat → Addr} {Chk : Heap → Prop} {mg mb : Str → Option Value}
variable {A : Around} {E : Value → Shared → Prop} {s : Shared} {env : Env} {nk : NK} {ns : List Str} {X : List Addr} {h₀ : Heap} {am : Option Addr} {st : St} {r : Rec} {n : Nat}

theorem u_step (hC : ExtP Chk) (hE : ESnd prog w ρ FA Chk mg mb r n) (hT' : TSnd prog w ρ FA Chk mg mb r n) (ex : St → MS → Option (Option AV × St)) (ca : Nat → List AV → Option AV) : USnd prog w ρ FA Chk mg mb ⟨evS r, ex, ca⟩ (n + 1) := by
  intro A E s env nk ns X c elt tg it cond elte tgte ite ifse scope pc pos u v Q hA' hn I his hv hQ
  have hA := hA'.down
  replace hv : evS r c (.comp elt tg it cond) = some v := hv
  obtain ⟨elte', tgte', ite', ifse', scope', tns, p, he, hT, hI, hElt, hCond, _, _, hkind, hcell, hnames, hfree⟩ := his.compInv
  cases he
  obtain ⟨items, hit, hv⟩ := bd hv
  obtain ⟨hsm, hv⟩ := when_ok hv
  obtain ⟨xs, hxs, hv⟩ := bd hv
  cases hv
  · · · · refine wpAny_comprehension_free (use := some u) rfl (fun x => hI.fold env x) (comp_closure hn hfree) hkind hnames ?_
          refine evI_ok hC hE hA hn I hI hit fun s₂ It fp St ok => ?_
          refine comp_block hC hE hT' hA hn I hT hElt hCond hkind hcell hfree ok hsm hxs (RR := fun acc C => compPost (model prog w) A E (some u) Q acc C) fun D C s' m' hD hCn hDC st hns hpl => ?_
          obtain ⟨ys, ⟨nn, hpl⟩, hrep⟩ := hpl
          have hDX : D ∉ X := fun hm => by obtain ⟨o, ho⟩ := I.dom D hm; rw [hD] at ho; cases ho
          exact hQ D C s' m' hD hCn hDC st hns (.list (view_some.mpr ⟨by simp only [List.mem_cons, not_or]; exact ⟨hDC, hDX⟩, hpl⟩) ⟨rfl, rfl⟩ rfl (hrep.mono (view_sub _ fun b hb => List.mem_cons_of_mem _ hb)))

theorem swaps_true {elte : PySem.Expr} {gens : List Comprehension} {scope : Scope} {x : Str} {p1 pc : Pos} {l : Nat} (hf : env.scope.kind = .function) (hx : env.kindOf x = some .local) (hl : p1.line = pc.line)
    (hno : (scope.names.any fun (n, k) => n == x && (k == .local || k == .cell)) = false) : swapsWith (.ListComp elte gens scope pc) (some (.Name x p1)) l env = pure true := by
  have hbk : env.blockKind = .function := by unfold Env.blockKind; rw [hf]; rfl
  show pure (env.blockKind == .function && env.kindOf x == some .local && p1.line == pc.line && !(scope.names.any fun (n, k) => n == x && (k == .local || k == .cell))) = pure true
  rw [hno, hbk, hx, hl]
  simp

theorem x_assignC (hC : ExtP Chk) (hU : USnd prog w ρ FA Chk mg mb r n) (hA : AOk n A) (hn : EnvC env nk) (hap : env.cells.Pairwise fun a b => a.2 ≠ b.2) (hd : Dis ns) (F : FI prog w ρ FA Chk mg mb env nk ns X h₀ am st s) {i : Nat} {x : Str} {elt : ME} {tg : Option Nat} {it : MI} {cond : Option ME}
    {elte tgte ite : PySem.Expr} {ifse : List PySem.Expr} {scope : Scope} {pc p1 p : Pos} {v : AV} {st' : St} {Q : Flow → Shared → Prop} (hx : ns[i]? = some x) (hk : nk.lookup x = some .local) (he : IsE nk ns [] ns (.comp elt tg it cond) (.ListComp elte [⟨tgte, ite, ifse, 0⟩] scope pc))
    (hl1 : p1.line = pc.line) (hno : (scope.names.any fun (n, k) => n == x && (k == .local || k == .cell)) = false) (hv : r.ev (cx st) (.comp elt tg it cond) = some v) (ht : tg1 i st v = some st')
    (hQ : ∀ s', FI prog w ρ FA Chk mg mb env nk ns X h₀ am st' s' → StepC (frameA env am) s s' → Q .next s') : wpAny (model prog w) A (exec (.Assign [.Name x p1] (.ListComp elte [⟨tgte, ite, ifse, 0⟩] scope pc) p) env) Q E s := by
  rw [exec_Assign_Name_used _ _ _ _ (swaps_true hn.fn (hn.loc _ hk) hl1 hno)]
  refine wpAny_bind (wpAny_standAt (wpAny_bind ?_))
  show wpAny _ A (do let _ ← comprehension (.ListComp elte [⟨tgte, ite, ifse, 0⟩] scope pc) scope env _ (newList []) false (eval ite env) (some (assign (.Name x p1) env))) _ _ s
  refine wpAny_bind (wpAny_mono (hU A E s env nk ns (frameA env am ++ X) (cx st) elt tg it cond elte tgte ite ifse scope pc _ _ v (fun _ s' => Q .next s') hA hn (F.si hC hd) he hv ?_) (fun _ s' hq => wpAny_pure (wpAny_pure hq)) fun _ _ e => e)
  intro D C s' m' hD hCn hDC st1 hns hr
  have off := F.off0 hCn
  have hC0 := none_before F.h0 hCn
  have F1 : FI prog w ρ FA Chk mg mb env nk ns (C :: X) h₀ am st s' := F.to st1.heap (fun b hb => by
    rcases List.mem_cons.mp hb with rfl | hb
    · exact .inr hCn
    · exact .inl hb) fun b hb => by
    rcases List.mem_cons.mp hb with rfl | hb
    · obtain ⟨o, _, _, ho, _⟩ := hns; exact ⟨o, ho⟩
    · exact F.dom.mono st1.heap b (List.mem_append_right _ hb)
  refine wpAny_assign_Name (F1.set hn hap hd hx (.inl hk) (hr.mono (view_sub _ fun b hb => by
    simp only [List.mem_cons, List.mem_append] at hb ⊢
    rcases hb with h | h | h
    · exact .inr (.inl h)
    · exact .inl h
    · exact .inr (.inr h))) ht fun s2 F2 c2 => ?_)
  refine ⟨m', hns.at' fun o e => c2.b.heap C o (fun hm => off.1 (frameA_base hm)) e, fun h' hs' => ?_⟩
  have hb : But [C] s2.heap h' := But.of_same hs' (by simp)
  refine hQ _ (F2.drop (s' := { s2 with heap := h' }) hb off.1 off.2 hC0) ⟨⟨fun b o hbf e => ?_, fun g => c2.b.gens (st1.gens g), c2.b.drawn.trans st1.drawn, c2.b.os.trans st1.os⟩, fun b o e => ?_⟩
  · have hbC : b ≠ C := fun q => by rw [q, hCn] at e; cases e
    exact hb b o (by simpa using hbC) (c2.b.heap b o (fun hm => hbf (frameA_base hm)) (st1.heap b o e))
  · have hbC : b ≠ C := fun q => by rw [q, hCn] at e; cases e
    obtain ⟨o', e'⟩ := c2.live b o (st1.heap b o e)
    exact ⟨o', hb b o' (by simpa using hbC) e'⟩

theorem x_newT (hC : ExtP Chk) (hE : ESnd prog w ρ FA Chk mg mb r n) (hA : AOk n A) (hn : EnvC env nk) (hap : env.cells.Pairwise fun a b => a.2 ≠ b.2) (hd : Dis ns) (F : FI prog w ρ FA Chk mg mb env nk ns X h₀ none st s) (hmu : st.mu = none) {i j : Nat} {x y : Str} {m : ME} {e : PySem.Expr}
    {k k2 : Nat} {p1 p2 p3 p4 p5 p : Pos} {v : AV} {Q : Flow → Shared → Prop} (hx : ns[i]? = some x) (hy : ns[j]? = some y) (hkx : nk.lookup x = some .local ∨ nk.lookup x = some .cell) (hky : nk.lookup y = some .cell) (he : IsE nk ns [] ns m e)
    (hw : swappedStores [.Tuple [.Name x p1, .Name y p2] k p3] (.Tuple [e, .Dict [] [] p4] k2 p5) env = pure none) (hv : r.ev (cx st) m = some v)
    (hQ : ∀ s' D, s.heap.get? D = none → FI prog w ρ FA Chk mg mb env nk ns X h₀ (some D) { vars := clrV (setV v st.vars i) j, mu := some (j, .tab []) } s' → StepC (frameA env none) s s' → Q .next s') :
    wpAny (model prog w) A (exec (.Assign [.Tuple [.Name x p1, .Name y p2] k p3] (.Tuple [e, .Dict [] [] p4] k2 p5) p) env) Q E s := by
  refine Assign_Tuple (wpAny_Tuple (args_cons (hE _ _ _ _ _ _ _ _ _ _ _ _ _ _ hA hn (F.si hC hd) he hv fun s1 v1 st1 r1 => args_cons (wpAny_Dict_empty (args_nil ?_)) rfl) (he.star _ _))) (hw := hw)
  refine ⟨by rw [sizeLine_eq]; simp, ?_⟩
  have hfr1 : s1.heap.get? s1.heap.objs.size = none := none_of_size (Nat.le_refl _)
  have hfr := none_before st1.heap hfr1
  have off := F.off0 hfr
  have hD0 := none_before F.h0 hfr
  generalize hDD : s1.heap.objs.size = D at *
  have hdict : (s1.heap.push { cls := .type "dict", data := .dict #[] }).get? D = some { cls := .type "dict", data := .dict #[] } := hDD ▸ Heap.get?_push_size _ rfl
  refine assign_Tuple_tuple hA.hh ⟨_, Heap.get?_push_size _ rfl, rfl, _, rfl⟩ rfl rfl fun h4 he4 => ?_
  have e14 : Ext s1.heap h4 := fun b o e => he4 b o (Nat.ne_of_lt (Heap.lt_size (Heap.get?_push_of_some _ (Heap.get?_push_of_some _ e)))) (Heap.get?_push_of_some _ (Heap.get?_push_of_some _ e))
  have hdict4 : h4.get? D = some { cls := .type "dict", data := .dict #[] } := he4 _ _ (Nat.ne_of_lt (Heap.lt_size (Heap.get?_push_of_some _ hdict))) (Heap.get?_push_of_some _ hdict)
  have st4 : Step s { s1 with heap := h4 } := ⟨st1.heap.trans e14, st1.gens, st1.drawn, st1.os⟩
  have F4 : FI prog w ρ FA Chk mg mb env nk ns (D :: X) h₀ none st { s1 with heap := h4 } := F.to st4.heap (fun b hb => by
    rcases List.mem_cons.mp hb with rfl | hb
    · exact .inr hfr
    · exact .inl hb) fun b hb => by
    rcases List.mem_cons.mp hb with rfl | hb
    · exact ⟨_, hdict4⟩
    · exact F.dom.mono st4.heap b (List.mem_append_right _ hb)
  have ht : tg1 i st v = some { st with vars := setV v st.vars i } := by
    unfold tg1 okI
    rw [hmu]
    rfl
  refine assignInOrder_cons (wpAny_assign_Name (F4.set hn hap hd hx hkx (r1.mono (view_new e14 fun b hb => by
    simp only [List.mem_append, List.mem_cons] at hb ⊢
    rcases hb with h | h | h
    · exact .inl (.inl h)
    · exact .inr (h ▸ hfr1)
    · exact .inl (.inr h))) ht fun s5 F5 c5 => ?_))
  refine assignInOrder_cons (wpAny_assign_Name (F5.new hn hap hd hy (.inr hky) off.1 off.2 hD0 (mo := .tab []) (fun G h' kk => ?_) fun s6 F6 c6 => assignInOrder_nil ?_))
  · have := kk _ (c5.b.heap D _ (fun hm => off.1 (frameA_base hm)) hdict4)
    exact ⟨_, _, _, [], this, ⟨rfl, rfl, rfl⟩, rfl, rfl, List.nodup_nil, fun x hx => (nomatch hx), .nil⟩
  · exact hQ s6 D hfr F6 ((st4.c _).trans ((c5.trans c6).mono fun b hb => frameA_base hb))
end
end Mine

set_option linter.unusedVariables false
namespace Mine
open PySem PySem.Calls PyProof.Rows

section
variable {prog : Program} {w : World} {ρ : Nat → Int} {FA : Nat → Addr} {Chk : Heap → Prop} {mg mb : Str → Option Value}
variable {A : Around} {E : Value → Shared → Prop} {s : Shared} {env : Env} {nk : NK} {ns : List Str} {X : List Addr} {h₀ : Heap} {am : Option Addr} {st : St} {r : Rec} {n : Nat}

theorem x_setTab (hC : ExtP Chk) (hE : ESnd prog w ρ FA Chk mg mb r n) (hA : AOk n A) (hn : EnvC env nk) (hd : Dis ns) (F : FI prog w ρ FA Chk mg mb env nk ns X h₀ am st s) {j : Nat} {x : Str} {a b m : ME} {ea eb e : PySem.Expr} {k : Nat} {p1 p2 p3 p : Pos} {es : List ((Int × Int) × AV)} {xi yi : Int} {v : AV} {e0 : SE} {Q : Flow → Shared → Prop}
    (hx : ns[j]? = some x) (hdb : (x == ("__debug__" : Str)) = false) (ha : IsE nk ns [] ns a ea) (hb : IsE nk ns [] ns b eb) (he : IsE nk ns [] ns m e) (hsw : swapsWith e (some (.Subscript (.Name x p1) (.Tuple [ea, eb] k p2) p3)) p.line env = pure false)
    (hmu : st.mu = some (j, .tab es)) (h1 : r.ev (cx st) a = some (.int xi)) (h2 : r.ev (cx st) b = some (.int yi)) (h3 : r.ev (cx st) m = some v) (hs : small es.length = true) (hv : v.sym? = some e0) (hno : lookT xi yi es = none)
    (hQ : ∀ s', FI prog w ρ FA Chk mg mb env nk ns X h₀ am { st with mu := some (j, .tab (es ++ [((xi, yi), v)])) } s' → StepC (frameA env am) s s' → Q .next s') :
    wpAny (model prog w) A (exec (.Assign [.Subscript (.Name x p1) (.Tuple [ea, eb] k p2) p3] e p) env) Q E s := by
  obtain ⟨vars, mu⟩ := st
  dsimp only at hmu
  subst hmu
  have I := F.si hC hd
  have ev1 : ∀ {E : Value → Shared → Prop} {s : Shared} {m : ME} {e : PySem.Expr} {v : AV} {Q : Value → Shared → Prop}, SI prog w ρ FA Chk mg mb env nk ns [] ns (frameA env am ++ X) (cx ⟨vars, some (j, .tab es)⟩) s → IsE nk ns [] ns m e → r.ev (cx ⟨vars, some (j, .tab es)⟩) m = some v → Out ρ (frameA env am ++ X) s v Q → wpAny (model prog w) A (eval e env) Q E s :=
    fun I h hv hQ => hE _ _ _ _ _ _ _ _ _ _ _ _ _ _ hA hn I h hv hQ
  refine wpAny_Assign_Subscript (ev1 I he h3 fun s1 v1 st1 r1 => ?_) (hs := hsw)
  obtain ⟨t, y, e1, e2, e3, e4, T⟩ := F.mu.get
  subst e1
  rw [hx] at e2
  cases e2
  refine wpAny_Name ((e3.mono st1.heap).load hn.fn ?_) hdb
  have I1 := I.step hC st1
  refine wpAny_Tuple (args_cons (ev1 I1 ha h1 fun s2 v2 st2 r2 => args_cons (ev1 (I1.step hC st2) hb h2 fun s3 v3 st3 r3 => args_nil ?_) (hb.star _ _)) (ha.star _ _))
  cases r2 with | int _ t2 => cases r3 with | int _ t3 =>
  refine ⟨by rw [sizeLine_eq]; simp, ?_⟩
  have hfr : s3.heap.get? s3.heap.objs.size = none := none_of_size (Nat.le_refl _)
  have hkobj : (s3.heap.push { cls := .type "tuple", data := .seq [Value.int xi t2, Value.int yi t3].toArray }).get? s3.heap.objs.size = some { cls := .type "tuple", data := .seq [Value.int xi t2, Value.int yi t3].toArray } := Heap.get?_push_size _ rfl
  generalize hKA : s3.heap.objs.size = ka at *
  generalize hH4 : s3.heap.push { cls := .type "tuple", data := .seq [Value.int xi t2, Value.int yi t3].toArray } = h4 at *
  have e34 : Ext s3.heap h4 := hH4 ▸ Ext.push _ _
  have st4 : Step s { s3 with heap := h4 } := ((st1.trans st2).trans st3).trans (Step.of (tk := s3.toks) e34)
  have F4 := F.step st4
  obtain ⟨t', y', q1, q2, q3, q4, T4⟩ := F4.mu.get
  cases q1
  obtain ⟨xs, hd4, R, hki⟩ := T4.dict (fun b o => view_get)
  have hitems : ItemsAre (intKind prog w) [xi, yi] [Value.int xi t2, Value.int yi t3] := .cons (intKind_is _ _ _ _) (.cons (intKind_is _ _ _ _) .nil)
  have hkey : IsTupleKey (intKind prog w) h4 [xi, yi] ka := ⟨_, _, _, hkobj, rfl, rfl, hitems⟩
  have hlen := R.length
  have hsm := small_iff hs
  refine wpAny_setItem_heap (s := { s3 with heap := h4 }) (tupleKind_room_in1 (by have := hA.room; omega)) hkey hd4 (fun h5 hd5 hs5 => ?_) (by rw [sizeLine_eq]; omega)
  rw [storedH_new (R.miss hno)] at hd5
  have hta : t ∈ frameA env (some t) := mem_frameA.mpr (.inr rfl)
  have hbut : But (frameA env (some t)) h4 h5 := But.of_same hs5 hta
  have le : Le (view (frameA env (some t) ++ X) h4) (view (frameA env (some t) ++ X) h5) := hbut.view fun b hb => List.mem_append_left _ hb
  have hkoff := F.off0 (none_before ((st1.trans st2).trans st3).heap hfr)
  have hkne : ka ≠ t := fun q => hkoff.1 (q ▸ hta)
  have hkv : view (frameA env (some t) ++ X) h5 ka = some { cls := .type "tuple", data := .seq [Value.int xi t2, Value.int yi t3].toArray } :=
    view_some.mpr ⟨fun hm => (List.mem_append.mp hm).elim hkoff.1 hkoff.2, (hs5.2 ka hkne).trans hkobj⟩
  obtain ⟨o5, es5, ep5, g1, g2, g3, g4, g5, g6⟩ := hd5
  have live : ∀ b o, h4.get? b = some o → ∃ o', h5.get? b = some o' := fun b o e => by
    by_cases q : b = t
    · exact ⟨o5, q ▸ g1⟩
    · exact ⟨o, (hs5.2 b q).trans e⟩
  refine hQ _ (F4.mut (st := ⟨vars, none⟩) (s' := { s3 with heap := h5, toks := _ }) (mo' := .tab (es ++ [((xi, yi), v)])) hs5 ⟨o5, g1⟩ ⟨o5, es5, ep5, _, g1, g2, g3, g4, g6, fun z hz => ?_, R.snoc (sym_bare r1 hv)⟩) ((st4.c _).trans ⟨⟨hbut, id, rfl, rfl⟩, live⟩)
  rcases List.mem_append.mp hz with hz | hz
  · exact (hki z hz).mono le
  · rw [List.mem_singleton] at hz
    subst hz
    exact ⟨_, _, _, hkv, rfl, rfl, hitems⟩

theorem x_forItems (hC : ExtP Chk) (hA : AOk n A) (hn : EnvC env nk) (F : FI prog w ρ FA Chk mg mb env nk ns X h₀ am st s) {i : Nat} {x xk xv : Str} {bs : List Stmt} {k : Nat} {pk pv pt p1 p2 p3 p : Pos} {Q : Flow → Shared → Prop}
    (hx : ns[i]? = some x) (hdb : (x == ("__debug__" : Str)) = false) (hline : p2.endLine = p3.line) (hv : getV st.vars i = some .edict)
    (hQ : ∀ s', Step s s' → Q .next s') :
    wpAny (model prog w) A (exec (.For (.Tuple [.Name xk pk, .Name xv pv] k pt) (.Call (.Attribute (.Name x p1) ("items" : Str) p2) [] [] p3) bs [] p) env) Q E s := by
  obtain ⟨val, hh, hr⟩ := F.vars i x _ hx hv
  cases hr with
  | edict ho hsys =>
    rename_i a
    have hm : s.heap.DictAt (strKind prog w) a [] 0 := ⟨_, _, view_get ho, ⟨rfl, rfl, rfl⟩, rfl, fun e he => by simp at he, .nil, List.nodup_nil⟩
    refine wpAny_For (wpAny_Call_items (knd := strKind prog w) hsys hm.dictOf rfl (by simp [hline]) (fun Q' hq => wpAny_Name (hh.load hn.fn hq) hdb) ?_) (fun _ => rfl)
    refine wpAny_pyIter_items (knd := strKind prog w) (d := a) (kvs := []) (ep := 0) ⟨_, Heap.get?_push_size _ rfl, rfl, rfl⟩ (hm.push _) ?_
    have loop : ∀ (s2 : Shared) (it : Addr), IsItemIter s2.heap it a 0 ([] : List (Str × Value)).length 0 .none .none → s2.heap.DictAt (strKind prog w) a [] 0 → Step s s2 → s.heap.get? it = none →
        codeAny (model prog w) A (.forLoop (.Tuple [.Name xk pk, .Name xv pv] k pt) (.ref it) bs [] env) (fun r s' => match r with | .ok f => Q f s' | .error e => cameBackBy (model prog w) A env E e s') s2 := by
      intro s2 it hi hm2 st2 hno
      refine codeAny_forLoop_any (fun k s' => s' = s2) (fun k s' hs => ?_) 0 rfl
      subst hs
      refine wpAny_pyNext_items_end hA.hh hi hm2 rfl fun h' he' => ?_
      refine wpAny_execs_nil (hQ _ ⟨fun b o e => he' b o (fun q => by rw [q, hno] at e; cases e) (st2.heap b o e), st2.gens, st2.drawn, st2.os⟩)
    refine loop _ _ (Heap.get?_push_size _ rfl) ((hm.push _).push _) (Step.of (tk := s.toks) ((Ext.push _ _).trans (Ext.push _ _))) (none_before (Ext.push _ _) (none_of_size (Nat.le_refl _)))
end
end Mine

set_option linter.unusedVariables false
namespace Mine
open PySem PySem.Calls PyProof.Rows

section
variable {prog : Program} {w : World} {ρ : Nat → Int} {FA : Nat → Addr} {Chk : Heap → Prop} {mg mb : Str → Option Value}
variable {r : Rec} {n : Nat}

theorem x_step (hC : ExtP Chk) (hE : ESnd prog w ρ FA Chk mg mb r n) (hT : TSnd prog w ρ FA Chk mg mb r n) (hX : XSnd prog w ρ FA Chk mg mb r n) (hU : USnd prog w ρ FA Chk mg mb r n)
    (ev : Ctx → ME → Option AV) (ca : Nat → List AV → Option AV) : XSnd prog w ρ FA Chk mg mb ⟨ev, exS r, ca⟩ (n + 1) := by
  intro A E s env nk ns X h₀ am st m e fl st' Q hA' hn hap hd F his hv hQ
  have hA := hA'.down
  replace hv : exS r st m = some (fl, st') := hv
  have I := F.si hC hd
  have ev1 : ∀ {E : Value → Shared → Prop} {s : Shared} {m : ME} {e : PySem.Expr} {v : AV} {Q : Value → Shared → Prop}, SI prog w ρ FA Chk mg mb env nk ns [] ns (frameA env am ++ X) (cx st) s → IsE nk ns [] ns m e → r.ev (cx st) m = some v → Out ρ (frameA env am ++ X) s v Q → wpAny (model prog w) A (eval e env) Q E s :=
    fun I h hv hQ => hE _ _ _ _ _ _ _ _ _ _ _ _ _ _ hA hn I h hv hQ
  have base : ∀ {s s' : Shared}, StepC (env.locals :: cellsA env) s s' → StepC (frameA env am) s s' := fun c => c.mono fun b hb => frameA_base hb
  cases his.inv with
  | assign p1 p hx hk he hsw =>
    obtain ⟨v, h1, hv⟩ := bd hv
    obtain ⟨h2, rfl⟩ := nxt_ok hv
    refine wpAny_Assign_Name (ev1 I he h1 fun s1 v1 st1 r1 => ?_) (hs := hsw _ _ hn.toEnvN)
    exact (F.step st1).set hn hap hd hx hk r1 h2 fun s2 F2 c2 => hQ s2 am .next F2 AmR.refl ((st1.c _).trans (base c2)) rfl
  | assignC p1 p hx hk he hl1 hl2 hno =>
    obtain ⟨v, h1, hv⟩ := bd hv
    obtain ⟨h2, rfl⟩ := nxt_ok hv
    exact x_assignC hC hU hA hn hap hd F hx hk he hl1 hno h1 h2 fun s2 F2 c2 => hQ s2 am .next F2 AmR.refl c2 rfl
  | assignT k p1 p hi he hsw hsw2 =>
    obtain ⟨v, h1, hv⟩ := bd hv
    obtain ⟨h2, rfl⟩ := nxt_ok hv
    refine Assign_Tuple (ev1 I he h1 fun s1 v1 st1 r1 => ?_) (hs := hsw _ _) (hw := hsw2 env hn.toEnvN)
    exact tuple_set hn hap hd hA.hh hi (F.step st1) r1 h2 fun s2 F2 c2 => hQ s2 am .next F2 AmR.refl ((st1.c _).trans (base c2)) rfl
  | newL p1 p2 p hx hk =>
    obtain ⟨hmu, hv⟩ := when_ok hv
    have hmu := Option.isNone_iff_eq_none.mp hmu
    cases hv
    have hm := F.mu
    rw [hmu] at hm
    obtain rfl : am = none := hm
    refine wpAny_Assign_Name (wpAny_List (args_nil ⟨by rw [sizeLine_eq]; simp, ?_⟩))
    have hfr : s.heap.get? s.heap.objs.size = none := none_of_size (Nat.le_refl _)
    have off := F.off0 hfr
    have hD0 := none_before F.h0 hfr
    have st1 : Step s { s with heap := s.heap.push { cls := .type "list", data := .seq ([] : List Value).toArray } } := Step.of (tk := s.toks) (Ext.push _ _)
    have F1 : FI prog w ρ FA Chk mg mb env nk ns (s.heap.objs.size :: X) h₀ none st { s with heap := s.heap.push { cls := .type "list", data := .seq ([] : List Value).toArray } } := F.to (Ext.push _ _) (fun b hb => by
      rcases List.mem_cons.mp hb with rfl | hb
      · exact .inr hfr
      · exact .inl hb) fun b hb => by
      rcases List.mem_cons.mp hb with rfl | hb
      · exact ⟨_, Heap.get?_push_size _ rfl⟩
      · exact (F.dom.mono (Ext.push _ _)) b (List.mem_append_right _ hb)
    refine F1.new hn hap hd hx hk off.1 off.2 hD0 (mo := .lst []) (fun G h' k => ⟨#[], ⟨0, k _ (Heap.get?_push_size _ rfl)⟩, .nil⟩) fun s2 F2 c2 => ?_
    exact hQ s2 (some s.heap.objs.size) .next F2 (.inr ⟨rfl, _, rfl, hfr⟩) ((st1.c _).trans (base c2)) rfl
  | newT k k2 p1 p2 p3 p4 p5 p hx hy hkx hky he =>
    obtain ⟨v, h1, hv⟩ := bd hv
    obtain ⟨hmu, hv⟩ := when_ok hv
    have hmu := Option.isNone_iff_eq_none.mp ((Bool.and_eq_true _ _).mp hmu).1
    cases hv
    have hm := F.mu
    rw [hmu] at hm
    obtain rfl : am = none := hm
    exact x_newT hC hE hA hn hap hd F hmu hx hy hkx hky he (swapped_two hn.fn (hn.cel _ hky)) h1 fun s2 D hD F2 c2 => hQ s2 (some D) .next F2 (.inr ⟨rfl, D, rfl, hD⟩) c2 rfl
  | app p1 p2 p3 p hx hdb hline he =>
    obtain ⟨v, h1, hv⟩ := bd hv
    obtain ⟨j, xs, hmu, hv⟩ := onMl_ok hv
    obtain ⟨hc, hv⟩ := when_ok hv
    have hc := (Bool.and_eq_true _ _).mp hc
    cases hv
    have hij := Nat.eq_of_beq_eq_true hc.1
    subst hij
    obtain ⟨vars, mu⟩ := st
    dsimp only at hmu
    subst hmu
    obtain ⟨a, x, e1, e2, e3, e4, ys, e5, e6⟩ := F.mu.get
    subst e1
    rw [hx] at e2
    cases e2
    refine wpAny_Expr_any (wpAny_Call_append rfl (by rw [he.star]; rfl) (by simp [hline]) (by rw [he.star]; rfl) (wpAny_Name (e3.load hn.fn ?_) hdb)) (by unfold interactive; rw [hn.fn]; rfl)
    refine ⟨a, ys, rfl, let ⟨nn, h⟩ := e5; ⟨_, nn, h, rfl, rfl, rfl⟩, ev1 I he h1 fun s1 v1 st1 r1 => ?_⟩
    have e5' : s1.heap.PlainList a ys := e5.at fun o e => st1.heap _ o e
    have hlen := e6.length
    have hsm := small_iff hc.2
    refine wpAny_list_append_plain e5' (fun h' hpl hs => ?_) (by rw [sizeLine_eq]; simp at hlen; omega)
    have F1 := F.step st1
    have ha : a ∈ frameA env (some a) := mem_frameA.mpr (.inr rfl)
    have hb : But (frameA env (some a)) s1.heap h' := But.of_same hs ha
    have le : Le (view (frameA env (some a) ++ X) s1.heap) (view (frameA env (some a) ++ X) h') := hb.view fun b hb => List.mem_append_left _ hb
    have live : ∀ b o, s1.heap.get? b = some o → ∃ o', h'.get? b = some o' := fun b o e => by
      by_cases q : b = a
      · obtain ⟨nn, hq⟩ := hpl; exact ⟨_, q ▸ hq⟩
      · exact ⟨o, (hs.2 b q).trans e⟩
    refine hQ { s1 with heap := h' } (some a) .next (F1.mut (st := ⟨vars, none⟩) (mo' := .lst (xs ++ [v])) hs (let ⟨nn, hq⟩ := hpl; ⟨_, hq⟩) ⟨ys.push v1, hpl, ?_⟩) AmR.refl ((st1.c _).trans ⟨⟨hb, id, rfl, rfl⟩, live⟩) rfl
    rw [Array.toList_push]
    exact ((e6.mono (st1.heap.view _)).mono le).snoc (r1.mono le)
  | setTab k p1 p2 p3 p hx hdb ha hb he hsw =>
    obtain ⟨v, h3, hv⟩ := bd hv
    obtain ⟨xi, yi, h1, h2, hv⟩ := bini_ok hv
    obtain ⟨j', es, hmu, hv⟩ := onMt_ok hv
    obtain ⟨hc, hv⟩ := when_ok hv
    obtain ⟨e0, hs0, hv⟩ := bd hv
    cases hv
    have hc := (Bool.and_eq_true _ _).mp hc
    have hc2 := (Bool.and_eq_true _ _).mp hc.2
    have hij := Nat.eq_of_beq_eq_true hc.1
    subst hij
    exact x_setTab hC hE hA hn hd F hx hdb ha hb he (hsw _ _) hmu h1 h2 h3 hc2.1 hs0 (Option.isNone_iff_eq_none.mp hc2.2) fun s2 F2 c2 => hQ s2 am .next F2 AmR.refl c2 rfl
  | iff p hc hb =>
    obtain ⟨t, h1, hv⟩ := onB_ok hv
    refine wpAny_If (hT _ _ _ _ _ _ _ _ _ _ _ _ _ _ hA hn I hc h1 fun s1 st1 => ?_)
    cases t
    · cases hv
      rw [if_neg Bool.false_ne_true]
      exact wpAny_execs_nil (hQ s1 am .next (F.step st1) AmR.refl (st1.c _) rfl)
    · rw [if_pos rfl]
      exact xs_ok hX _ _ _ _ _ _ _ _ _ _ _ _ _ _ _ hA hn hap hd (F.step st1) hb hv fun s2 am2 f F2 a2 c2 fo => hQ s2 am2 f F2 (AmR.trans (AmR.refl (s := s)) a2 fun a e => none_before st1.heap e) ((st1.c _).trans c2) fo
  | for1 p1 p hx hk hI hb =>
    obtain ⟨items, h1, hv⟩ := bd hv
    refine wpAny_For (evI_ok hC hE hA hn I hI h1 fun s₂ It fp St' ok => ?_) (fun x => hI.fold env x)
    exact for_ok (R := fun r s' => match r with | .ok f => Q f s' | .error e => cameBackBy (model prog w) A env E e s') hX hA hn hap hd (tg_one hn hap hd hx hk) F hb ok hv hQ
  | forT k p1 p hi hI hb =>
    obtain ⟨items, h1, hv⟩ := bd hv
    refine wpAny_For (evI_ok hC hE hA hn I hI h1 fun s₂ It fp St' ok => ?_) (fun x => hI.fold env x)
    exact for_ok (R := fun r s' => match r with | .ok f => Q f s' | .error e => cameBackBy (model prog w) A env E e s') hX hA hn hap hd (tg_tup hn hap hd hA.hh hi) F hb ok hv hQ
  | forItems k pk pv pt p1 p2 p3 p hx hdb hk hkv hline =>
    obtain ⟨v, h1, hv⟩ := bd hv
    obtain ⟨h2, hv⟩ := when_ok hv
    cases hv
    obtain rfl := AV.isEd_ok h2
    exact x_forItems hC hA hn F hx hdb hline h1 fun s2 st2 => hQ s2 am .next (F.step st2) AmR.refl (st2.c _) rfl
  | ret p he =>
    obtain ⟨v, h1, hv⟩ := bd hv
    cases hv
    exact wpAny_Return_some (ev1 I he h1 fun s1 v1 st1 r1 => hQ s1 am _ (F.step st1) AmR.refl (st1.c _) ⟨v1, rfl, r1.mono (view_sub _ fun b hb => List.mem_append_right _ hb)⟩)
  | retM p1 p hx hdb =>
    obtain ⟨j, xs, hmu, hv⟩ := onMl_ok hv
    obtain ⟨hc, hv⟩ := when_ok hv
    cases hv
    have hij := Nat.eq_of_beq_eq_true hc
    subst hij
    have hm := F.mu
    rw [hmu] at hm
    obtain ⟨a, x, e1, e2, e3, e4, ys, ⟨nn, e5⟩, e6⟩ := hm.get
    subst e1
    rw [hx] at e2
    cases e2
    refine wpAny_Return_some (wpAny_Name (e3.load hn.fn ?_) hdb)
    refine hQ s (some a) _ F AmR.refl ((Step.refl s).c _) ⟨.ref a, rfl, .list (view_some.mpr ⟨F.amX a rfl, e5⟩) ⟨rfl, rfl⟩ rfl (e6.mono (view_sub _ fun b hb => List.mem_append_right _ hb))⟩
end
end Mine

set_option linter.unusedVariables false
namespace Mine
open PySem PySem.Calls PyProof.Rows

theorem AOk.deeper {n : Nat} {A : Around} (a : AOk (n + 1) A) (env : Env) : AOk n (A.deeper env) := ⟨a.hh, by have := a.depth; show A.depth + 1 + n + 20 < _; omega, by have := a.units; show A.units + 3 + 3 * n + 100 < _; omega⟩

theorem cells_acc : ∀ (names : List (Str × NameKind)) (a : Nat) (acc : List (Str × Addr)), ∀ p ∈ acc, p ∈ cellsFrom a names acc
  | [], a, acc, p, h => h
  | (n, k) :: r, a, acc, p, h => by
    unfold cellsFrom
    split
    · exact cells_acc r _ _ p (List.mem_cons_of_mem _ h)
    · exact cells_acc r _ _ p h
theorem cells_has : ∀ (names : List (Str × NameKind)) (a : Nat) (acc : List (Str × Addr)) (x : Str), (x, NameKind.cell) ∈ names → ∃ c, (x, c) ∈ cellsFrom a names acc
  | [], a, acc, x, h => nomatch h
  | (n, k) :: r, a, acc, x, h => by
    unfold cellsFrom
    rcases List.mem_cons.mp h with h | h
    · cases h
      exact ⟨a, by show _ ∈ cellsFrom (a + 1) r ((_, a) :: acc); exact cells_acc r _ _ _ List.mem_cons_self⟩
    · split
      · exact cells_has r _ _ x h
      · exact cells_has r _ _ x h
theorem lookup_some_of_mem {β : Type} : ∀ {l : List (Str × β)} {x : Str} {c : β}, (x, c) ∈ l → (l.lookup x).isSome = true
  | [], x, c, h => nomatch h
  | (n, b) :: r, x, c, h => by
    simp only [List.lookup_cons]
    split
    · rfl
    · rename_i e
      rcases List.mem_cons.mp h with h | h
      · cases h; simp at e
      · exact lookup_some_of_mem h
theorem cells_some {names : List (Str × NameKind)} {a : Nat} {x : Str} (h : names.lookup x = some .cell) : ((cellsFrom a names []).lookup x).isSome = true :=
  let ⟨_, hc⟩ := cells_has names a [] x (lookup_mem h); lookup_some_of_mem hc
theorem cells_nodup : ∀ (names : List (Str × NameKind)) (a : Nat) (acc : List (Str × Addr)), (names.map (·.1)).Nodup → (acc.map (·.1)).Nodup → (∀ x ∈ acc.map (·.1), x ∉ names.map (·.1)) → ((cellsFrom a names acc).map (·.1)).Nodup
  | [], a, acc, _, h, _ => h
  | (n, k) :: r, a, acc, hn, h, hd => by
    unfold cellsFrom
    simp only [List.map_cons, List.nodup_cons] at hn
    split
    · refine cells_nodup r _ _ hn.2 ?_ ?_
      · simp only [List.map_cons, List.nodup_cons]
        exact ⟨fun hm => hd n hm (by simp), h⟩
      · intro x hx
        simp only [List.map_cons, List.mem_cons] at hx
        rcases hx with rfl | hx
        · exact hn.1
        · exact fun hm => hd x hx (by simp only [List.map_cons, List.mem_cons]; exact .inr hm)
    · exact cells_nodup r _ _ hn.2 h fun x hx hm => hd x hx (by simp only [List.map_cons, List.mem_cons]; exact .inr hm)
theorem lookup_nodup {β : Type} : ∀ {l : List (Str × β)} {x : Str} {c : β}, (l.map (·.1)).Nodup → (x, c) ∈ l → l.lookup x = some c
  | [], x, c, _, h => nomatch h
  | (n, b) :: r, x, c, hn, h => by
    simp only [List.map_cons, List.nodup_cons] at hn
    simp only [List.lookup_cons]
    rcases List.mem_cons.mp h with h2 | h2
    · cases h2; simp
    · have : (x == n) = false := by
        rw [beq_eq_false_iff_ne]
        intro e
        exact hn.1 (List.mem_map.mpr ⟨(x, c), h2, e⟩)
      rw [this]
      exact lookup_nodup hn.2 h2

theorem bindL_get {kindOf : Str → Option NameKind} {x : Str} {v : Value} (hl : kindOf x = some .local) : ∀ {binds : List (Str × Value)} {m : Str → Option Value}, (binds.map (·.1)).Nodup → (x, v) ∈ binds ∨ (x ∉ binds.map (·.1) ∧ m x = some v) → bindL kindOf binds m x = some v
  | [], m, _, h => by rcases h with h | h; cases h; exact h.2
  | (n, u) :: r, m, hn, h => by
    simp only [List.map_cons, List.nodup_cons] at hn
    unfold bindL
    refine bindL_get hl hn.2 ?_
    rcases h with h | ⟨h1, h2⟩
    · rcases List.mem_cons.mp h with h | h
      · cases h
        exact .inr ⟨hn.1, by rw [if_pos hl]; simp⟩
      · exact .inl h
    · simp only [List.map_cons, List.mem_cons, not_or] at h1
      refine .inr ⟨h1.2, ?_⟩
      split
      · simp [h1.1, h2]
      · exact h2
theorem bindC_get {kindOf : Str → Option NameKind} {x : Str} {v : Value} (hl : kindOf x ≠ some .local) : ∀ {binds : List (Str × Value)} {m : Str → Option Value}, (binds.map (·.1)).Nodup → (x, v) ∈ binds ∨ (x ∉ binds.map (·.1) ∧ m x = some v) → bindC kindOf binds m x = some v
  | [], m, _, h => by rcases h with h | h; cases h; exact h.2
  | (n, u) :: r, m, hn, h => by
    simp only [List.map_cons, List.nodup_cons] at hn
    unfold bindC
    refine bindC_get hl hn.2 ?_
    rcases h with h | ⟨h1, h2⟩
    · rcases List.mem_cons.mp h with h | h
      · cases h
        exact .inr ⟨hn.1, by rw [if_neg hl]; simp⟩
      · exact .inl h
    · simp only [List.map_cons, List.mem_cons, not_or] at h1
      refine .inr ⟨h1.2, ?_⟩
      split
      · exact h2
      · simp [h1.1, h2]
theorem zip_names : ∀ (names : List Str) (n : Nat) (vals : List Value), vals.length = n → n ≤ names.length → ((names.take n).zip vals).map (·.1) = names.take n := by
  intro names n vals h1 h2
  rw [List.map_fst_zip]
  simp; omega

section
variable (prog : Program) (w : World) (ρ : Nat → Int) (FA : Nat → Addr) (Chk : Heap → Prop) (mg mb : Str → Option Value)
noncomputable def ChkSnd : Prop := ∀ (n : Nat) (A : Around) (E : Value → Shared → Prop) (s : Shared) (X : List Addr) (v : Value) (l : List Nat) (Q : Value → Shared → Prop),
  AOk n A → Stat FA Chk mg mb s.heap → Dom X s.heap → RepV ρ (view X s.heap) v (.str l) → parOk l = true → small l.length = true → parGo 0 l = true → (∀ s', Step s s' → Q (.bool true) s') → wpAny (model prog w) A (call (.ref (FA 5)) [v]) Q E s
end

theorem getV_none : ∀ (k j : Nat), getV (nones k) j = none
  | 0, j => rfl
  | k + 1, 0 => rfl
  | k + 1, j + 1 => getV_none k j
theorem getV_args {v : AV} : ∀ {vs : List AV} {k i : Nat}, getV (vs.map some ++ nones k) i = some v → vs[i]? = some v
  | [], k, i, h => by simp only [List.map_nil, List.nil_append] at h; rw [getV_none] at h; cases h
  | a :: vs, k, 0, h => by simp only [List.map_cons, List.cons_append, getV] at h; simpa using h
  | a :: vs, k, i + 1, h => by simp only [List.map_cons, List.cons_append, getV] at h; simpa using getV_args h

section
variable {prog : Program} {w : World} {ρ : Nat → Int} {FA : Nat → Addr} {Chk : Heap → Prop} {mg mb : Str → Option Value}
variable {r : Rec} {n : Nat}

/-- a def is entered: its frame stands -/
theorem enter {A : Around} {E : Value → Shared → Prop} {s : Shared} {X : List Addr} {a : Addr} {o : Obj} {fd : FuncData} {body : List Stmt} {names : List Str} {np : Nat} {vals : List Value} {vs : List AV} {Q : Value → Shared → Prop}
    (hA : AOk (n + 1) A) (S : Stat FA Chk mg mb s.heap) (D : Dom X s.heap) (hr : RepVs ρ (view X s.heap) vals vs) (ho : s.heap.get? a = some o) (hdat : o.data = .func fd) (hcode : s.heap.CodeRec fd.code fd.qualname) (hbody : fd.body = .stmts body) (hgl : fd.globals = mainGlobals)
    (hclo : fd.closure = []) (hbi : fd.builtins = builtinsNs) (hk : fd.scope.kind = .function) (hco : fd.scope.isCoroutine = false) (hgen : fd.scope.isGenerator = false) (hnd : names.Nodup) (hnn : (fd.scope.names.map (·.1)).Nodup) (hnf : ∀ y ∈ fd.scope.names, y.2 ≠ .free)
    (hloc : ∀ x ∈ names, fd.scope.names.lookup x = some .local ∨ fd.scope.names.lookup x = some .cell) (hnp : np ≤ names.length) (hvl : vals.length = np) (hbind : bindArgs fd ⟨vals, []⟩ = pure ((names.take np).zip vals))
    (hQ : ∀ (env : Env) (E : Value → Shared → Prop) (s₁ : Shared) (Q' : Flow → Shared → Prop), EnvC env fd.scope.names → (env.cells.Pairwise fun a b => a.2 ≠ b.2) → Dis names → AOk n (A.deeper env) →
      FI prog w ρ FA Chk mg mb env fd.scope.names names X s.heap none ⟨vs.map some ++ nones (names.length - np), none⟩ s₁ → (s₁.gens = s.gens ∧ s₁.drawn = s.drawn ∧ s₁.os = s.os) → (∀ val s', Q val s' → Q' (.ret val) s') → wpAny (model prog w) (A.deeper env) (execs body env) Q' E s₁) :
    wpAny (model prog w) A (call (.ref a) vals) Q E s := by
  have hbn : ((names.take np).zip vals).map (·.1) = names.take np := zip_names _ _ _ hvl hnp
  have hbm : ∀ x ∈ (names.take np).zip vals, fd.scope.names.lookup x.1 = some .local ∨ fd.scope.names.lookup x.1 = some .cell := fun x hx =>
    hloc _ (List.mem_of_mem_take (hbn ▸ List.mem_map.mpr ⟨x, hx, rfl⟩))
  refine wpAny_call (codeAny_call_cells (by have := hA.depth; omega) ho hdat S.nolimit hcode hbody hbind hclo (fun x hx => (hbm x hx).imp id fun h => ⟨h, cells_some h⟩) (fun s₁ IC => ?_) hco hgen hk)
  generalize henv : callEnvC fd s.heap.objs.size a = env at *
  have esc : env.scope = fd.scope := by rw [← henv]; rfl
  have eki : ∀ x, env.kindOf x = fd.scope.names.lookup x := fun x => by unfold Env.kindOf; rw [esc]
  have ecl : env.cells = cellsFrom (s.heap.objs.size + 1) fd.scope.names [] := by rw [← henv]; rfl
  have elo : env.locals = s.heap.objs.size := by rw [← henv]; rfl
  have hn : EnvC env fd.scope.names := {
    fn := by rw [esc]; exact hk
    gl := by rw [← henv]; exact hgl
    bi := by rw [← henv]; exact hbi
    loc := fun x h => (eki x).trans h
    cel := fun x h => (eki x).trans h
    fre := fun x h => absurd rfl (hnf _ (lookup_mem h))
    glo := fun x h => (eki x).trans h
    cll := fun x h => by rw [ecl]; rw [eki] at h; exact cells_some h }
  have hcn : (env.cells.map (·.1)).Nodup := by rw [ecl]; exact cells_nodup _ _ _ hnn (by simp) (by simp)
  have hfr : ∀ b ∈ env.locals :: cellsA env, s.heap.get? b = none := fun b hb => by
    refine none_of_size ?_
    rcases List.mem_cons.mp hb with rfl | hb
    · exact Nat.le_of_eq elo.symm
    · obtain ⟨⟨y, c⟩, hm, rfl⟩ := List.mem_map.mp hb
      have := IC.above y c hm
      rw [elo] at this
      exact Nat.le_of_lt this
  have hfrA : ∀ b ∈ frameA env none, s.heap.get? b = none := fun b hb => by
    rcases mem_frameA.mp hb with h | h
    · exact hfr b h
    · cases h
  have keep : Ext s.heap s₁.heap := IC.toInCall.keep
  have vw : Le (view X s.heap) (view (frameA env none ++ X) s₁.heap) := view_new keep fun b hb => by
    rcases List.mem_append.mp hb with h | h
    · exact .inr (hfrA b h)
    · exact .inl h
  have hdis : Dis names := fun i j x hi hj => by
    have h1 := List.getElem?_eq_some_iff.mp hi
    exact (List.getElem?_inj h1.1 hnd).mp (hi.trans hj.symm)
  have hbk : (((names.take np).zip vals).map (·.1)).Nodup := by rw [hbn]; exact hnd.sublist (List.take_sublist _ _)
  obtain ⟨h₁, tk₁, hs₁⟩ := IC.toInCall.same
  have FI0 : FI prog w ρ FA Chk mg mb env fd.scope.names names X s.heap none ⟨vs.map some ++ nones (names.length - np), none⟩ s₁ := {
    stat0 := S
    pl := ⟨⟨_, IC.toInCall.ns⟩, fun x c hc => ⟨_, IC.cell x c hc⟩⟩
    h0 := keep
    fr0 := hfrA
    amX := fun a ha => nomatch ha
    dom := fun b hb => by
      rcases List.mem_append.mp hb with h | h
      · rcases mem_frameA.mp h with h | h
        · rcases List.mem_cons.mp h with rfl | h
          · obtain ⟨o, _, _, ho, _⟩ := IC.toInCall.ns; exact ⟨o, ho⟩
          · obtain ⟨⟨y, c⟩, hm, rfl⟩ := List.mem_map.mp h
            obtain ⟨o, ho, _⟩ := IC.cell y c (lookup_nodup hcn hm)
            exact ⟨o, ho⟩
        · cases h
      · exact D.mono keep b h
    vars := fun i x u hi hu => by
      obtain ⟨val, h1, h2⟩ := hr.get (getV_args hu)
      have hil : i < np := by
        rw [← hvl]
        exact (List.getElem?_eq_some_iff.mp h1).1
      have hmem : (x, val) ∈ (names.take np).zip vals := by
        refine List.mem_iff_getElem?.mpr ⟨i, ?_⟩
        rw [List.getElem?_zip_eq_some]
        exact ⟨by rw [List.getElem?_take, if_pos hil]; exact hi, h1⟩
      refine ⟨val, ?_, h2.mono vw⟩
      rcases hbm _ hmem with hl | hl
      · have hl' : env.kindOf x = some .local := (eki x).trans hl
        exact .inl ⟨hl', _, IC.toInCall.ns, bindL_get hl' hbk (.inl hmem)⟩
      · have hl' : env.kindOf x = some .cell := (eki x).trans hl
        obtain ⟨c, hc⟩ := Option.isSome_iff_exists.mp (hn.cll x hl')
        have hcell := IC.cell x c hc
        rw [bindC_get (v := val) (by rw [hl']; decide) hbk (.inl hmem)] at hcell
        exact .inr ⟨hl', c, hc, hcell⟩
    mu := rfl }
  have hg : s₁.gens = s.gens ∧ s₁.drawn = s.drawn ∧ s₁.os = s.os := by rw [hs₁]; exact ⟨rfl, rfl, rfl⟩
  exact hQ env _ s₁ _ hn IC.apart hdis (hA.deeper env) FI0 hg fun val s' h => h

theorem c_step (hC : ExtP Chk) (hX : XSnd prog w ρ FA Chk mg mb r n) (hK : ChkSnd prog w ρ FA Chk mg mb) (ev : Ctx → ME → Option AV) (ex : St → MS → Option (Option AV × St)) : CSnd prog w ρ FA Chk mg mb ⟨ev, ex, callS r⟩ (n + 1) := by
  intro A E s X f nm vals vs v Q hA S D hr hv hf hQ
  replace hv : callS r f vs = some v := hv
  unfold callS at hv
  split at hv
  · rename_i h5
    have h5 := Nat.eq_of_beq_eq_true h5
    subst h5
    split at hv
    · rename_i l
      split at hv
      · rename_i hp
        cases hv
        simp only [Bool.and_eq_true] at hp
        cases hr with
        | cons r1 rs => cases rs with
          | nil => exact hK (n + 1) A E s X _ l Q hA S D r1 hp.1.1 hp.1.2 hp.2 fun s' st => hQ s' _ st (.bool _)
      · cases hv
    · cases hv
  · split at hv
    · cases hv
    rename_i d hd
    split at hv
    · rename_i hlen
      obtain ⟨o, fd, body, ho, hdat, hcode, hbody, hgl, hclo, hbi, hk, hco, hgen, hnd, hnn, hnf, hloc, hnp, hbind, his⟩ := (S.fn f d hd).fn
      have hvl : vals.length = d.np := hr.length.trans (Nat.eq_of_beq_eq_true hlen)
      split at hv
      · rename_i v' st' hex
        cases hv
        refine enter hA S D hr ho hdat hcode hbody hgl hclo hbi hk hco hgen hnd hnn hnf hloc (by simpa using hnp) hvl (hbind vals hvl) fun env E s₁ Q' hn hap hdis hA1 FI0 hg hQ' => ?_
        refine xs_ok hX _ _ _ _ _ _ _ _ _ _ _ _ _ _ _ hA1 hn hap hdis (by simpa using FI0) his hex fun s' am' fl F' a' c' fo => ?_
        obtain ⟨val, rfl, hr'⟩ := fo
        exact hQ' val s' (hQ s' val ⟨F'.h0, fun g => c'.b.gens (by rw [hg.1]; exact g), c'.b.drawn.trans hg.2.1, c'.b.os.trans hg.2.2⟩ hr')
      · cases hv
    · cases hv
end
end Mine

set_option linter.unusedVariables false
namespace Mine
open PySem PySem.Calls PyProof.Rows
section
variable {prog : Program} {w : World} {ρ : Nat → Int} {FA : Nat → Addr} {Chk : Heap → Prop} {mg mb : Str → Option Value}
theorem all_ok (H : Rng ρ) (hC : ExtP Chk) (hD : DSnd prog w ρ FA Chk mg mb) (hK : ChkSnd prog w ρ FA Chk mg mb) : ∀ n, ESnd prog w ρ FA Chk mg mb (R n) n ∧ TSnd prog w ρ FA Chk mg mb (R n) n ∧ XSnd prog w ρ FA Chk mg mb (R n) n ∧ CSnd prog w ρ FA Chk mg mb (R n) n ∧ USnd prog w ρ FA Chk mg mb (R n) n
  | 0 => by
    refine ⟨?_, ?_, ?_, ?_, ?_⟩
    · intro A E s env nk ns os ts X c m e v Q h1 h2 h3 h4 h5; exact nomatch h5
    · intro A E s env nk ns os ts X c m e b Q h1 h2 h3 h4 h5; exact nomatch h5
    · intro A E s env nk ns X h₀ am st m e fl st' Q h1 h2 h3 h4 h5 h6 h7; exact nomatch h7
    · intro A E s X f nm vals vs v Q h1 h2 h3 h4 h5; exact nomatch h5
    · intro A E s env nk ns X c elt tg it cond elte tgte ite ifse scope pc pos u v Q h1 h2 h3 h4 h5; exact nomatch h5
  | n + 1 => by
    obtain ⟨hE, hT, hX, hF, hU⟩ := all_ok H hC hD hK n
    have hE' : ESnd prog w ρ FA Chk mg mb (R (n + 1)) (n + 1) := ev_step H hC hE hT hF (comp_step hC hE hT) hD _ _
    exact ⟨hE', t_step H hC hE hT _ _ hE', x_step hC hE hT hX hU _ _, c_step hC hX hK _ _, u_step hC hE hT _ _⟩
end
end Mine

set_option linter.unusedVariables false
namespace Mine
open PySem PySem.Calls PyProof.Rows
/-! a def's record is the term's -/
noncomputable def argsOk (p : Arguments) (names : List Str) (np : Nat) : Bool := p.posonlyargs.isEmpty && (p.vararg.isNone && (p.kwonlyargs.isEmpty && (p.kw_defaults.isEmpty && (p.kwarg.isNone && (p.defaults.isEmpty && (decide (p.args.map (·.arg) = names.take np) && decide (p.args.length = np)))))))
theorem argsOk_ok {p : Arguments} {names : List Str} {np : Nat} (h : argsOk p names np = true) : p = ⟨[], p.args, none, [], [], none, []⟩ ∧ p.args.map (·.arg) = names.take np ∧ p.args.length = np := by
  obtain ⟨po, ar, va, kw, kd, kwa, df⟩ := p
  have h1 := and_r h
  have h2 := and_r h1
  have h3 := and_r h2
  have h4 := and_r h3
  have h5 := and_r h4
  have h6 := and_r h5
  have e1 : po = [] := List.isEmpty_iff.mp (and_l h)
  have e2 : va = none := Option.isNone_iff_eq_none.mp (and_l h1)
  have e3 : kw = [] := List.isEmpty_iff.mp (and_l h2)
  have e4 : kd = [] := List.isEmpty_iff.mp (and_l h3)
  have e5 : kwa = none := Option.isNone_iff_eq_none.mp (and_l h4)
  have e6 : df = [] := List.isEmpty_iff.mp (and_l h5)
  subst e1 e2 e3 e4 e5 e6
  exact ⟨rfl, of_decide_eq_true (and_l h6), of_decide_eq_true (and_r h6)⟩
/-- the letters are bound to the values in order -/
noncomputable def BindsAs (names : List Str) (np : Nat) : Prop := ∀ (fd : FuncData), argsOk fd.params names np = true → fd.defaults = .none → ∀ vals : List Value, vals.length = np → bindArgs fd ⟨vals, []⟩ = pure ((names.take np).zip vals)
theorem bindsAs1 {x : Str} {names : List Str} (hn : names.take 1 = [x])
    (H : ∀ (fd : FuncData) (an : Option PySem.Expr) (q : Pos) (v : Value), bindArgs { fd with params := ⟨[], [⟨x, an, q⟩], none, [], [], none, []⟩, defaults := .none } ⟨[v], []⟩ = pure [(x, v)]) : BindsAs names 1 := by
  intro fd h hd vals hv
  obtain ⟨h1, h2, h3⟩ := argsOk_ok h
  obtain ⟨⟨y, an, q⟩, ha⟩ := List.length_eq_one_iff.mp h3
  obtain ⟨v, rfl⟩ := List.length_eq_one_iff.mp hv
  rw [hn] at h2 ⊢
  rw [ha] at h1 h2
  cases h2
  have e := H fd an q v
  rw [← h1, ← hd] at e
  exact e
theorem len2 {α : Type} : ∀ {l : List α}, l.length = 2 → ∃ a b, l = [a, b]
  | [a, b], _ => ⟨a, b, rfl⟩
theorem bindsAs2 {x y : Str} {names : List Str} (hn : names.take 2 = [x, y])
    (H : ∀ (fd : FuncData) (an an2 : Option PySem.Expr) (q q2 : Pos) (v v2 : Value), bindArgs { fd with params := ⟨[], [⟨x, an, q⟩, ⟨y, an2, q2⟩], none, [], [], none, []⟩, defaults := .none } ⟨[v, v2], []⟩ = pure [(x, v), (y, v2)]) : BindsAs names 2 := by
  intro fd h hd vals hv
  obtain ⟨h1, h2, h3⟩ := argsOk_ok h
  obtain ⟨⟨y, an, q⟩, ⟨z, an2, q2⟩, ha⟩ := len2 h3
  obtain ⟨v, v2, rfl⟩ := len2 hv
  rw [hn] at h2 ⊢
  rw [ha] at h1 h2
  cases h2
  have e := H fd an an2 q q2 v v2
  rw [← h1, ← hd] at e
  exact e
theorem binds_fn : ∀ {f : Nat} {d : Fn}, fnOf f = some d → BindsAs (d.names.map Str.ofString) d.np
  | 0, _, h => by cases h; exact bindsAs2 rfl fun _ _ _ _ _ _ _ => rfl
  | 1, _, h => by cases h; exact bindsAs2 rfl fun _ _ _ _ _ _ _ => rfl
  | 2, _, h => by cases h; exact bindsAs1 rfl fun _ _ _ _ => rfl
  | 3, _, h => by cases h; exact bindsAs2 rfl fun _ _ _ _ _ _ _ => rfl
  | 4, _, h => by cases h; exact bindsAs2 rfl fun _ _ _ _ _ _ _ => rfl
  | _ + 5, _, h => by cases h
theorem binds_law : BindsAs (lawNames.map Str.ofString) 1 := bindsAs1 rfl fun _ _ _ _ => rfl
theorem binds_addr : BindsAs ["addr"] 1 := bindsAs1 rfl fun _ _ _ _ => rfl
noncomputable def scOk (sc : Scope) (names : List Str) (np : Nat) : Bool :=
  decide (sc.kind = .function) && !sc.isCoroutine && !sc.isGenerator && decide names.Nodup && decide (sc.names.map (·.1)).Nodup && sc.names.all (fun y => decide (y.2 ≠ .free)) && names.all (fun x => isL sc.names x || isC sc.names x) && decide (np ≤ names.length)
noncomputable def fnOk (r : DefRec) (d : Fn) : Bool := scOk r.scope (d.names.map Str.ofString) d.np && argsOk r.params (d.names.map Str.ofString) d.np && chkSL (chkS K r.scope.names (d.names.map Str.ofString)) d.body r.body

theorem scOk_ok {sc : Scope} {names : List Str} {np : Nat} (h : scOk sc names np = true) : sc.kind = .function ∧ sc.isCoroutine = false ∧ sc.isGenerator = false ∧ names.Nodup ∧ (sc.names.map (·.1)).Nodup ∧ (∀ y ∈ sc.names, y.2 ≠ .free) ∧
    (∀ x ∈ names, sc.names.lookup x = some .local ∨ sc.names.lookup x = some .cell) ∧ np ≤ names.length := by
  simp only [scOk, Bool.and_eq_true, List.all_eq_true, Bool.or_eq_true, isL, isC, decide_eq_true_eq, Bool.not_eq_true'] at h
  obtain ⟨⟨⟨⟨⟨⟨⟨h1, h2⟩, h3⟩, h4⟩, h5⟩, h6⟩, h7⟩, h8⟩ := h
  exact ⟨h1, h2, h3, h4, h5, h6, h7, h8⟩

theorem fnAt_of {h : Heap} {a : Addr} {o : Obj} {r : DefRec} {d : Fn} {pm code doc : Value} (ho : h.get? a = some o) (hd : o.data = .func (docDef r.name r.params r.body r.scope pm code doc)) (hc : h.CodeRec code r.name) (hk : fnOk r d = true) (hB : BindsAs (d.names.map Str.ofString) d.np) : FnAt h a d := by
  simp only [fnOk, Bool.and_eq_true] at hk
  obtain ⟨⟨h1, h2⟩, h3⟩ := hk
  obtain ⟨g1, g2, g3, g4, g5, g6, g7, g8⟩ := scOk_ok h1
  exact ⟨o, _, r.body, ho, hd, hc, rfl, rfl, rfl, rfl, g1, g2, g3, g4, g5, g6, g7, by simpa using g8, fun vals hv => hB _ h2 rfl vals hv, chkSL_ok (fun _ _ h => ⟨K, h⟩) h3⟩

noncomputable def findDef (p : Program) (nm : String) : Option DefRec := (recsOf p).find? fun r => decide (r.name = Str.ofString nm)
noncomputable def defOk (p : Program) (d : Fn) : Bool := match findDef p d.name with
  | some r => fnOk r d
  | none => false
noncomputable def lawOk (r : DefRec) : Bool := scOk r.scope (lawNames.map Str.ofString) 1 && argsOk r.params (lawNames.map Str.ofString) 1 && chkSL (chkS K r.scope.names (lawNames.map Str.ofString)) (lawFirst :: lawRest) r.body
end Mine

set_option linter.unusedVariables false
namespace Mine
open PySem PySem.Calls PyProof.Rows

section
variable {M : Model} {A : Around} {R : GenEnd} {Y : Protocol} {n : Nat} {s₀ : Shared} {c : Code} {fs : List Frame} {s : Shared} {env : Env}
  {K : Flow → Sem Fin} {H : Value → Sem Fin} {gd : Bool → Bool} {lv : List Value → List Value}

/-- a plain statement of a generator -/
theorem seg_stmt {m : Sem Flow} (h : wpAny M (A.over c fs) m (fun f s' => Seg M A R Y n s₀ c (K f) fs s') (fun x s' => Seg M A R Y n s₀ c (H x) fs s') s) : Seg M A R Y n s₀ c (m.wrap K H gd lv) fs s := seg_wrap h

theorem seg_If {test : PySem.Expr} {body orelse : List Stmt} {pos : Pos}
    (h : wpAny M (A.over c fs) (isTrue test env (eval test env)) (fun b s' => if b = true then Seg M A R Y n s₀ c ((execs body env).wrap K H gd lv) fs s' else Seg M A R Y n s₀ c ((execs orelse env).wrap K H gd lv) fs s')
      (fun x s' => Seg M A R Y n s₀ c (H x) fs s') s) : Seg M A R Y n s₀ c ((exec (.If test body orelse pos) env).wrap K H gd lv) fs s := by
  rw [exec_If]
  refine seg_bind_wrap (wpAny_standAt ?_)
  refine seg_bind_wrap (wpAny_mono h (fun b s' hb => ?_) fun _ _ x => x)
  cases b with
  | true => rw [if_pos rfl] at hb; exact hb
  | false => rw [if_neg Bool.false_ne_true] at hb; exact hb

theorem seg_For {target iter : PySem.Expr} {body orelse : List Stmt} {pos : Pos}
    (h : wpAny M (A.over c fs) (eval iter env) (fun x s₁ => wpAny M (A.over c fs) (pyIter x) (fun it s₂ => ∀ p, Seg M A R Y n s₀ (.forLoop target it body orelse env) (M.den (.forLoop target it body orelse env))
      (.ret (fun r => ((match r with | .ok f => (.pure f : Sem Flow) | .error e => .raise e).onRaise fun (x : Value) => do
        if (← field x 1) == Value.none then unsupported "frame.own-activation:exception-without-traceback"
        setFlight x env.frame).wrap K H gd lv) none (gd false) (lv []) c p [] :: fs) s₂)
      (fun x s' => Seg M A R Y n s₀ c (H x) fs s') s₁) (fun x s' => Seg M A R Y n s₀ c (H x) fs s') s)
    (hs : ∀ x, foldedSetIterable iter env x = pure x) : Seg M A R Y n s₀ c ((exec (.For target iter body orelse pos) env).wrap K H gd lv) fs s := by
  rw [exec_For]
  refine seg_bind_wrap (wpAny_standAt ?_)
  refine seg_bind_wrap (wpAny_mono h (fun x s₁ h₁ => ?_) fun _ _ x => x)
  refine seg_bind_wrap (wpAny_of_eq (hs x) ?_)
  refine seg_bind_wrap (wpAny_standAt ?_)
  refine seg_bind_wrap (wpAny_holding (wpAny_mono h₁ (fun it s₂ h₂ => ?_) fun _ _ x => x))
  exact seg_call h₂
end

section
variable {prog : Program} {w : World} {A : Around} {R : GenEnd} {Y : Protocol} {n : Nat} {s₀ : Shared} {fs : List Frame} {s : Shared} {env : Env}
abbrev noteH (env : Env) : Value → Sem Fin := fun e => (do noteFrame e env; theTreesLotGoes e : Sem Unit).wrap (fun _ => .raise e) .raise id id

theorem seg_block_nil (h : Seg (model prog w) A R Y n s₀ (.block [] env) (.pure (.done .next)) fs s) : Seg (model prog w) A R Y n s₀ (.block [] env) ((model prog w).den (.block [] env)) fs s := h

theorem seg_forLoop {target : PySem.Expr} {it : Value} {body : List Stmt}
    (h : wpAny (model prog w) (A.over (.forLoop target it body [] env) fs) (pyNext it) (fun r s₁ => match r with
        | none => Seg (model prog w) A R Y n s₀ (.block [] env) (.pure (.done .next)) fs s₁
        | some v => wpAny (model prog w) (A.over (.forLoop target it body [] env) fs) (letOwnedTupleGo target it v) (fun _ s₂ => wpAny (model prog w) (A.over (.forLoop target it body [] env) fs) (assign target env v) (fun _ s₃ =>
            Seg (model prog w) A R Y n s₀ (.forLoop target it body [] env) ((execs body env).wrap (fun f => match f with
              | .next | .cont => .pure (.again (.forLoop target it body [] env))
              | .brk => .pure (.done .next)
              | .ret v => .pure (.done (.ret v))) (noteH env) id id) fs s₃)
            (fun x s' => Seg (model prog w) A R Y n s₀ (.forLoop target it body [] env) (noteH env x) fs s') s₂)
          (fun x s' => Seg (model prog w) A R Y n s₀ (.forLoop target it body [] env) (noteH env x) fs s') s₁)
      (fun x s' => Seg (model prog w) A R Y n s₀ (.forLoop target it body [] env) (noteH env x) fs s') s) :
    Seg (model prog w) A R Y n s₀ (.forLoop target it body [] env) ((model prog w).den (.forLoop target it body [] env)) fs s := by
  show Seg _ A R Y n s₀ _ ((forTurn target it body [] env).onRaise (fun x => do noteFrame x env; theTreesLotGoes x)) fs s
  unfold forTurn
  rw [Sem.onRaise_eq_wrap]
  have hH : ∀ e, ((do noteFrame e env; theTreesLotGoes e : Sem Unit).bind fun _ => (.raise e : Sem Fin)) = noteH env e := fun e => Sem.bind_eq_wrap _ _
  rw [funext hH]
  refine seg_bind_wrap (wpAny_standAt ?_)
  refine seg_bind_wrap (wpAny_onRaise (wpAny_mono h (fun r s₁ h₁ => ?_) fun x s' h' => wpAny_standAt h'))
  cases r with
  | none => exact seg_again rfl (seg_block_nil h₁)
  | some v =>
    refine seg_bind_wrap (wpAny_mono h₁ (fun _ s₂ h₂ => ?_) fun _ _ x => x)
    refine seg_bind_wrap (wpAny_mono h₂ (fun _ s₃ h₃ => ?_) fun _ _ x => x)
    rw [Sem.bind_eq_wrap', Sem.wrap_wrap]
    refine (congrArg (fun t => Seg (model prog w) A R Y n s₀ (.forLoop target it body [] env) t fs s₃) (Sem.wrap_congr (execs body env) id id (fun f => ?_) (fun e => ?_))).mpr h₃
    · cases f <;> rfl
    · rfl
end
end Mine

set_option linter.unusedVariables false
namespace Mine
open PySem PySem.Calls PyProof.Rows

/-- the generator's names, and its text -/
structure GT where
  xp : Str
  xe : Str
  xc : Str
  xa : Str
/-- _iter_escaped_chars by its shape -/
inductive IterBody (T : GT) : List Stmt → Prop
  | mk (q1 q2 q3 q4 q5 q6 q7 q8 q9 q10 q11 q12 q13 q14 q15 q16 q17 q18 q19 q20 q21 q22 q23 q24 q25 q26 : Pos) (k1 k2 k3 k4 k5 : Nat) (b1 b2 b3 : List Stmt) (bs : Str) : bs = ⟨#[92]⟩ →
    IterBody T [.Assign [.Name T.xp q1] (.Constant (.int 0) k1 q2) q3, .Assign [.Name T.xe q4] (.Constant (.bool false) k2 q5) q6,
      .For (.Tuple [.Name T.xp q7, .Name T.xc q8] k3 q9) (.Call (.Name ("enumerate" : Str) q10) [.Name T.xa q11] [] q12)
        [.If (.Name T.xe q13) b1 [.If (.Compare (.Name T.xc q14) [.Eq] [.Constant (.str bs) k4 q15] q16) b2 [.Expr (.Yield (some (.Tuple [.Name T.xp q17, .Name T.xc q18] k5 q19)) q20) q21] q22] q23] [] q24,
      .If (.Name T.xe q25) b3 [] q26]

structure GE (T : GT) (env : Env) : Prop where
  fn : env.scope.kind = .function
  co : env.scope.isCoroutine = false
  gl : env.globals = mainGlobals
  bi : env.builtins = builtinsNs
  lp : env.kindOf T.xp = some .local
  le : env.kindOf T.xe = some .local
  lc : env.kindOf T.xc = some .local
  la : env.kindOf T.xa = some .local
  ge : env.kindOf ("enumerate" : Str) = some .globalImplicit
  hpe : T.xp ≠ T.xe
  hce : T.xc ≠ T.xe
  hpc : T.xp ≠ T.xc
  hpa : T.xp ≠ T.xa
  hea : T.xe ≠ T.xa
  dp : (T.xp == ("__debug__" : Str)) = false
  de : (T.xe == ("__debug__" : Str)) = false
  dc : (T.xc == ("__debug__" : Str)) = false
  da : (T.xa == ("__debug__" : Str)) = false

/-- what the generator's step leaves alone: all that stood below n1 but for its own names -/
structure GK (n1 Lg : Nat) (s₀ s : Shared) : Prop where
  keep : ∀ (b : Nat) o, b < n1 → b ≠ Lg → s₀.heap.get? b = some o → s.heap.get? b = some o
  gens : s.gens = s₀.gens
  drawn : s.drawn = s₀.drawn
  os : s.os = s₀.os
theorem GK.refl (n1 Lg : Nat) (s : Shared) : GK n1 Lg s s := ⟨fun _ _ _ _ e => e, rfl, rfl, rfl⟩
theorem GK.trans {n1 Lg : Nat} {s s' s'' : Shared} (x : GK n1 Lg s s') (y : GK n1 Lg s' s'') : GK n1 Lg s s'' :=
  ⟨fun b o h1 h2 e => y.keep b o h1 h2 (x.keep b o h1 h2 e), y.gens.trans x.gens, y.drawn.trans x.drawn, y.os.trans x.os⟩
theorem GK.of {n1 Lg : Nat} {s : Shared} {h' : Heap} {tk : Nat} (k : ∀ (b : Nat) o, b < n1 → b ≠ Lg → s.heap.get? b = some o → h'.get? b = some o) : GK n1 Lg s { s with heap := h', toks := tk } := ⟨k, rfl, rfl, rfl⟩

noncomputable def GP (n1 Lg : Nat) : GenEnd := fun n s₀ r s => r = .ok (.ret .none) ∧ (n = 0 ∧ GK n1 Lg s₀ s)
noncomputable def GY (n1 Lg Lc : Nat) (l : List Nat) : Protocol := fun m s₀ v s kap =>
  (∃ (k t : Nat) (u1 u2 : Tok) (c : Nat), k + m + 1 = l.length ∧ l[k]? = some c ∧ v = .ref t ∧ s.heap.get? t = some { cls := .type "tuple", data := .seq #[.int (k : Int) u1, .str ⟨#[c]⟩ u2] }) ∧ GK n1 Lg s₀ s ∧
    ∀ s'' : Shared, (∀ (b : Nat) o, b ≠ Lc → s.heap.get? b = some o → s''.heap.get? b = some o) → kap (.send .none) s''


section
variable {prog : Program} {w : World} {A : Around} {T : GT} {env : Env} {n1 Lc : Nat} {l : List Nat}

/-- the generator between two characters -/
structure GInv (env : Env) (T : GT) (n1 Lc : Nat) (x : Str) (tx : Tok) (e it k : Nat) (s : Shared) : Prop where
  ns : ∃ m, s.heap.Ns env.locals m ∧ m T.xe = some (.bool false)
  en : ∃ old, IsEnum s.heap e it (k : Int) old
  st : s.heap.IsStrIter it (strIterType x) x tx k
  he : n1 ≤ e
  hi : n1 ≤ it
  hei : e ≠ it
  hL : (env.locals : Nat) < n1
  hc : Lc < n1
  hLc : (env.locals : Nat) ≠ Lc

theorem GInv.keep {x : Str} {tx : Tok} {e it k : Nat} {s s'' : Shared} (I : GInv env T n1 Lc x tx e it k s) (h : ∀ (b : Nat) o, b ≠ Lc → s.heap.get? b = some o → s''.heap.get? b = some o) : GInv env T n1 Lc x tx e it k s'' where
  ns := let ⟨m, hn, hm⟩ := I.ns; ⟨m, hn.at' (h _ · I.hLc), hm⟩
  en := let ⟨old, h1⟩ := I.en; ⟨old, h e _ (by have := I.he; have := I.hc; omega) h1⟩
  st := let ⟨o, ho, r⟩ := I.st; ⟨o, h it o (by have := I.hi; have := I.hc; omega) ho, r⟩
  he := I.he
  hi := I.hi
  hei := I.hei
  hL := I.hL
  hc := I.hc
  hLc := I.hLc

theorem draws (hh : A.handled = none) (it : Addr) (x : Str) (t : Tok) : Draws prog w A it [it] x.cps.size (fun i v => ∃ c u, x.cps[i]? = some c ∧ v = .str ⟨#[c]⟩ u) (fun i h => h.IsStrIter it (strIterType x) x t i) := by
  unfold strIterType
  split
  · exact Draws.strAscii hh it x t
  · exact Draws.strWide hh it x t
end
end Mine

set_option linter.unusedVariables false
namespace Mine
open PySem PySem.Calls PyProof.Rows

section
variable {prog : Program} {w : World} {A : Around} {T : GT} {env : Env} {n1 Lc : Nat} {l : List Nat}

theorem gen_loop (G : GE T env) (hbr : ∀ c ∈ l, c = 40 ∨ c = 41) {x : Str} {tx : Tok} (hx : x = ⟨l.toArray⟩) {fs : List Frame} (hov : ∀ c, (A.over c fs).handled = none) (hfs : splitAtGen fs = none) (hfg : fs.any Frame.guarded = false) {e it : Nat}
    (q7 q8 q9 q13 q14 q15 q16 q17 q18 q19 q20 q21 q22 q23 : Pos) (k3 k4 k5 : Nat) (b1 b2 : List Stmt) (bs : Str) (hbs : bs = ⟨#[92]⟩)
    (hend : ∀ s₀ s, GK n1 env.locals s₀ s → (∃ m, s.heap.Ns env.locals m ∧ m T.xe = some (.bool false)) → Seg (model prog w) A (GP n1 env.locals) (GY n1 env.locals Lc l) 0 s₀ (.block [] env) (.pure (.done .next)) fs s) :
    ∀ (j k : Nat) (s₀ s : Shared), k + j = l.length → GInv env T n1 Lc x tx e it k s → GK n1 env.locals s₀ s →
      Seg (model prog w) A (GP n1 env.locals) (GY n1 env.locals Lc l) j s₀
        (.forLoop (.Tuple [.Name T.xp q7, .Name T.xc q8] k3 q9) (.ref e) [.If (.Name T.xe q13) b1 [.If (.Compare (.Name T.xc q14) [.Eq] [.Constant (.str bs) k4 q15] q16) b2 [.Expr (.Yield (some (.Tuple [.Name T.xp q17, .Name T.xc q18] k5 q19)) q20) q21] q22] q23] [] env)
        ((model prog w).den (.forLoop (.Tuple [.Name T.xp q7, .Name T.xc q8] k3 q9) (.ref e) [.If (.Name T.xe q13) b1 [.If (.Compare (.Name T.xc q14) [.Eq] [.Constant (.str bs) k4 q15] q16) b2 [.Expr (.Yield (some (.Tuple [.Name T.xp q17, .Name T.xc q18] k5 q19)) q20) q21] q22] q23] [] env)) fs s := by
  intro j
  have hp : (env.scope.kind == .class || (env.scope.kind == .module && env.locals != env.globals)) = false := by rw [G.fn]; rfl
  have hov1 : ∀ c, (A.over c fs).in1.handled = none := fun c => hov c
  have hsz : x.cps.size = l.length := by rw [hx]; simp
  induction j with
  | zero =>
    intro k s₀ s hk I hG
    refine seg_forLoop ?_
    obtain ⟨old, he⟩ := I.en
    have hst := I.st
    rw [show k = x.cps.size by omega] at hst
    refine wpAny_pyNext_enum_endD (draws (hov1 _) it x tx) he hst fun h' hx' => ?_
    have hiL : (it : Nat) ≠ env.locals := Nat.ne_of_gt (Nat.lt_of_lt_of_le I.hL I.hi)
    obtain ⟨m, hn, hm⟩ := I.ns
    refine hend _ _ (hG.trans (GK.of (tk := s.toks) fun b o h1 h2 e' => hx' b o (Nat.ne_of_lt (Nat.lt_of_lt_of_le h1 I.hi)) e')) ⟨m, hn.at' fun o e' => hx' _ o (Ne.symm hiL) e', hm⟩
  | succ j ih =>
    intro k s₀ s hk I hG
    refine seg_forLoop ?_
    obtain ⟨old, he⟩ := I.en
    obtain ⟨m, hn, hm⟩ := I.ns
    have hiL : (it : Nat) ≠ env.locals := Nat.ne_of_gt (Nat.lt_of_lt_of_le I.hL I.hi)
    have heL : (e : Nat) ≠ env.locals := Nat.ne_of_gt (Nat.lt_of_lt_of_le I.hL I.he)
    have W := WalksT.enumerateD (A := A.over (.forLoop (.Tuple [.Name T.xp q7, .Name T.xc q8] k3 q9) (.ref e) [.If (.Name T.xe q13) b1 [.If (.Compare (.Name T.xc q14) [.Eq] [.Constant (.str bs) k4 q15] q16) b2 [.Expr (.Yield (some (.Tuple [.Name T.xp q17, .Name T.xc q18] k5 q19)) q20) q21] q22] q23] [] env) fs)
      (draws (prog := prog) (w := w) (hov1 _) it x tx) e I.hei (by simpa using I.hei) (by simp)
    refine W.item k s _ _ (by omega) ⟨⟨old, he⟩, I.st⟩ fun Tt vals h2 tk2 hPt hTs hTup hMid hk2 => ?_
    obtain ⟨t, xx, ⟨c, u, hc, rfl⟩, rfl⟩ := hPt
    have hcl : l[k]? = some c := by rw [hx] at hc; simpa using hc
    have hc4 := hbr c (List.mem_of_getElem? hcl)
    have hTa := W.apart _ _ _ hMid
    dsimp only
    refine W.go _ _ _ k Tt _ _ _ hMid fun h3 hSt3 hk3 => ?_
    have hTup3 : h3.IsTuple Tt #[.int k t, .str ⟨#[c]⟩ u] := let ⟨o, ho, r⟩ := hTup; ⟨o, hk3 _ o hTa ho, r⟩
    refine assign_Tuple_tuple (hov _) (let ⟨o, ho, hc, n, hd⟩ := hTup3; ⟨o, ho, hc, n, hd⟩) rfl rfl fun h4 he4 => ?_
    have e34 : Ext h3 h4 := fun b o e => he4 b o (Nat.ne_of_lt (Heap.lt_size e)) e
    have hn4 : h4.Ns env.locals m := ((hn.at' fun o e' => hk2 _ o (by simp only [List.mem_cons, List.mem_nil_iff, or_false, not_or]; exact ⟨Ne.symm heL, Ne.symm hiL⟩) e').at' fun o e' => hk3 _ o (by simp only [List.mem_cons, List.mem_nil_iff, or_false, not_or]; exact ⟨Ne.symm heL, Ne.symm hiL⟩) e').keeps e34
    refine assignInOrder_cons (wpAny_assign_Name (wpAny_storeName_local G.lp hn4 (fun h5 hn5 hs5 => ?_) hp))
    refine assignInOrder_cons (wpAny_assign_Name (wpAny_storeName_local G.lc hn5 (fun h6 hn6 hs6 => ?_) hp))
    refine assignInOrder_nil ?_
    have hme : (fun y => if y = T.xc then some (Value.str ⟨#[c]⟩ u) else if y = T.xp then some (Value.int k t) else m y) T.xe = some (.bool false) := by
      simp [Ne.symm G.hce, Ne.symm G.hpe, hm]
    have hmc : (fun y => if y = T.xc then some (Value.str ⟨#[c]⟩ u) else if y = T.xp then some (Value.int k t) else m y) T.xc = some (.str ⟨#[c]⟩ u) := by simp
    have hmp : (fun y => if y = T.xc then some (Value.str ⟨#[c]⟩ u) else if y = T.xp then some (Value.int k t) else m y) T.xp = some (.int k t) := by simp [G.hpc]
    refine seg_execs_cons (seg_If (wpAny_isTrue_value (wpAny_Name (wpAny_loadName_local G.fn G.le hn6 hme (wpAny_truthy_bool ?_)) G.de)))
    rw [if_neg Bool.false_ne_true]
    refine seg_execs_cons (seg_If (wpAny_isTrue_Compare1 (hm := beh_eq _) (wpAny_Name (wpAny_loadName_local G.fn G.lc hn6 hmc (wpAny_Constant_str (PyProof.Rows.eq_str (wpAny_truthy_bool ?_)))) G.dc)))
    have hne : ((⟨#[c]⟩ : Str) == bs) = false := by rw [hbs]; rcases hc4 with rfl | rfl <;> decide
    rw [hne, if_neg Bool.false_ne_true]
    refine seg_execs_cons (seg_Expr_Yield hfs rfl hfg ?_ G.co (by unfold interactive; rw [G.fn]; rfl))
    refine wpAny_Tuple (args_cons (wpAny_Name (wpAny_loadName_local G.fn G.lp hn6 hmp (args_cons (wpAny_Name (wpAny_loadName_local G.fn G.lc hn6 hmc (args_nil ?_)) G.dc) rfl)) G.dp) rfl)
    refine ⟨by rw [sizeLine_eq]; simp, fun kap hkap => ?_⟩
    have keep6 : ∀ (b : Nat) o, b ≠ e → b ≠ it → b ≠ env.locals → s.heap.get? b = some o → h6.get? b = some o := fun b o h1 h2' h3' e' =>
      hs6.extBut b o h3' (hs5.extBut b o h3' (e34 b o (hk3 b o (by simp only [List.mem_cons, List.mem_nil_iff, or_false, not_or]; exact ⟨h1, h2'⟩) (hk2 b o (by simp only [List.mem_cons, List.mem_nil_iff, or_false, not_or]; exact ⟨h1, h2'⟩) e'))))
    refine ⟨⟨k, _, t, u, c, by omega, hcl, rfl, Heap.get?_push_size _ rfl⟩, hG.trans (GK.of fun b o h1 h2' e' => Heap.get?_push_of_some _ (keep6 b o (Nat.ne_of_lt (Nat.lt_of_lt_of_le h1 I.he)) (Nat.ne_of_lt (Nat.lt_of_lt_of_le h1 I.hi)) h2' e')), fun s'' hk'' => ?_⟩
    refine hkap .none s'' ?_
    show Seg _ A _ _ j s'' _ (.pure (.again _)) fs s''
    refine seg_again rfl (ih (k + 1) s'' s'' (by omega) (GInv.keep ⟨⟨_, hn6.push _, hme⟩, ?_, ?_, I.he, I.hi, I.hei, I.hL, I.hc, I.hLc⟩ hk'') (GK.refl _ _ _))
    · obtain ⟨⟨old', h1⟩, _⟩ := hSt3
      exact ⟨old', Heap.get?_push_of_some _ (hs6.extBut _ _ heL (hs5.extBut _ _ heL (e34 _ _ h1)))⟩
    · obtain ⟨_, o, ho, r⟩ := hSt3
      exact ⟨o, Heap.get?_push_of_some _ (hs6.extBut _ _ hiL (hs5.extBut _ _ hiL (e34 _ _ ho))), r⟩
end
end Mine

set_option linter.unusedVariables false
namespace Mine
open PySem PySem.Calls PyProof.Rows

section
variable {prog : Program} {w : World} {A : Around} {T : GT} {env : Env} {n1 Lc : Nat} {l : List Nat} {mg mb : Str → Option Value}

theorem gen_start (G : GE T env) (hh : A.handled = none) (hbr : ∀ c ∈ l, c = 40 ∨ c = 41) {x : Str} {tx : Tok} (hx : x = ⟨l.toArray⟩) {body : List Stmt} (hb : IterBody T body) {s : Shared} {m : Str → Option Value}
    (hn : s.heap.Ns env.locals m) (ha : m T.xa = some (.str x tx)) (hmg : s.heap.Ns mainGlobals mg) (hmb : s.heap.Ns builtinsNs mb) (he : mg ("enumerate" : Str) = none ∧ mb ("enumerate" : Str) = some (.type "enumerate"))
    (hL : (env.locals : Nat) < n1) (hc : Lc < n1) (hLc : (env.locals : Nat) ≠ Lc) (hn1 : n1 ≤ s.heap.objs.size) (hgL : (mainGlobals : Nat) ≠ env.locals) (hbL : (builtinsNs : Nat) ≠ env.locals) :
    Seg (model prog w) A (GP n1 env.locals) (GY n1 env.locals Lc l) l.length s (.func body env) ((model prog w).den (.func body env)) [] s := by
  have hp : (env.scope.kind == .class || (env.scope.kind == .module && env.locals != env.globals)) = false := by rw [G.fn]; rfl
  cases hb with
  | mk q1 q2 q3 q4 q5 q6 q7 q8 q9 q10 q11 q12 q13 q14 q15 q16 q17 q18 q19 q20 q21 q22 q23 q24 q25 q26 k1 k2 k3 k4 k5 b1 b2 b3 bs hbs =>
    refine seg_func ?_
    refine seg_execs_cons (seg_stmt (wpAny_Assign_Name (wpAny_Constant_int (wpAny_storeName_local G.lp hn (fun h1 hn1' hs1 => ?_) hp))))
    refine seg_execs_cons (seg_stmt (wpAny_Assign_Name (wpAny_Constant_bool (wpAny_storeName_local G.le hn1' (fun h2 hn2 hs2 => ?_) hp))))
    have e02 : ∀ (b : Nat) o, b ≠ env.locals → s.heap.get? b = some o → h2.get? b = some o := fun b o hb e => hs2.extBut b o hb (hs1.extBut b o hb e)
    have hmg2 : h2.Ns mainGlobals mg := hmg.at' fun o e => e02 _ o hgL e
    have hmb2 : h2.Ns builtinsNs mb := hmb.at' fun o e => e02 _ o hbL e
    have hsz2 : h2.objs.size = s.heap.objs.size := hs2.1.trans hs1.1
    have hma : (fun y => if y = T.xe then some (Value.bool false) else if y = T.xp then some (Value.int 0 s.toks) else m y) T.xa = some (.str x tx) := by simp [Ne.symm G.hea, Ne.symm G.hpa, ha]
    have hme : (fun y => if y = T.xe then some (Value.bool false) else if y = T.xp then some (Value.int 0 s.toks) else m y) T.xe = some (.bool false) := by simp
    refine seg_execs_cons (seg_For ?_ (fun _ => rfl))
    refine Call_ (Name_function_global G.fn G.ge (loadGlobal_builtin (env := env) (by rw [G.gl]; exact hmg2) he.1 (by rw [G.bi]; exact hmb2) he.2 ?_) (by decide))
    refine callWith_type1 (args_cons (wpAny_Name (wpAny_loadName_local G.fn G.la hn2 hma (args_nil ?_)) G.da) rfl)
    refine call_enumerate_str fun h3 hen hst hsz3 e23 => ?_
    refine wpAny_pyIter_enum hen fun p => ?_
    dsimp only at hen hst hsz3 e23 ⊢
    refine gen_loop G hbr hx ?_ rfl rfl q7 q8 q9 q13 q14 q15 q16 q17 q18 q19 q20 q21 q22 q23 k3 k4 k5 b1 b2 bs hbs ?_ l.length 0 _ _ (by omega)
      ⟨⟨_, hn2.keeps e23, hme⟩, ⟨.none, hen⟩, hst, by omega, by omega, by omega, hL, hc, hLc⟩ (GK.of fun b o h1 h2' e => e23 b o (e02 b o h2' e))
    · intro c
      exact hh
    intro s₀ s' hG hfin
    obtain ⟨m', hn', hm'⟩ := hfin
    refine seg_leaf (.ok .next) ?_
    show Seg _ A _ _ 0 s₀ _ ((execs [Stmt.If (PySem.Expr.Name T.xe q25) b3 [] q26] env).wrap _ _ _ _) [] s'
    refine seg_execs_cons (seg_If (wpAny_isTrue_value (wpAny_Name (wpAny_loadName_local G.fn G.le hn' hm' (wpAny_truthy_bool ?_)) G.de)))
    rw [if_neg Bool.false_ne_true]
    exact seg_end (.ok (.ret .none)) ⟨rfl, rfl, hG⟩
theorem gen_start' {Lg : Nat} (hLg : (env.locals : Nat) = Lg) (G : GE T env) (hh : A.handled = none) (hbr : ∀ c ∈ l, c = 40 ∨ c = 41) {x : Str} {tx : Tok} (hx : x = ⟨l.toArray⟩) {body : List Stmt} (hb : IterBody T body) {s : Shared} {m : Str → Option Value}
    (hn : s.heap.Ns env.locals m) (ha : m T.xa = some (.str x tx)) (hmg : s.heap.Ns mainGlobals mg) (hmb : s.heap.Ns builtinsNs mb) (he : mg ("enumerate" : Str) = none ∧ mb ("enumerate" : Str) = some (.type "enumerate"))
    (hL : Lg < n1) (hc : Lc < n1) (hLc : Lg ≠ Lc) (hn1 : n1 ≤ s.heap.objs.size) (hgL : (mainGlobals : Nat) ≠ Lg) (hbL : (builtinsNs : Nat) ≠ Lg) :
    Seg (model prog w) A (GP n1 Lg) (GY n1 Lg Lc l) l.length s (.func body env) ((model prog w).den (.func body env)) [] s := by
  subst hLg
  exact gen_start G hh hbr hx hb hn ha hmg hmb he hL hc hLc hn1 hgL hbL
end
end Mine

set_option linter.unusedVariables false
namespace Mine
open PySem PySem.Calls PyProof.Rows

theorem setGen_push {g0 : Array GenState} {y y' : GenState} {s : Shared} (h : s.gens = g0.push y) : (s.setGen g0.size y').gens = g0.push y' := by
  show s.gens.setIfInBounds g0.size y' = g0.push y'
  rw [h]
  apply Array.ext'
  simp
theorem push_get {g0 : Array GenState} {y : GenState} {s : Shared} (h : s.gens = g0.push y) : s.gens[g0.size]? = some y := by rw [h]; simp

section
variable {prog : Program} {w : World} {A : Around} {E : Value → Shared → Prop} {s : Shared}
theorem letGo_gen {elts : List PySem.Expr} {k : Nat} {pos : Pos} {a : Addr} {g : Nat} {v : Value} {Q : Unit → Shared → Prop} (hg : s.heap.IsGen a g) (hQ : Q () s) :
    wpAny (model prog w) A (letOwnedTupleGo (.Tuple elts k pos) (.ref a) v) Q E s := by
  obtain ⟨o, nm, qn, ho, hc, hd, _⟩ := hg
  unfold letOwnedTupleGo
  cases v <;> first | exact wpAny_pure hQ | skip
  refine wpAny_bind (wpAny_load ho ?_)
  rw [hc, hd]
  show wpAny _ A (if (["enumerate", "zip", "dict_itemiterator", "dict_reverseitemiterator", "odict_iterator", "itertools.zip_longest", "itertools.pairwise"].contains "generator" && _) = true then _ else _) Q E s
  rw [if_neg (by simp)]
  exact wpAny_pure hQ

/-- a plain def with one argument is entered -/
theorem enter1 {a : Addr} {o : Obj} {fd : FuncData} {body : List Stmt} {v : Value} {xa : Str} {Q : Value → Shared → Prop} (hroom : A.depth < recursionLimit) (ho : s.heap.get? a = some o) (hdat : o.data = .func fd) (hlim : s.heap.NoLimit) (hcode : s.heap.CodeRec fd.code fd.qualname)
    (hbody : fd.body = .stmts body) (hbind : bindArgs fd ⟨[v], []⟩ = pure [(xa, v)]) (hclo : fd.closure = []) (hco : fd.scope.isCoroutine = false) (hgen : fd.scope.isGenerator = false) (hk : fd.scope.kind = .function) (hx : fd.scope.names.lookup xa = some .local)
    (h : ∀ (env : Env) (E : Value → Shared → Prop) (s₁ : Shared) (Q' : Flow → Shared → Prop), env.scope = fd.scope → env.globals = fd.globals → env.builtins = fd.builtins → s₁.heap.Ns env.locals (fun y => if y = xa then some v else none) → Ext s.heap s₁.heap →
      s.heap.get? env.locals = none → (s₁.gens = s.gens ∧ s₁.drawn = s.drawn ∧ s₁.os = s.os) → (∀ val s', Q val s' → Q' (.ret val) s') → wpAny (model prog w) (A.deeper env) (execs body env) Q' E s₁) :
    wpAny (model prog w) A (call (.ref a) [v]) Q E s := by
  refine wpAny_call (codeAny_call_cells hroom ho hdat hlim hcode hbody hbind hclo (fun y hy => by rw [List.mem_singleton] at hy; rw [hy]; exact .inl hx) (fun s₁ IC => ?_) hco hgen hk)
  have hm : bindL (callEnvC fd s.heap.objs.size a).kindOf [(xa, v)] (fun _ => none) = fun y => if y = xa then some v else none := by
    have : (callEnvC fd s.heap.objs.size a).kindOf xa = some .local := hx
    simp [bindL, this]
  have hn := IC.toInCall.ns
  rw [hm] at hn
  obtain ⟨h₁, tk₁, hs₁⟩ := IC.toInCall.same
  exact h _ _ s₁ _ rfl rfl rfl hn IC.toInCall.keep (none_of_size IC.toInCall.fresh) (by rw [hs₁]; exact ⟨rfl, rfl, rfl⟩) fun val s' hq => hq
end

/-- _strip_quoted_realnames by its head -/
inductive StripBody (xa : Str) : List Stmt → Prop
  | mk (q1 q2 q3 q4 q5 q6 : Pos) (k1 : Nat) (bs : Str) (rest : List Stmt) : bs = ⟨#[34]⟩ → (xa == ("__debug__" : Str)) = false →
    StripBody xa (.If (.Compare (.Constant (.str bs) k1 q1) [.NotIn] [.Name xa q2] q3) [.Return (some (.Name xa q4)) q5] [] q6 :: rest)

section
variable {prog : Program} {w : World} {A : Around} {E : Value → Shared → Prop} {s : Shared} {l : List Nat}
theorem strip_ok {a : Addr} {o : Obj} {fd : FuncData} {body : List Stmt} {x : Str} {t : Tok} {xa : Str} {Q : Value → Shared → Prop} (hroom : A.depth < recursionLimit) (ho : s.heap.get? a = some o) (hdat : o.data = .func fd) (hlim : s.heap.NoLimit) (hcode : s.heap.CodeRec fd.code fd.qualname)
    (hbody : fd.body = .stmts body) (hbind : ∀ v, bindArgs fd ⟨[v], []⟩ = pure [(xa, v)]) (hclo : fd.closure = []) (hco : fd.scope.isCoroutine = false) (hgen : fd.scope.isGenerator = false) (hk : fd.scope.kind = .function) (hx : fd.scope.names.lookup xa = some .local)
    (hb : StripBody xa body) (h34 : 34 ∉ x.cps.toList) (hQ : ∀ s', Step s s' → Q (.str x t) s') : wpAny (model prog w) A (call (.ref a) [.str x t]) Q E s := by
  refine enter1 hroom ho hdat hlim hcode hbody (hbind _) hclo hco hgen hk hx fun env E s₁ Q' he _ _ hn hext _ hs hQ' => ?_
  have hf : env.scope.kind = .function := by rw [he]; exact hk
  have hxl : env.kindOf xa = some .local := by unfold Env.kindOf; rw [he]; exact hx
  cases hb with
  | mk q1 q2 q3 q4 q5 q6 k1 bs rest hbs hdb =>
    refine wpAny_execs_cons (wpAny_If (wpAny_isTrue_Compare1 (wpAny_Constant_str (wpAny_Name (wpAny_loadName_local (v := .str x t) hf hxl hn (by simp) (PySem.P.notIn_str (wpAny_truthy_bool ?_))) hdb))))
    have hocc : (Builtin.Str.occurrences x bs 0 x.length 1).isEmpty = true := by
      have := PySem.StrLaws.found_one x 34
      rw [hbs]
      simpa [h34] using this
    rw [hocc]
    show wpAny _ _ (execs [.Return (some (.Name xa q4)) q5] env) _ _ _
    refine wpAny_execs_cons (wpAny_Return_some (wpAny_Name (wpAny_loadName_local (v := .str x t) hf hxl hn (by simp) (hQ' _ _ (hQ _ ⟨hext, fun g => by rw [hs.1]; exact g, hs.2.1, hs.2.2⟩))) hdb))
end
end Mine

set_option linter.unusedVariables false
namespace Mine
open PySem PySem.Calls PyProof.Rows

structure CT where
  xa : Str
  xo : Str
  xp : Str
  xc : Str
inductive ChkBody (T : CT) : List Stmt → Prop
  | mk (q1 q2 q3 q4 q5 q6 q7 q8 q9 q10 q11 q12 q13 q14 q15 q16 q17 q18 q19 q20 q21 q22 q23 q24 q25 q26 q27 q28 q29 q30 q31 q32 q33 q34 q35 q36 q37 : Pos) (k1 k2 k3 k4 k5 k6 k7 k8 : Nat) (b1 : List Stmt) (s40 s41 : Str) : s40 = ⟨#[40]⟩ → s41 = ⟨#[41]⟩ →
    ChkBody T [.Assign [.Name T.xa q1] (.Call (.Name ("_strip_quoted_realnames" : Str) q2) [.Name T.xa q3] [] q4) q5,
      .Assign [.Name T.xo q6] (.Constant (.int 0) k1 q7) q8,
      .For (.Tuple [.Name T.xp q9, .Name T.xc q10] k2 q11) (.Call (.Name ("_iter_escaped_chars" : Str) q12) [.Name T.xa q13] [] q14)
        [.If (.Compare (.Name T.xc q15) [.Eq] [.Constant (.str s40) k3 q16] q17) [.AugAssign (.Name T.xo q18) .Add (.Constant (.int 1) k4 q19) q20]
          [.If (.Compare (.Name T.xc q21) [.Eq] [.Constant (.str s41) k5 q22] q23) [.AugAssign (.Name T.xo q24) .Sub (.Constant (.int 1) k6 q25) q26,
            .If (.Compare (.Name T.xo q27) [.Lt] [.Constant (.int 0) k7 q28] q29) b1 [] q30] [] q31] q32] [] q33,
      .Return (some (.Compare (.Name T.xo q34) [.Eq] [.Constant (.int 0) k8 q35] q36)) q37]

structure CE (T : CT) (env : Env) : Prop where
  fn : env.scope.kind = .function
  gl : env.globals = mainGlobals
  bi : env.builtins = builtinsNs
  la : env.kindOf T.xa = some .local
  lo : env.kindOf T.xo = some .local
  lp : env.kindOf T.xp = some .local
  lc : env.kindOf T.xc = some .local
  gs : env.kindOf ("_strip_quoted_realnames" : Str) = some .globalImplicit
  gi : env.kindOf ("_iter_escaped_chars" : Str) = some .globalImplicit
  hoa : T.xo ≠ T.xa
  hpo : T.xp ≠ T.xo
  hco : T.xc ≠ T.xo
  da : (T.xa == ("__debug__" : Str)) = false
  do' : (T.xo == ("__debug__" : Str)) = false
  dc : (T.xc == ("__debug__" : Str)) = false

section
variable {prog : Program} {w : World} {A : Around} {E : Value → Shared → Prop} {l : List Nat}

/-- the reader of the characters -/
theorem chk_loop {T : CT} {env : Env} (G : CE T env) (hh : A.handled = none) (hroom : A.depth < recursionLimit) (hbr : ∀ c ∈ l, c = 40 ∨ c = 41) {h₀ : Heap} {g0 : Array GenState} {dr : Drawn} {os : OsState} {ga : Addr} {n1 Lg : Nat} {R : Result → Shared → Prop}
    (hl0 : h₀.NoLimit) (hgn : (ga : Nat) < n1) (hgL : (ga : Nat) ≠ Lg) (hLn : (env.locals : Nat) < n1) (hLL : (env.locals : Nat) ≠ Lg) (hga : (ga : Nat) ≠ env.locals) (hh0 : ∀ (b : Nat) o, h₀.get? b = some o → b < n1 ∧ b ≠ Lg ∧ b ≠ env.locals)
    (q9 q10 q11 q15 q16 q17 q18 q19 q20 q21 q22 q23 q24 q25 q26 q27 q28 q29 q30 q31 q32 : Pos) (k2 k3 k4 k5 k6 k7 : Nat) (b1 : List Stmt) (s40 s41 : Str) (h40 : s40 = ⟨#[40]⟩) (h41 : s41 = ⟨#[41]⟩) {s : Shared} {m : Str → Option Value} {gs : GenState} {u : Tok}
    (hs : Ext h₀ s.heap) (hn : s.heap.Ns env.locals m) (hm : m T.xo = some (.int 0 u)) (hg : s.heap.IsGen ga g0.size) (hgs : s.gens = g0.push gs) (hd : s.drawn = dr) (ho : s.os = os)
    (hgo : gs.Goes (model prog w) A.in1 (GP n1 Lg) (GY n1 Lg env.locals l) l.length (.send .none) (s.setGen g0.size .running)) (hpar : parGo 0 l = true)
    (hR : ∀ s' m' u, Ext h₀ s'.heap → s'.heap.Ns env.locals m' → m' T.xo = some (.int 0 u) → s'.gens = g0.push .finished → s'.drawn = dr → s'.os = os → R (.ok .next) s') :
    codeAny (model prog w) A (.forLoop (.Tuple [.Name T.xp q9, .Name T.xc q10] k2 q11) (.ref ga) [.If (.Compare (.Name T.xc q15) [.Eq] [.Constant (.str s40) k3 q16] q17) [.AugAssign (.Name T.xo q18) .Add (.Constant (.int 1) k4 q19) q20]
          [.If (.Compare (.Name T.xc q21) [.Eq] [.Constant (.str s41) k5 q22] q23) [.AugAssign (.Name T.xo q24) .Sub (.Constant (.int 1) k6 q25) q26,
            .If (.Compare (.Name T.xo q27) [.Lt] [.Constant (.int 0) k7 q28] q29) b1 [] q30] [] q31] q32] [] env) R s := by
  have hp : (env.scope.kind == .class || (env.scope.kind == .module && env.locals != env.globals)) = false := by rw [G.fn]; rfl
  refine codeAny_forLoop_any (fun n s => ∃ k gs m z u, k ≤ l.length ∧ n = l.length + 1 - k ∧ Ext h₀ s.heap ∧ s.heap.Ns env.locals m ∧ m T.xo = some (.int z u) ∧ s.heap.IsGen ga g0.size ∧ s.gens = g0.push gs ∧ s.drawn = dr ∧ s.os = os ∧
      gs.Goes (model prog w) A.in1 (GP n1 Lg) (GY n1 Lg env.locals l) (l.length - k) (.send .none) (s.setGen g0.size .running) ∧ parGo z (l.drop k) = true) ?_ (l.length + 1) ⟨0, gs, m, 0, u, Nat.zero_le _, rfl, hs, hn, hm, hg, hgs, hd, ho, hgo, by simpa using hpar⟩
  rintro n s ⟨k, gs, m, z, u, hk, rfl, hs, hn, hm, hg, hgs, hd, ho, hgo, hpar⟩
  refine wpAny_pyNext_gen (P := fun n s₀ s₁ => n = 0 ∧ GK n1 Lg s₀ s₁) (Y := GY n1 Lg env.locals l) hh (hl0.keeps hs) hroom hg (push_get hgs) hgo (fun v s₁ gs' hY => ?_) (fun s₁ hP h' hk' => ?_)
  · obtain ⟨⟨k', t, u1, u2, c, hkk, hck, rfl, ht⟩, hGK, hkap⟩ := hY
    have hlt : k' < l.length := (List.getElem?_eq_some_iff.mp hck).1
    cases hm1 : l.length - k with
    | zero =>
      rw [hm1] at hkap
      exact (hkap s₁ fun _ _ _ e => e).elim
    | succ m1 =>
      rw [hm1] at hkap hkk
      simp only [Nat.succ_sub_one] at hkk
      obtain rfl : k' = k := by omega
      have hcl := hbr c (List.mem_of_getElem? hck)
      have hgens1 : s₁.gens = g0.push .running := hGK.gens.trans (setGen_push hgs)
      have keep1 : ∀ (b : Nat) o, b < n1 → b ≠ Lg → s.heap.get? b = some o → s₁.heap.get? b = some o := hGK.keep
      have hn1' : s₁.heap.Ns env.locals m := hn.at' fun o e => keep1 _ o hLn hLL e
      have hg1 : s₁.heap.IsGen ga g0.size := let ⟨o, nm, qn, h1, r⟩ := hg; ⟨o, nm, qn, keep1 _ o hgn hgL h1, r⟩
      have hs1 : Ext h₀ s₁.heap := fun b o e => keep1 b o (hh0 b o e).1 (hh0 b o e).2.1 (hs b o e)
      dsimp only
      refine letGo_gen (s := s₁.setGen g0.size gs') hg1 ?_
      refine assign_Tuple_tuple (s := s₁.setGen g0.size gs') hh ⟨_, ht, rfl, _, rfl⟩ rfl rfl fun h4 he4 => ?_
      have e4 : Ext s₁.heap h4 := fun b o e => he4 b o (Nat.ne_of_lt (Heap.lt_size e)) e
      refine assignInOrder_cons (wpAny_assign_Name (wpAny_storeName_local G.lp (hn1'.keeps e4) (fun h5 hn5 hs5 => ?_) hp))
      refine assignInOrder_cons (wpAny_assign_Name (wpAny_storeName_local G.lc hn5 (fun h6 hn6 hs6 => ?_) hp))
      refine assignInOrder_nil ?_
      have hmc : (fun y => if y = T.xc then some (Value.str ⟨#[c]⟩ u2) else if y = T.xp then some (Value.int k' u1) else m y) T.xc = some (.str ⟨#[c]⟩ u2) := by simp
      have hmo : (fun y => if y = T.xc then some (Value.str ⟨#[c]⟩ u2) else if y = T.xp then some (Value.int k' u1) else m y) T.xo = some (.int z u) := by simp [Ne.symm G.hco, Ne.symm G.hpo, hm]
      have keep6 : ∀ (b : Nat) o, b ≠ env.locals → s₁.heap.get? b = some o → h6.get? b = some o := fun b o hb e => hs6.extBut b o hb (hs5.extBut b o hb (e4 b o e))
      rw [List.drop_eq_getElem_cons hlt, show l[k'] = c from by rw [List.getElem?_eq_getElem hlt] at hck; exact Option.some.inj hck] at hpar
      -- what is left to do at the turn's end
      have fin : ∀ (h7 : Heap) (tk7 : Nat) (m7 : Str → Option Value) (z7 : Int) (u7 : Tok), (∀ (b : Nat) o, b ≠ env.locals → s₁.heap.get? b = some o → h7.get? b = some o) → h7.Ns env.locals m7 → m7 T.xo = some (.int z7 u7) → parGo z7 (l.drop (k' + 1)) = true →
          ∃ m', m' < l.length + 1 - k' ∧ ∃ k gs m z u, k ≤ l.length ∧ m' = l.length + 1 - k ∧ Ext h₀ h7 ∧ h7.Ns env.locals m ∧ m T.xo = some (.int z u) ∧ h7.IsGen ga g0.size ∧ (s₁.setGen g0.size gs').gens = g0.push gs ∧ s₁.drawn = dr ∧ s₁.os = os ∧
            gs.Goes (model prog w) A.in1 (GP n1 Lg) (GY n1 Lg env.locals l) (l.length - k) (.send .none) (({ s₁.setGen g0.size gs' with heap := h7, toks := tk7 } : Shared).setGen g0.size .running) ∧ parGo z (l.drop k) = true := by
        intro h7 tk7 m7 z7 u7 hk7 hn7 hm7 hp7
        refine ⟨l.length + 1 - (k' + 1), by omega, k' + 1, gs', m7, z7, u7, hlt, rfl, fun b o e => hk7 b o (hh0 b o e).2.2 (hs1 b o e), hn7, hm7, ?_, setGen_push hgens1, hGK.drawn.trans hd, hGK.os.trans ho, ?_, hp7⟩
        · obtain ⟨o, nm, qn, h1, r⟩ := hg1; exact ⟨o, nm, qn, hk7 _ _ hga h1, r⟩
        · rw [show l.length - (k' + 1) = m1 by omega]
          exact hkap _ hk7
      have z0 : parGo z (c :: l.drop (k' + 1)) = true := hpar
      rcases hcl with rfl | rfl
      · -- opened
        have hp7 : parGo (z + 1) (l.drop (k' + 1)) = true := by simpa [parGo] using z0
        refine wpAny_execs_cons (wpAny_If (wpAny_isTrue_Compare1 (hm := beh_eq _) (wpAny_Name (wpAny_loadName_local G.fn G.lc hn6 hmc (wpAny_Constant_str (PyProof.Rows.eq_str (wpAny_truthy_bool ?_)))) G.dc)))
        rw [show ((⟨#[40]⟩ : Str) == s40) = true by rw [h40]; decide, if_pos rfl]
        refine wpAny_execs_cons (wpAny_AugAssign_Name (wpAny_loadName_local G.fn G.lo hn6 hmo (wpAny_Constant_int (PyProof.Rows.iadd_int (wpAny_storeName_local G.lo hn6 (fun h7 hn7 hs7 => ?_) hp)))))
        refine wpAny_execs_nil (wpAny_execs_nil ?_)
        exact fin h7 _ _ _ _ (fun b o hb e => hs7.extBut b o hb (keep6 b o hb e)) hn7 (if_pos rfl) hp7
      · -- closed
        have hz : ¬ (z - 1 < 0) ∧ parGo (z - 1) (l.drop (k' + 1)) = true := by
          simp only [parGo] at z0
          rw [if_neg (by decide)] at z0
          split at z0
          · cases z0
          · rename_i h; exact ⟨by simpa using h, z0⟩
        refine wpAny_execs_cons (wpAny_If (wpAny_isTrue_Compare1 (hm := beh_eq _) (wpAny_Name (wpAny_loadName_local G.fn G.lc hn6 hmc (wpAny_Constant_str (PyProof.Rows.eq_str (wpAny_truthy_bool ?_)))) G.dc)))
        rw [show ((⟨#[41]⟩ : Str) == s40) = false by rw [h40]; decide, if_neg Bool.false_ne_true]
        refine wpAny_execs_cons (wpAny_If (wpAny_isTrue_Compare1 (hm := beh_eq _) (wpAny_Name (wpAny_loadName_local G.fn G.lc hn6 hmc (wpAny_Constant_str (PyProof.Rows.eq_str (wpAny_truthy_bool ?_)))) G.dc)))
        rw [show ((⟨#[41]⟩ : Str) == s41) = true by rw [h41]; decide, if_pos rfl]
        refine wpAny_execs_cons (wpAny_AugAssign_Name (wpAny_loadName_local G.fn G.lo hn6 hmo (wpAny_Constant_int (PyProof.Rows.isub_int (wpAny_storeName_local G.lo hn6 (fun h7 hn7 hs7 => ?_) hp)))))
        refine wpAny_execs_cons (wpAny_If (wpAny_isTrue_Compare1 (hm := beh_lt _) (wpAny_Name (wpAny_loadName_local G.fn G.lo hn7 (if_pos rfl) (wpAny_Constant_int (PyProof.Rows.lt_int (wpAny_truthy_bool ?_)))) G.do')))
        rw [show decide (z - 1 < 0) = false by simpa using hz.1, if_neg Bool.false_ne_true]
        refine wpAny_execs_nil (wpAny_execs_nil (wpAny_execs_nil (wpAny_execs_nil ?_)))
        exact fin h7 _ _ _ _ (fun b o hb e => hs7.extBut b o hb (keep6 b o hb e)) hn7 (if_pos rfl) hz.2
  · obtain ⟨hk0, hGK⟩ := hP
    obtain rfl : k = l.length := by omega
    rw [List.drop_length] at hpar
    have hz : z = 0 := by simpa [parGo] using hpar
    subst hz
    have keep1 : ∀ (b : Nat) o, b < n1 → b ≠ Lg → s.heap.get? b = some o → h'.get? b = some o := fun b o h1 h2 e => hk' b o (hGK.keep b o h1 h2 e)
    have hgens1 : s₁.gens = g0.push .running := hGK.gens.trans (setGen_push hgs)
    refine wpAny_execs_nil (hR _ m u (fun b o e => keep1 b o (hh0 b o e).1 (hh0 b o e).2.1 (hs b o e)) (hn.at' fun o e => keep1 _ o hLn hLL e) hm (setGen_push hgens1) (hGK.drawn.trans hd) (hGK.os.trans ho))
end
end Mine

set_option linter.unusedVariables false
namespace Mine
open PySem PySem.Calls PyProof.Rows

noncomputable def DefAt (h : Heap) (a : Addr) (r : DefRec) : Prop := ∃ o pm code doc, h.get? a = some o ∧ o.data = .func (docDef r.name r.params r.body r.scope pm code doc) ∧ h.CodeRec code r.name
theorem DefAt.mono {h h' : Heap} {a : Addr} {r : DefRec} (x : DefAt h a r) (k : Ext h h') : DefAt h' a r := let ⟨o, pm, code, doc, h1, h2, h3⟩ := x; ⟨o, pm, code, doc, k _ _ h1, h2, h3.keeps k⟩
structure PDefs (aC aS aI : Addr) (rC rS rI : DefRec) (h : Heap) : Prop where
  c : DefAt h aC rC
  s : DefAt h aS rS
  i : DefAt h aI rI
theorem PDefs.ext {aC aS aI : Addr} {rC rS rI : DefRec} : ExtP (PDefs aC aS aI rC rS rI) := fun h h' k x => ⟨x.c.mono k, x.s.mono k, x.i.mono k⟩

/-- a def's record with one argument -/
structure One (r : DefRec) (xa : Str) (gen : Bool) : Prop where
  bind : ∀ (fd : FuncData) (v : Value), fd.params = r.params → fd.defaults = .none → bindArgs fd ⟨[v], []⟩ = pure [(xa, v)]
  fn : r.scope.kind = .function
  co : r.scope.isCoroutine = false
  gen : r.scope.isGenerator = gen
  lx : r.scope.names.lookup xa = some .local

section
variable {prog : Program} {w : World} {ρ : Nat → Int} {FA : Nat → Addr} {mg mb : Str → Option Value} {aC aS aI : Addr} {rC rS rI : DefRec}
theorem chk_ok {TC : CT} {TI : GT} {xs : Str} (hFA : FA 5 = aC) (oC : One rC TC.xa false) (oS : One rS xs false) (oI : One rI TI.xa true) (bC : ChkBody TC rC.body) (bS : StripBody xs rS.body) (bI : IterBody TI rI.body)
    (eC : ∀ env : Env, env.scope = rC.scope → env.globals = mainGlobals → env.builtins = builtinsNs → CE TC env) (eI : ∀ env : Env, env.scope = rI.scope → env.globals = mainGlobals → env.builtins = builtinsNs → GE TI env) (cI : ∀ y ∈ rI.scope.names, y.2 ≠ .cell)
    (ms : mg ("_strip_quoted_realnames" : Str) = some (.ref aS)) (mi : mg ("_iter_escaped_chars" : Str) = some (.ref aI)) (me : mg ("enumerate" : Str) = none ∧ mb ("enumerate" : Str) = some (.type "enumerate")) :
    ChkSnd prog w ρ FA (PDefs aC aS aI rC rS rI) mg mb := by
  intro n A E s X v l Q hA S D hr hp hsm hpar hQ
  rw [hFA]
  cases hr with | str _ t =>
  obtain ⟨o, pm, code, doc, ho, hdat, hcode⟩ := S.chk.c
  have hroom : A.depth + 1 < recursionLimit := by have := hA.depth; omega
  have hbr : ∀ c ∈ l, c = 40 ∨ c = 41 := by
    clear hpar hsm hQ
    induction l with
    | nil => intro c h; cases h
    | cons a l ih =>
      simp only [parOk, Bool.and_eq_true, Bool.or_eq_true] at hp
      intro c h
      rcases List.mem_cons.mp h with rfl | h
      · exact hp.1.imp Nat.eq_of_beq_eq_true Nat.eq_of_beq_eq_true
      · exact ih hp.2 c h
  have h34 : 34 ∉ (⟨l.toArray⟩ : Str).cps.toList := fun h => by
    have := hbr 34 (by simpa using h)
    omega
  refine enter1 (Nat.lt_of_succ_lt hroom) ho hdat S.nolimit hcode rfl (oC.bind _ _ rfl rfl) rfl oC.co oC.gen oC.fn oC.lx fun env E s₁ Q' he hgl hbi hn hext hfr hs hQ' => ?_
  have G := eC env he hgl hbi
  have hp' : (env.scope.kind == .class || (env.scope.kind == .module && env.locals != env.globals)) = false := by rw [G.fn]; rfl
  have hA1 : (A.deeper env).handled = none := hA.hh
  have hd1 : (A.deeper env).depth < recursionLimit := hroom
  have S1 := S.mono PDefs.ext hext
  generalize rC.body = bodyC at bC ⊢
  cases bC with
  | mk q1 q2 q3 q4 q5 q6 q7 q8 q9 q10 q11 q12 q13 q14 q15 q16 q17 q18 q19 q20 q21 q22 q23 q24 q25 q26 q27 q28 q29 q30 q31 q32 q33 q34 q35 q36 q37 k1 k2 k3 k4 k5 k6 k7 k8 b1 s40 s41 h40 h41 =>
  obtain ⟨oS', pmS, codeS, docS, hoS, hdatS, hcodeS⟩ := S1.chk.s
  -- addr = _strip_quoted_realnames(addr)
  refine wpAny_execs_cons (wpAny_Assign_Name (Call_ (Name_function_global G.fn G.gs (loadGlobal_global (env := env) (by rw [G.gl]; exact S1.g) ms ?_) (by decide))))
  refine callWith_def hdatS (args_cons (wpAny_Name (wpAny_loadName_local (v := .str ⟨l.toArray⟩ t) G.fn G.la hn (if_pos rfl) (args_nil ⟨hoS, ?_⟩)) G.da) rfl)
  refine strip_ok hd1 hoS hdatS S1.nolimit hcodeS rfl (fun v => oS.bind _ _ rfl rfl) rfl oS.co oS.gen oS.fn oS.lx bS h34 fun s2 st2 => ?_
  refine wpAny_storeName_local G.la (hn.keeps st2.heap) (fun h3 hn3 hs3 => ?_) hp'
  -- opens = 0
  refine wpAny_execs_cons (wpAny_Assign_Name (wpAny_Constant_int (wpAny_storeName_local G.lo hn3 (fun h4 hn4 hs4 => ?_) hp')))
  have e04 : Ext s.heap h4 := fun b o e => by
    have hb : b ≠ env.locals := fun q => by rw [q, hfr] at e; cases e
    exact hs4.extBut b o hb (hs3.extBut b o hb (st2.heap b o (hext b o e)))
  have S4 := S.mono PDefs.ext e04
  obtain ⟨oI', pmI, codeI, docI, hoI, hdatI, hcodeI⟩ := S4.chk.i
  have hm4a : (fun y => if y = TC.xo then some (Value.int 0 (s2.toks + 1)) else if y = TC.xa then some (Value.str ⟨l.toArray⟩ t) else (if y = TC.xa then some (Value.str ⟨l.toArray⟩ t) else none)) TC.xa = some (.str ⟨l.toArray⟩ t) := by
    simp [Ne.symm G.hoa]
  -- for pos, ch in _iter_escaped_chars(addr)
  refine wpAny_execs_cons (wpAny_For (Call_ (Name_function_global G.fn G.gi (loadGlobal_global (env := env) (by rw [G.gl]; exact S4.g) mi ?_) (by decide))) fun _ => rfl)
  refine callWith_def hdatI (args_cons (wpAny_Name (wpAny_loadName_local (v := .str ⟨l.toArray⟩ t) G.fn G.la hn4 hm4a (args_nil ⟨hoI, ?_⟩)) G.da) rfl)
  refine wpAny_call (codeAny_call_generator hd1 hoI hdatI oI.co oI.gen rfl hcodeI ?_)
  rw [oI.bind _ _ rfl rfl]
  refine wpAny_pure (wpAny_newFunctionEnv cI (fun y hy => by rw [List.mem_singleton] at hy; rw [hy]; exact oI.lx) (fun h5 hn5 hs5 => ?_) oI.fn)
  dsimp only at hn5 hs5 ⊢
  have hLc4 : (env.locals : Nat) < h4.objs.size := let ⟨o, _, _, ho, _⟩ := hn4; Heap.lt_size ho
  have hsz5 : h5.objs.size = h4.objs.size + 1 := by rw [hs5.1, Heap.size_push]
  have e45 : Ext h4 h5 := fun b o e => hs5.extBut b o (Nat.ne_of_lt (Heap.lt_size e)) (Heap.get?_push_of_some _ e)
  refine ⟨S4.nolimit.keeps e45, ?_⟩
  refine wpAny_pyIter_gen (g := s2.gens.size) ⟨_, _, _, Heap.get?_push_size _ rfl, rfl, rfl, rfl⟩ ?_
  have hL5 : (h4.objs.size : Nat) < h5.objs.size := by omega
  have hgn : ∀ (a : Nat) m, h4.Ns a m → a < h4.objs.size := fun a m h => let ⟨o, _, _, ho, _⟩ := h; Heap.lt_size ho
  have hfr0 : (env.locals : Nat) ≠ h4.objs.size := Nat.ne_of_lt hLc4
  have hszp : ∀ o : Obj, (h5.push o).objs.size = h5.objs.size + 1 := fun o => Heap.size_push ..
  refine chk_loop G hA1 hd1 hbr (h₀ := s.heap) (g0 := s2.gens) (dr := s2.drawn) (os := s2.os) (ga := h5.objs.size) (n1 := h5.objs.size + 1) (Lg := h4.objs.size) S.nolimit (Nat.lt_succ_self _) (Nat.ne_of_gt hL5)
    (Nat.lt_succ_of_lt (Nat.lt_trans hLc4 hL5)) hfr0 (Nat.ne_of_gt (Nat.lt_trans hLc4 hL5)) (fun b o e => ?_) q9 q10 q11 q15 q16 q17 q18 q19 q20 q21 q22 q23 q24 q25 q26 q27 q28 q29 q30 q31 q32 k2 k3 k4 k5 k6 k7 b1 s40 s41 h40 h41
    (fun b o e => Heap.get?_push_of_some _ (e45 b o (e04 b o e))) ((hn4.keeps e45).push _) (if_pos rfl) ⟨_, _, _, Heap.get?_push_size _ rfl, rfl, rfl, rfl⟩ rfl rfl rfl ⟨rfl, ?_⟩ hpar ?_
  · have h1 : b < h4.objs.size := Heap.lt_size (e04 b o e)
    exact ⟨Nat.lt_succ_of_lt (Nat.lt_trans h1 hL5), Nat.ne_of_lt h1, fun q => by rw [q, hfr] at e; cases e⟩
  · refine gen_start' (mg := mg) (mb := mb) (m := fun y => List.lookup y [(TI.xa, Value.str ⟨l.toArray⟩ t)].reverse) (tx := t) ?_ ?_ (show (A.deeper env).in1.handled = none from hA.hh) hbr rfl bI ?_ ?_ ?_ ?_ me ?_ ?_ ?_ ?_ ?_ ?_
    · rfl
    · exact eI _ rfl rfl rfl
    · exact hn5.push _
    · show List.lookup TI.xa [(TI.xa, _)] = _
      simp
    · exact ((S4.g).keeps e45).push _
    · exact ((S4.b).keeps e45).push _
    · exact Nat.lt_succ_of_lt hL5
    · exact Nat.lt_succ_of_lt (Nat.lt_trans hLc4 hL5)
    · exact Ne.symm hfr0
    · exact Nat.le_of_eq (hszp _).symm
    · exact Nat.ne_of_lt (hgn _ _ S4.g)
    · exact Nat.ne_of_lt (hgn _ _ S4.b)
  · intro s' m' u hx hn' hm' hg' hd' ho'
    refine wpAny_execs_cons (wpAny_Return_some (wpAny_Compare1 (hm := beh_eq _) (wpAny_Name (wpAny_loadName_local G.fn G.lo hn' hm' (wpAny_Constant_int (PyProof.Rows.eq_int ?_))) G.do')))
    refine hQ' _ _ (hQ _ ⟨hx, fun g => ?_, hd'.trans (st2.drawn.trans hs.2.1), ho'.trans (st2.os.trans hs.2.2)⟩)
    show AllBare s'.gens
    rw [hg']
    exact (st2.gens (by rw [hs.1]; exact g)).push rfl
end
end Mine

set_option linter.unusedVariables false
namespace Mine
open PySem PySem.Calls PyProof.Rows

noncomputable def oneOk (r : DefRec) (xa : Str) (gen : Bool) : Bool := argsOk r.params [xa] 1 && decide (r.scope.kind = .function) && !r.scope.isCoroutine && decide (r.scope.isGenerator = gen) && isL r.scope.names xa
theorem oneOk_ok {r : DefRec} {xa : Str} {gen : Bool} (hB : BindsAs [xa] 1) (h : oneOk r xa gen = true) : One r xa gen := by
  simp only [oneOk, Bool.and_eq_true, decide_eq_true_eq, isL, Bool.not_eq_true'] at h
  obtain ⟨⟨⟨⟨h1, h2⟩, h3⟩, h4⟩, h5⟩ := h
  exact ⟨fun fd v hp hd => hB fd (by rw [hp]; exact h1) hd [v] rfl, h2, h3, h4, h5⟩

noncomputable def isCall (f x : Str) (e : PySem.Expr) : Bool := kCall f (one (isName x)) e
theorem isCall_ok {f x : Str} {e : PySem.Expr} (h : isCall f x e = true) : ∃ p1 p2 p3, e = .Call (.Name f p1) [.Name x p2] [] p3 := by
  obtain ⟨p1, l, p3, rfl, h1⟩ := kCall_ok h
  obtain ⟨a, rfl, h3⟩ := one_ok h1
  obtain ⟨p2, rfl⟩ := isName_ok h3
  exact ⟨_, _, _, rfl⟩
noncomputable def isTup (x y : Str) (e : PySem.Expr) : Bool := eTuple (fun l _ _ => two (isName x) (isName y) l) e
theorem isTup_ok {x y : Str} {e : PySem.Expr} (h : isTup x y e = true) : ∃ p1 p2 k p, e = .Tuple [.Name x p1, .Name y p2] k p := by
  obtain ⟨l, k, p, rfl, h1⟩ := eTuple_ok h
  obtain ⟨a, b, rfl, h2, h3⟩ := two_ok h1
  obtain ⟨p1, rfl⟩ := isName_ok h2
  obtain ⟨p2, rfl⟩ := isName_ok h3
  exact ⟨_, _, _, _, rfl⟩
noncomputable def isAsg (x : Str) (f : PySem.Expr → Bool) (s : Stmt) : Bool := sAssign (fun ts e _ => one (isName x) ts && f e) s
theorem isAsg_ok {x : Str} {f : PySem.Expr → Bool} {s : Stmt} (h : isAsg x f s = true) : ∃ p1 e p, s = .Assign [.Name x p1] e p ∧ f e = true := by
  obtain ⟨ts, e, p, rfl, h1⟩ := sAssign_ok h
  obtain ⟨a, rfl, h2⟩ := one_ok (and_l h1)
  obtain ⟨p1, rfl⟩ := isName_ok h2
  exact ⟨_, _, _, rfl, and_r h1⟩
noncomputable def isAug (op : Operator) (x : Str) (s : Stmt) : Bool := sAugAssign (fun t o e _ => isName x t && (decide (o = op) && kInt 1 e)) s
theorem isAug_ok {op : Operator} {x : Str} {s : Stmt} (h : isAug op x s = true) : ∃ p1 k p2 p, s = .AugAssign (.Name x p1) op (.Constant (.int 1) k p2) p := by
  obtain ⟨t, o, e, p, rfl, h1⟩ := sAugAssign_ok h
  obtain ⟨p1, rfl⟩ := isName_ok (and_l h1)
  obtain rfl := of_decide_eq_true (and_l (and_r h1))
  obtain ⟨k, p2, rfl⟩ := kInt_ok (and_r (and_r h1))
  exact ⟨_, _, _, _, rfl⟩
noncomputable def isIf (c : PySem.Expr → Bool) (t f : List Stmt → Bool) (s : Stmt) : Bool := sIf (fun e a b _ => c e && (t a && f b)) s
theorem isIf_ok {c : PySem.Expr → Bool} {t f : List Stmt → Bool} {s : Stmt} (h : isIf c t f s = true) : ∃ e a b p, s = .If e a b p ∧ c e = true ∧ t a = true ∧ f b = true := by
  obtain ⟨e, a, b, p, rfl, h1⟩ := sIf_ok h
  exact ⟨_, _, _, _, rfl, and_l h1, and_l (and_r h1), and_r (and_r h1)⟩
noncomputable def isFor (x y : Str) (i : PySem.Expr → Bool) (b : Stmt → Bool) (s : Stmt) : Bool := sFor (fun t e l o _ => isTup x y t && (i e && (one b l && o.isEmpty))) s
theorem isFor_ok {x y : Str} {i : PySem.Expr → Bool} {b : Stmt → Bool} {s : Stmt} (h : isFor x y i b s = true) : ∃ p1 p2 k p3 e st p, s = .For (.Tuple [.Name x p1, .Name y p2] k p3) e [st] [] p ∧ i e = true ∧ b st = true := by
  obtain ⟨t, e, l, o, p, rfl, h1⟩ := sFor_ok h
  obtain ⟨p1, p2, k, p3, rfl⟩ := isTup_ok (and_l h1)
  have h2 := and_r h1
  obtain ⟨st, rfl, h4⟩ := one_ok (and_l (and_r h2))
  obtain rfl := List.isEmpty_iff.mp (and_r (and_r h2))
  exact ⟨_, _, _, _, _, _, _, rfl, and_l h2, h4⟩
noncomputable def isRet (f : PySem.Expr → Bool) (s : Stmt) : Bool := sReturn (fun v _ => yes? f v) s
theorem isRet_ok {f : PySem.Expr → Bool} {s : Stmt} (h : isRet f s = true) : ∃ e p, s = .Return (some e) p ∧ f e = true := by
  obtain ⟨v, p, rfl, h1⟩ := sReturn_ok h
  obtain ⟨e, rfl, h2⟩ := yes?_ok h1
  exact ⟨e, p, rfl, h2⟩
noncomputable def isYield (f : PySem.Expr → Bool) (s : Stmt) : Bool := sExpr (fun e _ => eYield (fun o _ => yes? f o) e) s
theorem isYield_ok {f : PySem.Expr → Bool} {s : Stmt} (h : isYield f s = true) : ∃ e p1 p, s = .Expr (.Yield (some e) p1) p ∧ f e = true := by
  obtain ⟨v, p, rfl, h1⟩ := sExpr_ok h
  obtain ⟨o, p1, rfl, h2⟩ := eYield_ok h1
  obtain ⟨e, rfl, h3⟩ := yes?_ok h2
  exact ⟨e, p1, p, rfl, h3⟩
noncomputable def nil? {α : Type} (l : List α) : Bool := l.isEmpty
noncomputable def any? {α : Type} (_ : List α) : Bool := true

noncomputable def isStrip (x : Str) : List Stmt → Bool
  | s :: _ => isIf (kCmp .NotIn (kStr ⟨#[34]⟩) (isName x)) (one (isRet (isName x))) nil? s
  | [] => false
theorem stripOf_ok {x : Str} {b : List Stmt} (hd : noDbg x = true) (h : isStrip x b = true) : StripBody x b := by
  cases b with
  | nil => cases h
  | cons s rest =>
    obtain ⟨e, a, f, p, rfl, h1, h2, h3⟩ := isIf_ok h
    obtain ⟨l, r, p2, rfl, h4, h5⟩ := kCmp_ok h1
    obtain ⟨k, p3, rfl⟩ := kStr_ok h4
    obtain ⟨p4, rfl⟩ := isName_ok h5
    obtain ⟨s2, rfl, h6⟩ := one_ok h2
    obtain ⟨e2, p5, rfl, h7⟩ := isRet_ok h6
    obtain ⟨p6, rfl⟩ := isName_ok h7
    simp only [nil?, List.isEmpty_iff] at h3
    subst h3
    exact .mk _ _ _ _ _ _ _ _ _ rfl (by simpa [noDbg] using hd)
noncomputable def four {α : Type} (f g h k : α → Bool) : List α → Bool
  | [a, b, c, d] => f a && (g b && (h c && k d))
  | _ => false
theorem four_ok {α : Type} {f g h k : α → Bool} {l : List α} (e : four f g h k l = true) : ∃ a b c d, l = [a, b, c, d] ∧ f a = true ∧ g b = true ∧ h c = true ∧ k d = true := by
  match l, e with
  | [a, b, c, d], e => exact ⟨a, b, c, d, rfl, and_l e, and_l (and_r e), and_l (and_r (and_r e)), and_r (and_r (and_r e))⟩
theorem nil?_ok {α : Type} {l : List α} (h : nil? l = true) : l = [] := List.isEmpty_iff.mp h
theorem cmpStr {op : CmpOp} {x s : Str} {e : PySem.Expr} (h : kCmp op (isName x) (kStr s) e = true) : ∃ q1 q2 q3 k, e = .Compare (.Name x q1) [op] [.Constant (.str s) k q2] q3 := by
  obtain ⟨l, r, p2, rfl, h4, h5⟩ := kCmp_ok h
  obtain ⟨k, p3, rfl⟩ := kStr_ok h5
  obtain ⟨p4, rfl⟩ := isName_ok h4
  exact ⟨_, _, _, _, rfl⟩
theorem cmpInt {op : CmpOp} {x : Str} {z : Int} {e : PySem.Expr} (h : kCmp op (isName x) (kInt z) e = true) : ∃ q1 q2 q3 k, e = .Compare (.Name x q1) [op] [.Constant (.int z) k q2] q3 := by
  obtain ⟨l, r, p2, rfl, h4, h5⟩ := kCmp_ok h
  obtain ⟨k, p3, rfl⟩ := kInt_ok h5
  obtain ⟨p4, rfl⟩ := isName_ok h4
  exact ⟨_, _, _, _, rfl⟩
theorem asgInt {x : Str} {z : Int} {s : Stmt} (h : isAsg x (kInt z) s = true) : ∃ q1 q2 q3 k, s = .Assign [.Name x q1] (.Constant (.int z) k q2) q3 := by
  obtain ⟨p1, e1, p2, rfl, h1⟩ := isAsg_ok h
  obtain ⟨k, p3, rfl⟩ := kInt_ok h1
  exact ⟨_, _, _, _, rfl⟩

inductive YieldS (T : GT) : Stmt → Prop
  | mk (q17 q18 q19 q20 q21 : Pos) (k5 : Nat) : YieldS T (.Expr (.Yield (some (.Tuple [.Name T.xp q17, .Name T.xc q18] k5 q19)) q20) q21)
inductive InnerS (T : GT) : Stmt → Prop
  | mk {s : Stmt} (q14 q15 q16 q22 : Pos) (k4 : Nat) (b2 : List Stmt) : YieldS T s → InnerS T (.If (.Compare (.Name T.xc q14) [.Eq] [.Constant (.str ⟨#[92]⟩) k4 q15] q16) b2 [s] q22)
noncomputable def isYS (T : GT) : Stmt → Bool := isYield (isTup T.xp T.xc)
theorem isYS_ok {T : GT} {s : Stmt} (h : isYS T s = true) : YieldS T s := by
  obtain ⟨e7, p20, p21, rfl, h15⟩ := isYield_ok h
  obtain ⟨p22, p23, k5, p24, rfl⟩ := isTup_ok h15
  exact .mk _ _ _ _ _ _
noncomputable def isIS (T : GT) : Stmt → Bool := isIf (kCmp .Eq (isName T.xc) (kStr ⟨#[92]⟩)) any? (one (isYS T))
theorem isIS_ok {T : GT} {s : Stmt} (h : isIS T s = true) : InnerS T s := by
  obtain ⟨e5, a5, b5, p16, rfl, h10, _, h11⟩ := isIf_ok h
  obtain ⟨q1, q2, q3, k, rfl⟩ := cmpStr h10
  obtain ⟨st3, rfl, h14⟩ := one_ok h11
  exact .mk _ _ _ _ _ _ (isYS_ok h14)
noncomputable def isIter (T : GT) : List Stmt → Bool := four (isAsg T.xp (kInt 0)) (isAsg T.xe (kBool false)) (isFor T.xp T.xc (isCall ("enumerate" : Str) T.xa) (isIf (isName T.xe) any? (one (isIS T)))) (isIf (isName T.xe) any? nil?)
theorem iterOf_ok {T : GT} {b : List Stmt} (h : isIter T b = true) : IterBody T b := by
  obtain ⟨s1, s2, s3, s4, rfl, h1, h2, h3, h4⟩ := four_ok h
  obtain ⟨q1, q2, q3, k1, rfl⟩ := asgInt h1
  obtain ⟨p4, e2, p5, rfl, h2a⟩ := isAsg_ok h2
  obtain ⟨k2, p6, rfl⟩ := kBool_ok h2a
  obtain ⟨e8, a8, b8, p25, rfl, h16, _, h17⟩ := isIf_ok h4
  obtain ⟨p26, rfl⟩ := isName_ok h16
  obtain rfl := nil?_ok h17
  obtain ⟨p7, p8, k3, p9, e3, st, p10, rfl, h5, h6⟩ := isFor_ok h3
  obtain ⟨p11, p12, p13, rfl⟩ := isCall_ok h5
  obtain ⟨e4, a4, b4, p14, rfl, h7, _, h8⟩ := isIf_ok h6
  obtain ⟨p15, rfl⟩ := isName_ok h7
  obtain ⟨st2, rfl, h9⟩ := one_ok h8
  have h10 := isIS_ok h9
  clear h h1 h2 h3 h4 h2a h16 h17 h5 h6 h7 h8 h9
  cases h10 with
  | mk q14 q15 q16 q22 k4 b2 hy =>
    cases hy
    exact .mk _ _ _ _ _ _ _ _ _ _ _ _ _ _ _ _ _ _ _ _ _ _ _ _ _ _ _ _ _ _ _ _ _ _ _ rfl

inductive CloseS (T : CT) : List Stmt → Prop
  | mk (q24 q25 q26 q27 q28 q29 q30 : Pos) (k6 k7 : Nat) (b1 : List Stmt) : CloseS T [.AugAssign (.Name T.xo q24) .Sub (.Constant (.int 1) k6 q25) q26, .If (.Compare (.Name T.xo q27) [.Lt] [.Constant (.int 0) k7 q28] q29) b1 [] q30]
inductive ParS (T : CT) : Stmt → Prop
  | mk {l : List Stmt} (q21 q22 q23 q31 : Pos) (k5 : Nat) : CloseS T l → ParS T (.If (.Compare (.Name T.xc q21) [.Eq] [.Constant (.str ⟨#[41]⟩) k5 q22] q23) l [] q31)
inductive OpenS (T : CT) : Stmt → Prop
  | mk {s : Stmt} (q15 q16 q17 q18 q19 q20 q32 : Pos) (k3 k4 : Nat) : ParS T s → OpenS T (.If (.Compare (.Name T.xc q15) [.Eq] [.Constant (.str ⟨#[40]⟩) k3 q16] q17) [.AugAssign (.Name T.xo q18) .Add (.Constant (.int 1) k4 q19) q20] [s] q32)
noncomputable def isClose (T : CT) : List Stmt → Bool := two (isAug .Sub T.xo) (isIf (kCmp .Lt (isName T.xo) (kInt 0)) any? nil?)
theorem isClose_ok {T : CT} {l : List Stmt} (h : isClose T l = true) : CloseS T l := by
  obtain ⟨s1, s2, rfl, h1, h2⟩ := two_ok h
  obtain ⟨p27, k6, p28, p29, rfl⟩ := isAug_ok h1
  obtain ⟨e8, a8, b8, p30, rfl, h21, _, h22⟩ := isIf_ok h2
  obtain ⟨q1, q2, q3, k, rfl⟩ := cmpInt h21
  obtain rfl := nil?_ok h22
  exact .mk _ _ _ _ _ _ _ _ _ _
noncomputable def isPar (T : CT) : Stmt → Bool := isIf (kCmp .Eq (isName T.xc) (kStr ⟨#[41]⟩)) (isClose T) nil?
theorem isPar_ok {T : CT} {s : Stmt} (h : isPar T s = true) : ParS T s := by
  obtain ⟨e6, a6, b6, p23, rfl, h15, h16, h17⟩ := isIf_ok h
  obtain ⟨q1, q2, q3, k, rfl⟩ := cmpStr h15
  obtain rfl := nil?_ok h17
  exact .mk _ _ _ _ _ (isClose_ok h16)
noncomputable def isOpen (T : CT) : Stmt → Bool := isIf (kCmp .Eq (isName T.xc) (kStr ⟨#[40]⟩)) (one (isAug .Add T.xo)) (one (isPar T))
theorem isOpen_ok {T : CT} {s : Stmt} (h : isOpen T s = true) : OpenS T s := by
  obtain ⟨e4, a4, b4, p16, rfl, h7, h8, h9⟩ := isIf_ok h
  obtain ⟨q1, q2, q3, k, rfl⟩ := cmpStr h7
  obtain ⟨st2, rfl, h12⟩ := one_ok h8
  obtain ⟨p20, k4, p21, p22, rfl⟩ := isAug_ok h12
  obtain ⟨st3, rfl, h14⟩ := one_ok h9
  exact .mk _ _ _ _ _ _ _ _ _ (isPar_ok h14)
noncomputable def isCheck (T : CT) : List Stmt → Bool := four (isAsg T.xa (isCall ("_strip_quoted_realnames" : Str) T.xa)) (isAsg T.xo (kInt 0)) (isFor T.xp T.xc (isCall ("_iter_escaped_chars" : Str) T.xa) (isOpen T)) (isRet (kCmp .Eq (isName T.xo) (kInt 0)))
theorem checkOf_ok {T : CT} {b : List Stmt} (h : isCheck T b = true) : ChkBody T b := by
  obtain ⟨s1, s2, s3, s4, rfl, h1, h2, h3, h4⟩ := four_ok h
  obtain ⟨p1, e1, p2, rfl, h1a⟩ := isAsg_ok h1
  obtain ⟨p3, p4, p5, rfl⟩ := isCall_ok h1a
  obtain ⟨q6, q7, q8, k1, rfl⟩ := asgInt h2
  obtain ⟨e10, p34, rfl, h25⟩ := isRet_ok h4
  obtain ⟨q34, q35, q36, k8, rfl⟩ := cmpInt h25
  obtain ⟨p9, p10, k2, p11, e3, st, p12, rfl, h5, h6⟩ := isFor_ok h3
  obtain ⟨p13, p14, p15, rfl⟩ := isCall_ok h5
  have h7 := isOpen_ok h6
  clear h h1 h2 h3 h4 h1a h25 h5 h6
  cases h7 with
  | mk q15 q16 q17 q18 q19 q20 q32 k3 k4 hp =>
    cases hp with
    | mk q21 q22 q23 q31 k5 hc =>
      cases hc
      exact .mk _ _ _ _ _ _ _ _ _ _ _ _ _ _ _ _ _ _ _ _ _ _ _ _ _ _ _ _ _ _ _ _ _ _ _ _ _ _ _ _ _ _ _ _ _ _ _ _ rfl rfl
noncomputable def TC : CT := ⟨"addr", "opens", "pos", "ch"⟩
noncomputable def TI : GT := ⟨"pos", "escape", "ch", "addr"⟩

noncomputable def geOk (T : GT) (sc : Scope) : Bool := isL sc.names T.xp && isL sc.names T.xe && isL sc.names T.xc && isG sc.names ("enumerate" : Str) && decide (T.xp ≠ T.xe) && decide (T.xc ≠ T.xe) && decide (T.xp ≠ T.xc) && decide (T.xp ≠ T.xa) && decide (T.xe ≠ T.xa) &&
  noDbg T.xp && noDbg T.xe && noDbg T.xc && noDbg T.xa && sc.names.all fun y => decide (y.2 ≠ .cell)
noncomputable def ceOk (T : CT) (sc : Scope) : Bool := isL sc.names T.xo && isL sc.names T.xp && isL sc.names T.xc && isG sc.names ("_strip_quoted_realnames" : Str) && isG sc.names ("_iter_escaped_chars" : Str) && decide (T.xo ≠ T.xa) && decide (T.xp ≠ T.xo) && decide (T.xc ≠ T.xo) && noDbg T.xa && noDbg T.xo && noDbg T.xc
noncomputable def parDefsOk (p : Program) : Bool := match findDef p "_check_parenthesis", findDef p "_strip_quoted_realnames", findDef p "_iter_escaped_chars" with
  | some rC, some rS, some rI => isCheck TC rC.body && isStrip ("addr" : Str) rS.body && isIter TI rI.body && (oneOk rC TC.xa false && oneOk rS ("addr" : Str) false && oneOk rI TI.xa true && ceOk TC rC.scope && geOk TI rI.scope)
  | _, _, _ => false
theorem findDef_mem {p : Program} {nm : String} {r : DefRec} (h : findDef p nm = some r) : r ∈ recsOf p ∧ r.name = Str.ofString nm := by
  unfold findDef at h
  exact ⟨List.mem_of_find?_eq_some h, by simpa using List.find?_some h⟩

/-- what the checks give -/
theorem parDefs_ok {prog : Program} {w : World} {ρ : Nat → Int} {FA : Nat → Addr} {mg mb : Str → Option Value} {p : Program} {h : Heap} (hp : parDefsOk p = true)
    (fn : ∀ d ∈ recsOf p, ∃ a o pm code doc, mg d.name = some (.ref a) ∧ h.get? a = some o ∧ o.data = .func (docDef d.name d.params d.body d.scope pm code doc) ∧ h.CodeRec code d.name) (me : mg ("enumerate" : Str) = none ∧ mb ("enumerate" : Str) = some (.type "enumerate"))
    (h5 : ∀ a, mg ("_check_parenthesis" : Str) = some (.ref a) → FA 5 = a) :
    ∃ Chk : Heap → Prop, ExtP Chk ∧ Chk h ∧ ChkSnd prog w ρ FA Chk mg mb ∧ ∃ o fd, h.get? (FA 5) = some o ∧ o.data = .func fd := by
  unfold parDefsOk at hp
  split at hp
  · rename_i rC rS rI hC hS hI
    · simp only [Bool.and_eq_true] at hp
      obtain ⟨⟨⟨hTC, hxs⟩, hTI⟩, ⟨⟨⟨h1, h2⟩, h3⟩, h4⟩, h6⟩ := hp
      obtain ⟨mC, nC⟩ := findDef_mem hC
      obtain ⟨mS, nS⟩ := findDef_mem hS
      obtain ⟨mI, nI⟩ := findDef_mem hI
      obtain ⟨aC, oC, pmC, cC, dC, gC, hoC, hdC, hcC⟩ := fn rC mC
      obtain ⟨aS, oS, pmS, cS, dS, gS, hoS, hdS, hcS⟩ := fn rS mS
      obtain ⟨aI, oI, pmI, cI, dI, gI, hoI, hdI, hcI⟩ := fn rI mI
      rw [nC] at gC
      rw [nS] at gS
      rw [nI] at gI
      have hFA := h5 aC gC
      simp only [ceOk, geOk, Bool.and_eq_true, isL, isG, decide_eq_true_eq, noDbg, Bool.not_eq_true', List.all_eq_true] at h4 h6
      obtain ⟨⟨⟨⟨⟨⟨⟨⟨⟨⟨c1, c2⟩, c3⟩, c4⟩, c5⟩, c6⟩, c7⟩, c8⟩, c9⟩, c10⟩, c11⟩ := h4
      obtain ⟨⟨⟨⟨⟨⟨⟨⟨⟨⟨⟨⟨⟨g1, g2⟩, g3⟩, g4⟩, g5⟩, g6⟩, g7⟩, g8⟩, g9⟩, g10⟩, g11⟩, g12⟩, g13⟩, g14⟩ := h6
      have OC := oneOk_ok binds_addr h1
      have OI := oneOk_ok binds_addr h3
      refine ⟨PDefs aC aS aI rC rS rI, PDefs.ext, ⟨⟨oC, _, _, _, hoC, hdC, hcC⟩, ⟨oS, _, _, _, hoS, hdS, hcS⟩, ⟨oI, _, _, _, hoI, hdI, hcI⟩⟩, ?_, ⟨oC, _, by rw [hFA]; exact hoC, hdC⟩⟩
      refine chk_ok hFA OC (oneOk_ok binds_addr h2) OI (checkOf_ok hTC) (stripOf_ok (by decide) hxs) (iterOf_ok hTI) (fun env he hg hb => ?_) (fun env he hg hb => ?_) g14 gS gI me
      · have k : ∀ x, env.kindOf x = rC.scope.names.lookup x := fun x => by unfold Env.kindOf; rw [he]
        exact ⟨by rw [he]; exact OC.fn, hg, hb, (k _).trans OC.lx, (k _).trans c1, (k _).trans c2, (k _).trans c3, (k _).trans c4, (k _).trans c5, c6, c7, c8, c9, c10, c11⟩
      · have k : ∀ x, env.kindOf x = rI.scope.names.lookup x := fun x => by unfold Env.kindOf; rw [he]
        exact ⟨by rw [he]; exact OI.fn, by rw [he]; exact OI.co, hg, hb, (k _).trans g1, (k _).trans g2, (k _).trans g3, (k _).trans OI.lx, (k _).trans g4, g5, g6, g7, g8, g9, g10, g11, g12, g13⟩
  · cases hp
end Mine

set_option linter.unusedVariables false
set_option maxRecDepth 100000
namespace Mine
open PySem PySem.Calls PyProof.Rows

noncomputable def side (z : Int) : Int := 1 + z.fmod 9
noncomputable def cut (ns : List Int) : List Int := (ns ++ [0, 0, 0]).take (max 3 (min 6 ns.length))
theorem cut_length (ns : List Int) : (cut ns).length = 3 ∨ (cut ns).length = 4 ∨ (cut ns).length = 5 ∨ (cut ns).length = 6 := by
  unfold cut
  have h0 : max 3 (min 6 ns.length) ≤ ns.length + ([0, 0, 0] : List Int).length := Nat.max_le.mpr ⟨Nat.le_add_left 3 _, Nat.le_trans (Nat.min_le_right _ _) (Nat.le_add_right _ _)⟩
  rw [List.length_take, List.length_append, Nat.min_eq_left h0]
  clear h0
  have h1 : 3 ≤ max 3 (min 6 ns.length) := Nat.le_max_left _ _
  have h2 : max 3 (min 6 ns.length) ≤ 6 := Nat.max_le.mpr ⟨by decide, Nat.min_le_left _ _⟩
  generalize max 3 (min 6 ns.length) = m at h1 h2
  omega
noncomputable def rho (zs : List Int) (i : Nat) : Int := match zs[i]? with
  | some z => side z
  | none => 1
theorem side_rng (z : Int) : 1 ≤ side z ∧ side z ≤ 9 := by
  unfold side
  rw [Int.fmod_eq_emod_of_nonneg _ (by omega)]
  have := Int.emod_nonneg z (show (9 : Int) ≠ 0 by omega)
  have := Int.emod_lt_of_pos z (show (0 : Int) < 9 by omega)
  omega
theorem rho_rng (zs : List Int) : Rng (rho zs) := fun i => by
  unfold rho
  split
  · exact side_rng _
  · omega

theorem rep_sides {ρ : Nat → Int} {G : Vw} : ∀ (l : List Int) (i0 : Nat) (vs : List Value), (∀ j z, l[j]? = some z → ρ (i0 + j) = side z) → RepVs ρ G vs (l.map fun z => AV.int (side z)) → RepVs ρ G vs (symL i0 l.length)
  | [], i0, vs, h, r => r
  | z :: l, i0, vs, h, r => by
    cases r with
    | cons r1 rs =>
      cases r1 with
      | int _ t =>
        have h0 := h 0 z rfl
        simp only [Nat.add_zero] at h0
        refine .cons ?_ (rep_sides l (i0 + 1) _ (fun j z' hj => by rw [Nat.add_assoc, Nat.add_comm 1 j]; exact h (j + 1) z' hj) rs)
        rw [← h0]
        exact .sym (.v i0) t
theorem rep_list {ρ : Nat → Int} {G : Vw} {v : Value} {zs : List Int} (hρ : ∀ j z, zs[j]? = some z → ρ j = side z) (r : RepV ρ G v (.list (zs.map fun z => AV.int (side z)))) : RepV ρ G v (.list (symL 0 zs.length)) := by
  cases r with
  | list h c d rs => exact .list h c d (rep_sides zs 0 _ (fun j z hj => by rw [Nat.zero_add]; exact hρ j z hj) rs)

section
variable {prog : Program} {w : World} {ρ : Nat → Int} {FA : Nat → Addr} {Chk : Heap → Prop} {mg mb : Str → Option Value}
variable {s : Shared} {env : Env} {nk : NK} {ns : List Str} {X : List Addr} {h₀ : Heap} {am : Option Addr} {st : St}
theorem FI.conv (F : FI prog w ρ FA Chk mg mb env nk ns X h₀ am st s) {st' : St} (hmu : st'.mu = st.mu) (hv : ∀ i v', getV st'.vars i = some v' → ∃ v, getV st.vars i = some v ∧ ∀ G val, RepV ρ G val v → RepV ρ G val v') : FI prog w ρ FA Chk mg mb env nk ns X h₀ am st' s :=
  { stat0 := F.stat0, pl := F.pl, h0 := F.h0, fr0 := F.fr0, amX := F.amX, dom := F.dom
    vars := fun i x v' hi h => let ⟨v, h1, h2⟩ := hv i v' h; let ⟨val, h3, h4⟩ := F.vars i x v hi h1; ⟨val, h3, h2 _ _ h4⟩
    mu := hmu ▸ F.mu }
end

theorem comp_sides {r : Rec} {c : Ctx} (h : ∀ z : Int, r.ev ⟨[some (.int z)], c.own, c.mu⟩ (.add (.int 1) (.mod (.var 0) 9)) = some (.int (side z))) : ∀ l : List Int, compL r c (.add (.int 1) (.mod (.var 0) 9)) none none (l.map AV.int) = some (l.map fun z => AV.int (side z))
  | [] => rfl
  | z :: l => by
    simp only [List.map_cons, compL, bindT, condV, h, comp_sides h l]

noncomputable def script0 (ns : List Int) : List (Option AV) := [some (.list (ns.map AV.int)), none, none, none, none, none, none, none, none, none]
theorem cut_k (n : Nat) : (if (if (n : Int) < 6 then (n : Int) else 6) > 3 then (if (n : Int) < 6 then (n : Int) else 6) else 3) = ((max 3 (min 6 n) : Nat) : Int) := by
  by_cases h : (n : Int) < 6
  · simp only [if_pos h]
    by_cases h' : (n : Int) > 3
    · rw [if_pos h']; omega
    · rw [if_neg h']; omega
  · simp only [if_neg h]
    rw [if_pos (by omega)]; omega
theorem elt_side (n : Nat) (z : Int) (o : List (Option AV)) (mu : Option (Nat × MO)) : (R (n + 3)).ev ⟨[some (.int z)], o, mu⟩ (.add (.int 1) (.mod (.var 0) 9)) = some (.int (side z)) := by
  rfl
theorem it_cut (n : Nat) (ns : List Int) (hn : ns.length ≤ 63) (o : List (Option AV)) (mu : Option (Nat × MO)) : (R (n + 6)).ev ⟨script0 ns, o, mu⟩ (.slToE (.add (.var 0) (.list [.int 0, .int 0, .int 0])) (.max2 (.int 3) (.min2 (.int 6) (.len (.var 0))))) = some (.list ((cut ns).map AV.int)) := by
  have hb : ∀ n : Nat, n ≤ 1000 → small n = true := fun n h => Nat.ble_eq_true_of_le h
  have hlen : small ns.length = true := hb _ (by omega)
  have h1 : small (ns.length + 3) = true := hb _ (by omega)
  have h1' : Nat.ble (ns.length + 3) 1000 = true := h1
  have e1 : (R (n + 5)).ev ⟨script0 ns, o, mu⟩ (.add (.var 0) (.list [.int 0, .int 0, .int 0])) = some (.list (ns.map AV.int ++ [.int 0, .int 0, .int 0])) := by
    show addV (.list (ns.map AV.int)) (.list [.int 0, .int 0, .int 0]) = _
    show alt (when (Nat.ble ((ns.map AV.int).length + 3) 1000) (some (AV.list (ns.map AV.int ++ [.int 0, .int 0, .int 0])))) none = _
    rw [List.length_map, h1']
    rfl
  have e2 : (R (n + 5)).ev ⟨script0 ns, o, mu⟩ (.max2 (.int 3) (.min2 (.int 6) (.len (.var 0)))) = some (.int ((max 3 (min 6 ns.length) : Nat) : Int)) := by
    have e3 : (R (n + 3)).ev ⟨script0 ns, o, mu⟩ (.len (.var 0)) = some (.int ns.length) := by
      show when (small (ns.map AV.int).length) (some (AV.int (ns.map AV.int).length)) = _
      rw [List.length_map, hlen]
      rfl
    have e4 : (R (n + 4)).ev ⟨script0 ns, o, mu⟩ (.min2 (.int 6) (.len (.var 0))) = some (.int (if (ns.length : Int) < 6 then (ns.length : Int) else 6)) := by
      show bin (some (.int 6)) ((R (n + 3)).ev ⟨script0 ns, o, mu⟩ (.len (.var 0))) (onII fun x y => some (AV.int (if y < x then y else x))) = _
      rw [e3]
      rfl
    show bin (some (.int 3)) ((R (n + 4)).ev ⟨script0 ns, o, mu⟩ (.min2 (.int 6) (.len (.var 0)))) (onII fun x y => some (AV.int (if y > x then y else x))) = _
    rw [e4, ← cut_k]
    rfl
  show bin _ _ slToEV = _
  rw [e1, e2]
  show when (small (ns.map AV.int ++ [AV.int 0, AV.int 0, AV.int 0]).length && _) _ = _
  have h0 : (small (ns.map AV.int ++ [AV.int 0, AV.int 0, AV.int 0]).length && decide ((0 : Int) ≤ ((max 3 (min 6 ns.length) : Nat) : Int))) = true := by
    simp only [List.length_append, List.length_map, List.length_cons, List.length_nil, Nat.zero_add, h1, Bool.true_and, decide_eq_true_eq]
    omega
  rw [h0]
  show some _ = _
  simp only [Int.toNat_natCast]
  congr 2
  unfold cut
  rw [List.map_take, List.map_append]
  rfl
theorem law_first (n : Nat) (ns : List Int) (hn : ns.length ≤ 63) : (R (n + 9)).ex ⟨script0 ns, none⟩ lawFirst = some (none, ⟨[some (.list (ns.map AV.int)), some (.list ((cut ns).map fun z => AV.int (side z))), none, none, none, none, none, none, none, none], none⟩) := by
  have hc := cut_length ns
  have hs : small ((cut ns).map AV.int).length = true := by
    rw [List.length_map]
    exact Nat.ble_eq_true_of_le (by omega)
  rw [show (R (n + 9)).ex = exS (R (n + 8)) from rfl]
  unfold lawFirst
  have e1 : evI (R (n + 7)) ⟨script0 ns, [], none⟩ (.ex (.slToE (.add (.var 0) (.list [.int 0, .int 0, .int 0])) (.max2 (.int 3) (.min2 (.int 6) (.len (.var 0)))))) = some ((cut ns).map AV.int) := by
    show Option.bind ((R (n + 7)).ev _ _) AV.l? = _
    rw [it_cut (n + 1) ns hn]
    rfl
  have e2 : (R (n + 8)).ev ⟨script0 ns, [], none⟩ (.comp (.add (.int 1) (.mod (.var 0) 9)) none (.ex (.slToE (.add (.var 0) (.list [.int 0, .int 0, .int 0])) (.max2 (.int 3) (.min2 (.int 6) (.len (.var 0)))))) none) = some (.list ((cut ns).map fun z => AV.int (side z))) := by
    show Option.bind (evI (R (n + 7)) ⟨script0 ns, [], none⟩ _) _ = _
    rw [e1]
    show when (small ((cut ns).map AV.int).length) _ = _
    rw [hs, comp_sides (fun z => elt_side (n + 4) z _ _)]
    rfl
  show Option.bind ((R (n + 8)).ev ⟨script0 ns, [], none⟩ _) _ = _
  rw [e2]
  rfl
end Mine

set_option linter.unusedVariables false
set_option maxRecDepth 100000
namespace Mine
open PySem PySem.Calls PyProof.Rows

theorem go3 : lawGo 3 = true := by decide +kernel
theorem go4 : lawGo 4 = true := by decide +kernel
theorem go5 : lawGo 5 = true := by decide +kernel
theorem go6 : lawGo 6 = true := by decide +kernel
theorem go_cut (ns : List Int) : lawGo (cut ns).length = true := by
  rcases cut_length ns with h | h | h | h <;> rw [h]
  · exact go3
  · exact go4
  · exact go5
  · exact go6
theorem lawGo_run {n : Nat} (h : lawGo n = true) : ∃ st', exs (R 60) (lawSt n) lawRest = some (some (.bool true), st') := by
  unfold lawGo at h
  split at h
  · exact ⟨_, by assumption⟩
  · cases h

noncomputable def FAof (mg : Str → Option Value) (f : Nat) : Addr := match fname f with
  | some nm => (match mg (Str.ofString nm) with | some (.ref a) => a | _ => 0)
  | none => 0
theorem reps_ints {ρ : Nat → Int} {G : Vw} {vs : List Value} {ns : List Int} (h : IntsAre vs ns) : RepVs ρ G vs (ns.map AV.int) := by
  induction h with
  | nil => exact .nil
  | cons n t h ih => exact .cons (.int _ _) ih

structure Bi (mg mb : Str → Option Value) : Prop where
  len : mg ("len" : Str) = none ∧ mb ("len" : Str) = some (.builtin "len")
  min : mg ("min" : Str) = none ∧ mb ("min" : Str) = some (.builtin "min")
  max : mg ("max" : Str) = none ∧ mb ("max" : Str) = some (.builtin "max")
  dict : mg ("dict" : Str) = none ∧ mb ("dict" : Str) = some (.type "dict")
  range : mg ("range" : Str) = none ∧ mb ("range" : Str) = some (.type "range")
  enum : mg ("enumerate" : Str) = none ∧ mb ("enumerate" : Str) = some (.type "enumerate")

theorem defOk_find {p : Program} {d : Fn} (h : defOk p d = true) : ∃ r, r ∈ recsOf p ∧ r.name = Str.ofString d.name ∧ fnOk r d = true := by
  unfold defOk at h
  split at h
  · rename_i r hr
    obtain ⟨h1, h2⟩ := findDef_mem hr
    exact ⟨r, h1, h2, h⟩
  · cases h
theorem fname_of {f : Nat} {d : Fn} (h : fnOf f = some d) : fname f = some d.name := by
  unfold fname
  split
  · cases h
  · rw [h]; rfl
theorem fname_inv {f : Nat} {nm : String} (h : fname f = some nm) : (f = 5 ∧ nm = "_check_parenthesis") ∨ ∃ d, fnOf f = some d ∧ d.name = nm := by
  unfold fname at h
  split at h
  · cases h; exact .inl ⟨rfl, rfl⟩
  · obtain ⟨d, hd, rfl⟩ := Option.map_eq_some_iff.mp h
    exact .inr ⟨d, hd, rfl⟩

section
variable {prog : Program} {w : World} {mg mb : Str → Option Value} {p : Program} {A : Around} {E : Value → Shared → Prop} {s : Shared}
theorem law_main (hA : AOk 61 A) (fn : ∀ d ∈ recsOf p, ∃ a o pm code doc, mg d.name = some (.ref a) ∧ s.heap.get? a = some o ∧ o.data = .func (docDef d.name d.params d.body d.scope pm code doc) ∧ s.heap.CodeRec code d.name)
    (g : s.heap.Ns mainGlobals mg) (b : s.heap.Ns builtinsNs mb) (nl : s.heap.NoLimit) (bi : Bi mg mb) (hp : parDefsOk p = true) (hd : ∀ f d, fnOf f = some d → defOk p d = true)
    (hDs : ∀ ρ FA Chk, DSnd prog w ρ FA Chk mg mb) {fa l : Addr} {o : Obj} {fd : FuncData} {r : DefRec} {vals : List Value} {ns : List Int} {Q : Value → Shared → Prop} (hr : lawOk r = true) (ho : s.heap.get? fa = some o) (hdat : o.data = .func fd) (hcode : s.heap.CodeRec fd.code fd.qualname)
    (h1 : fd.params = r.params) (h2 : fd.body = .stmts r.body) (h3 : fd.scope = r.scope) (h4 : fd.globals = mainGlobals) (h5 : fd.closure = []) (h6 : fd.builtins = builtinsNs) (h7 : fd.defaults = .none)
    (hL : ∃ oL, s.heap.get? l = some oL ∧ oL.cls = .type "list" ∧ oL.dict = none ∧ ∃ nL, oL.data = .seq vals.toArray nL) (hI : IntsAre vals ns) (hn : ns.length ≤ 63) (hQ : ∀ s', Step s s' → Q (.bool true) s') : wpAny (model prog w) A (call (.ref fa) [.ref l]) Q E s := by
  have H := rho_rng (cut ns)
  obtain ⟨Chk, hC, hChk, hK, hf5⟩ := parDefs_ok (prog := prog) (w := w) (ρ := rho (cut ns)) (FA := FAof mg) (mb := mb) hp fn bi.enum (fun a ha => by
    show (match mg (Str.ofString "_check_parenthesis") with | some (.ref a) => a | _ => 0) = a
    rw [ha])
  obtain ⟨hE, hT, hX, hF, hU⟩ := all_ok H hC (hDs _ _ _) hK 60
  have fa_of : ∀ (nm : String) (f : Nat) (a : Addr), fname f = some nm → mg (Str.ofString nm) = some (.ref a) → FAof mg f = a := fun nm f a h1 h2 => by unfold FAof; rw [h1]; simp only []; rw [h2]
  have S : Stat (FAof mg) Chk mg mb s.heap := {
    g := g, b := b, nolimit := nl, chk := hChk, len := bi.len, min := bi.min, max := bi.max, dict := bi.dict, range := bi.range
    name := fun f nm hf => by
      rcases fname_inv hf with ⟨rfl, rfl⟩ | ⟨d, hd', rfl⟩
      · have : ∃ r ∈ recsOf p, r.name = Str.ofString "_check_parenthesis" := by
          unfold parDefsOk at hp
          split at hp
          · rename_i rC rS rI hC' _ _
            exact ⟨rC, (findDef_mem hC').1, (findDef_mem hC').2⟩
          · cases hp
        obtain ⟨r', hr', hn'⟩ := this
        obtain ⟨a, _, _, _, _, ha, _⟩ := fn r' hr'
        rw [hn'] at ha
        rw [ha, fa_of _ 5 a hf ha]
      · obtain ⟨r', hr', hn', _⟩ := defOk_find (hd f d hd')
        obtain ⟨a, _, _, _, _, ha, _⟩ := fn r' hr'
        rw [hn'] at ha
        rw [ha, fa_of _ f a hf ha]
    fo := fun f nm hf => by
      rcases fname_inv hf with ⟨rfl, rfl⟩ | ⟨d, hd', rfl⟩
      · exact hf5
      · obtain ⟨r', hr', hn', _⟩ := defOk_find (hd f d hd')
        obtain ⟨a, o', _, _, _, ha, ho', hdat', _⟩ := fn r' hr'
        rw [hn'] at ha
        rw [fa_of _ f a hf ha]
        exact ⟨o', _, ho', hdat'⟩
    fn := fun f d hd' => by
      obtain ⟨r', hr', hn', hk'⟩ := defOk_find (hd f d hd')
      obtain ⟨a, o', _, _, _, ha, ho', hdat', hc'⟩ := fn r' hr'
      rw [hn'] at ha
      rw [fa_of _ f a (fname_of hd') ha]
      exact fnAt_of ho' hdat' hc' hk' (binds_fn hd') }
  simp only [lawOk, Bool.and_eq_true] at hr
  obtain ⟨⟨k1, k2⟩, k3⟩ := hr
  obtain ⟨g1, g2, g3, g4, g5, g6, g7, g8⟩ := scOk_ok k1
  obtain ⟨oL, hoL, hcL, hkL, nL, hdL⟩ := hL
  refine enter (ρ := rho (cut ns)) (n := 60) (X := []) (np := 1) (names := lawNames.map Str.ofString) (vs := [.list (ns.map AV.int)]) hA S (fun b hb => nomatch hb) (.cons (.list (view_some.mpr ⟨by simp, hoL⟩) ⟨hcL, hkL⟩ hdL (reps_ints hI)) .nil) ho hdat hcode h2 h4 h5 h6 (h3 ▸ g1) (h3 ▸ g2) (h3 ▸ g3) g4 (h3 ▸ g5) (h3 ▸ g6) (h3 ▸ g7) (by simp [lawNames]) rfl
    (binds_law _ (h1 ▸ k2) h7 _ rfl) fun env E' s₁ Q' hen hap hdis hA1 F0 hg hQ' => ?_
  rw [h3] at F0 hen
  have his := chkSL_ok (P := IsS r.scope.names (lawNames.map Str.ofString)) (fun _ _ h => ⟨K, h⟩) k3
  generalize r.body = body at his ⊢
  cases body with
  | nil => exact his.elim
  | cons b1 body =>
    obtain ⟨i1, irest⟩ := his
    refine wpAny_execs_cons (hX _ _ _ _ _ _ _ _ _ _ _ _ _ _ _ hA1 hen hap hdis F0 i1 (law_first 51 ns hn) fun s2 am2 f F2 a2 c2 fo => ?_)
    cases fo
    have ham : am2 = none := F2.mu
    subst ham
    have F3 : FI prog w (rho (cut ns)) (FAof mg) Chk mg mb env r.scope.names (lawNames.map Str.ofString) [] s.heap none (lawSt (cut ns).length) s2 := F2.conv rfl fun i v' hv => by
      match i, hv with
      | 0, hv => cases hv
      | 1, hv =>
        cases hv
        exact ⟨_, rfl, fun G val hr => rep_list (fun j z hj => by unfold rho; rw [hj]) hr⟩
      | 2, hv => cases hv
      | 3, hv => cases hv
      | 4, hv => cases hv
      | 5, hv => cases hv
      | 6, hv => cases hv
      | 7, hv => cases hv
      | 8, hv => cases hv
      | 9, hv => cases hv
      | i + 10, hv => cases hv
    obtain ⟨st', hrun⟩ := lawGo_run (go_cut ns)
    refine xs_ok hX _ _ _ _ _ _ _ _ _ _ _ _ _ _ _ hA1 hen hap hdis F3 irest hrun fun s4 am4 f F4 a4 c4 fo => ?_
    obtain ⟨val, rfl, hval⟩ := fo
    cases hval
    exact hQ' _ _ (hQ _ ⟨F4.h0, fun g' => c4.b.gens (c2.b.gens (by rw [hg.1]; exact g')), c4.b.drawn.trans (c2.b.drawn.trans hg.2.1), c4.b.os.trans (c2.b.os.trans hg.2.2)⟩)
theorem law_main' (hA : AOk 61 A) (fn : ∀ d ∈ recsOf p, ∃ a o pm code doc, mg d.name = some (.ref a) ∧ s.heap.get? a = some o ∧ o.data = .func (docDef d.name d.params d.body d.scope pm code doc) ∧ s.heap.CodeRec code d.name)
    (g : s.heap.Ns mainGlobals mg) (b : s.heap.Ns builtinsNs mb) (nl : s.heap.NoLimit) {fa l : Addr} {o : Obj} {d : DefRec} {pm cd doc kV : Value} {vals : List Value} {ns : List Int} {Q : Value → Shared → Prop} (ho : s.heap.get? fa = some o)
    (hdat : o.data = .func { docDef d.name d.params d.body d.scope pm cd doc with defaults := .none, kwdefaults := kV }) (hcode : s.heap.CodeRec cd d.name)
    (hL : ∃ oL, s.heap.get? l = some oL ∧ oL.cls = .type "list" ∧ oL.dict = none ∧ ∃ nL, oL.data = .seq vals.toArray nL) (hI : IntsAre vals ns) (hn : ns.length ≤ 63) (bi : Bi mg mb) (hp : parDefsOk p = true) (hd : [fnWays, fnCost, fnLeast, fnStats, fnCallers].all (defOk p) = true) (hr : lawOk d = true)
    (hDs : ∀ ρ FA Chk, DSnd prog w ρ FA Chk mg mb) (hQ : ∀ s', Step s s' → Q (.bool true) s') : wpAny (model prog w) A (call (.ref fa) [.ref l]) Q E s := by
  refine law_main hA fn g b nl bi hp (fun f e hf => ?_) hDs hr ho hdat hcode rfl rfl rfl rfl rfl rfl rfl hL hI hn hQ
  simp only [List.all_cons, List.all_nil, Bool.and_eq_true, Bool.and_true] at hd
  obtain ⟨d0, d1, d2, d3, d4⟩ := hd
  match f, hf with
  | 0, hf => cases hf; exact d0
  | 1, hf => cases hf; exact d1
  | 2, hf => cases hf; exact d2
  | 3, hf => cases hf; exact d3
  | 4, hf => cases hf; exact d4
  | n + 5, hf => cases hf
theorem callerA_ok : AOk 61 callerA := ⟨rfl, by decide +kernel, by decide +kernel⟩
end
end Mine

set_option linter.unusedVariables false
set_option maxRecDepth 100000
namespace Mine
open PySem PySem.Calls PyProof.Rows

section
variable {prog : Program} {w : World} {A : Around} {E : Value → Shared → Prop} {s : Shared}
theorem miss_keys : typeLookup (.type "list") ("keys" : Str) = pure none := am_miss_of_fast (by decide +kernel)
theorem keys_none {a : Addr} {o : Obj} {xs : Array Value} {k : Nat} {Q : Option Value → Shared → Prop}
    (hx : s.heap.get? a = some o) (hc : o.cls = .type "list") (hdat : o.data = .seq xs k) (hd : o.dict = none) (hA : A.handled = none) (h : ∀ s', Step s s' → Q none s') :
    wpAny (model prog w) A (getAttr? (.ref a) "keys") Q E s := by
  obtain ⟨c, dct, dat, sl⟩ := o
  simp only at hc hdat hd
  subst hc hdat hd
  obtain ⟨hp, g, d, tk, os⟩ := s
  have hT : ∀ tk', (⟨hp, g, d, tk', os⟩ : Shared).TypeIs (.ref a) "list" := fun _ => ⟨_, hx, rfl⟩
  have f1 := sub_AttributeError
  have f3 := F.slot_list_getattribute.lookup
  have f4 := F.slot_list_getattribute.bind (.ref a)
  have f5 := am_list_getattr_none
  unfold getAttr? getAttrBy? getAttrBy
  repeat (any_goals (first | assumption | exact hT _ | ((with_reducible show wpAny _ _ (call (Value.builtin "list.__getattribute__") _ _) _ _ _); refine call_meets F.slot_list_getattribute (hT _) am_entry_list_getattribute (F.args_list_getattribute_2 _ _) (meets_getattribute_miss_list a xs k sl "keys" _ miss_keys (by decide) (by size_fits)) ⟨hx, hA, ?_⟩; intro h' tk' e hx') | wp_step))
  obtain ⟨t', u', he⟩ := hx'.there
  show wpAny _ _ (getattributeRaised _ _ _ _ _ _ _) _ _ _
  unfold getattributeRaised
  repeat (any_goals (first | assumption | wp_step))
  exact h _ ⟨fun b o e => hx'.keeps b o e, id, rfl, rfl⟩

theorem len_raw {d : Addr} {o : Obj} {es : Array DictEntry} {ep : Nat} {Q : Value → Shared → Prop} (hd : (d == sysModules) = false) (ho : s.heap.get? d = some o) (hc : o.ExactDict) (hdat : o.data = .dict es ep) (hfit : (es.size : Int) < 2 ^ 63)
    (h : Q (.int es.size (s.toks + 1)) { s with toks := s.toks + 1 + 1 }) : wpAny (model prog w) A (call (.builtin "len") [.ref d]) Q E s := by
  have hT : s.TypeIs (.ref d) "dict" := ⟨o, ho, hc.1⟩
  have meets : MeetsIn prog w (Builtin.«dict.__len__» ⟨[.ref d], []⟩) (fun _ R s => (∃ o ep, s.heap.get? d = some o ∧ o.data = .dict es ep) ∧ R (.ok (.ret (.int es.size s.toks))) { s with toks := s.toks + 1 }) :=
    .of_wp fun A R s ⟨⟨o1, ep1, ho1, hdat1⟩, h⟩ => by
      show wpAny _ _ (dictSize d >>= _) _ _ s
      unfold dictSize
      refine wpAny_bind (wpAny_bind (wpAny_dictEntries ho1 hdat1 (wpAny_pure ?_)))
      show wpAny _ _ (Builtin.Dict.pendingCount d >>= _) _ _ s
      refine wpAny_bind (wpAny_pendingCount_other hd ?_)
      refine wpAny_ret_mkInt ?_
      rw [Nat.add_zero]; exact h
  refine Calls.call_function_entry kind_len plain_len entry_len (args_len1 _) ?_
  unfold Builtin.«len»
  refine wpAny_bind (m := oneArg "len" _) (wpAny_pure ?_)
  refine wpAny_bind (m := callSpecial? (.ref d) (Str.ofString "__len__")) (wpAny_callSpecial?_slot (name := Str.ofString "__len__") hT F.slot_dict_len
    (call_meetsIn F.slot_dict_len hT F.entry_dict_len (F.args_dict_len_1 _) meets ⟨⟨o, ep, ho, hdat⟩, ?_⟩))
  show wpAny _ _ _ _ _ { s with toks := s.toks + 1 }
  refine wpAny_bind (wpAny_holding (wpAny_pure ?_))
  refine wpAny_bind (wpAny_letGo ?_)
  show wpAny _ _ (if ((es.size : Nat) : Int) < 0 then _ else _) _ _ _
  rw [if_neg (by omega)]
  show wpAny _ _ (if ((es.size : Nat) : Int) ≥ 2 ^ 63 then _ else _) _ _ _
  rw [if_neg (by omega)]
  exact wpAny_bind (wpAny_mkInt (wpAny_pure ⟨_, rfl, h⟩))
end
end Mine

set_option linter.unusedVariables false
set_option maxRecDepth 100000
namespace Mine
open PySem PySem.Calls PyProof.Rows

theorem entry_upd : entryFor table "dict.update.loop" = some Builtin.«dict.update.loop» := entryFor_of_tree (by kernel_rfl)

theorem under_le (A : Around) (args : Args) : (A.under (.builtin "dict.update.loop" args)).units ≤ A.units + 40 := by
  show A.units + Code.cUnits _ ≤ _
  have : Code.cUnits (.builtin "dict.update.loop" args) ≤ 40 := by
    have : Code.cUnits (.builtin "dict.update.loop" args) = Code.cUnits (.builtin "dict.update.loop" {}) := by simp [Code.cUnits, Code.frames, Code.isFrame]
    rw [this]
    decide +kernel
  omega
section
variable {prog : Program} {w : World} {A : Around} {E : Value → Shared → Prop}
theorem upd_loop {d it L : Addr} {vals : Array Value} {St : Nat → Heap → Prop} {s0 : Shared} {R : Result → Shared → Prop} (hh : A.handled = none) (hLit : L ≠ it) (hLd : L ≠ d) (hitd : it ≠ d)
    (hfr : ∀ j h h', St j h → (∀ b o, b ≠ it → h.get? b = some o → h'.get? b = some o) → St j h')
    (hset : ∀ (A' : Around) (E : Value → Shared → Prop) (j : Nat) (s : Shared) (x : Value), A'.units ≤ A.units + 40 → vals[j]? = some x → St j s.heap → ∃ t k v, x = .ref t ∧ IsTup s.heap t #[k, v] ∧
      ∀ Q : Unit → Shared → Prop, (∀ h' tk, Heap.SameBut d s.heap h' → St (j + 1) h' → Q () { s with heap := h', toks := tk }) → wpAny (model prog w) A' (dictSet d k v) Q E s)
    (hend : ∀ s' : Shared, St vals.size s'.heap → But [d, it] s0.heap s'.heap → s'.gens = s0.gens → s'.drawn = s0.drawn → s'.os = s0.os → R (.ok (.ret .none)) s') :
    ∀ (n i : Nat) (s : Shared), i + n = vals.size → s.heap.IsListIter it L i → s.heap.IsList L vals → St i s.heap → But [d, it] s0.heap s.heap → s.gens = s0.gens → s.drawn = s0.drawn → s.os = s0.os →
      codeAny (model prog w) A (.builtin "dict.update.loop" ⟨[.ref d, .ref it, rawInt (i : Int), .none], []⟩) R s := by
  intro n
  induction n with
  | zero =>
    intro i s hi hit hL hst hb hg hd ho
    refine codeAny_builtin entry_upd ?_
    show wpAny _ _ (pyNext (.ref it) >>= _) _ _ s
    refine wpAny_bind (wpAny_pyNext_list_end (by exact hh) hit hL (by simp; omega) fun h' he => ?_)
    show wpAny _ _ (Builtin.Dict.addKeywords d [] >>= fun _ => ret .none) _ _ _
    refine wpAny_bind (wpAny_pure (wpAny_pure ?_))
    refine hend _ (by rw [show vals.size = i by omega]; exact hfr _ _ _ hst fun b o hb e => he b o hb e) (fun b o hb' e => ?_) hg hd ho
    simp only [List.mem_cons, List.mem_nil_iff, or_false, not_or] at hb'
    exact he b o hb'.2 (hb b o (by simp only [List.mem_cons, List.mem_nil_iff, or_false, not_or]; exact hb') e)
  | succ n ih =>
    intro i s hi hit hL hst hb hg hd ho
    refine codeAny_builtin entry_upd ?_
    show wpAny _ _ (pyNext (.ref it) >>= _) _ _ s
    have hlt : i < vals.size := by omega
    refine wpAny_bind (wpAny_pyNext_list_item hit hL (x := vals[i]) (by simp [hlt]) fun h1 hit1 hs1 => ?_)
    have hst1 : St i h1 := hfr _ _ _ hst fun b o hb e => hs1.extBut b o hb e
    have hL1 : h1.IsList L vals := hL.extBut hs1.extBut hLit
    obtain ⟨t, k, v, hx, ht, hS⟩ := hset ((A.under (.builtin "dict.update.loop" ⟨[.ref d, .ref it, rawInt (i : Int), .none], []⟩))) (fun e s' => R (.error e) s') i { s with heap := h1 } vals[i] (under_le _ _) (by simp [hlt]) hst1
    rw [hx]
    obtain ⟨o, ho1, hc1, n1, hd1⟩ := ht
    refine wpAny_bind (wpAny_holding (wpAny_bind (wpAny_tryCatch ?_)))
    unfold Builtin.Dict.pairItems
    refine wpAny_bind (wpAny_typeOf (T := "tuple") ⟨o, ho1, hc1⟩ ?_)
    rw [if_pos (by decide)]
    refine wpAny_bind (wpAny_seqItems ho1 hd1 (wpAny_pure ?_))
    show wpAny _ _ (holding [k, v] (dictSet d k v)) _ _ _
    refine wpAny_holding (hS _ fun h2 tk2 hs2 hst2 => ?_)
    have hid : (it : Nat) ≠ d := hitd
    refine wpAny_pure ⟨Code.quiet_builtin _ (by decide +kernel), ?_⟩
    refine ih (i + 1) _ (by omega) (hit1.extBut hs2.extBut hitd) (hL1.extBut hs2.extBut hLd) hst2 (fun b o hb' e => ?_) hg hd ho
    have hb2 := hb'
    simp only [List.mem_cons, List.mem_nil_iff, or_false, not_or] at hb2
    exact hs2.extBut b o hb2.1 (hs1.extBut b o hb2.2 (hb b o hb' e))
end
end Mine

set_option linter.unusedVariables false
set_option maxRecDepth 100000
namespace Mine
open PySem PySem.Calls PyProof.Rows

section
variable {prog : Program} {w : World} {A : Around} {E : Value → Shared → Prop} {s : Shared} {n : Nat}
theorem dict_of {L : Addr} {oL : Obj} {vals : Array Value} {nL : Nat} {D : Nat → Addr → Heap → Prop} {Q : Value → Shared → Prop} (hA : AOk n A) (hx : s.heap.get? L = some oL) (hc : oL.cls = .type "list") (hdict : oL.dict = none) (hdat : oL.data = .seq vals nL)
    (hD0 : ∀ d h, h.get? d = some { cls := .type "dict", data := .dict #[] } → Ext s.heap h → D 0 d h)
    (hDf : ∀ j d h h', D j d h → (∀ o, h.get? d = some o → h'.get? d = some o) → Ext s.heap h' → D j d h')
    (hset : ∀ (d : Addr) (A' : Around) (E : Value → Shared → Prop) (j : Nat) (s' : Shared) (x : Value), A'.units ≤ A.units + 45 → vals[j]? = some x → D j d s'.heap → Ext s.heap s'.heap → s.heap.get? d = none → ∃ t k v, x = .ref t ∧ IsTup s.heap t #[k, v] ∧
      ∀ Q : Unit → Shared → Prop, (∀ h' tk, Heap.SameBut d s'.heap h' → D (j + 1) d h' → Q () { s' with heap := h', toks := tk }) → wpAny (model prog w) A' (dictSet d k v) Q E s')
    (hQ : ∀ s' d, (d : Nat) = s.heap.objs.size → D vals.size d s'.heap → Step s s' → Q (.ref d) s') : wpAny (model prog w) A (call (.type "dict") [.ref L]) Q E s := by
  refine callType_codes (Q₁ := fun obj s₁ => obj = .ref s.heap.objs.size ∧ s₁ = { s with heap := s.heap.push { cls := .type "dict", data := .dict #[] } }) F.kt_called_dict (F.kt_typeCall_dict_1 _) F.entry_dict_init (kt_code_dict_new _ ⟨rfl, rfl⟩) ?_
  rintro obj s₁ ⟨rfl, rfl⟩
  have hnew : (s.heap.push { cls := .type "dict", data := .dict #[] }).get? s.heap.objs.size = some { cls := .type "dict", data := .dict #[] } := Heap.get?_push_size _ rfl
  have hTd : Shared.TypeIs { s with heap := s.heap.push { cls := .type "dict", data := .dict #[] } } (.ref s.heap.objs.size) "dict" := ⟨_, hnew, rfl⟩
  have hxp : (s.heap.push { cls := .type "dict", data := .dict #[] }).get? L = some oL := Heap.get?_push_of_some _ hx
  have hTl : Shared.TypeIs { s with heap := s.heap.push { cls := .type "dict", data := .dict #[] } } (.ref L) "list" := ⟨_, hxp, hc⟩
  have hLlt : (L : Nat) < s.heap.objs.size := Heap.lt_size hx
  refine ⟨hTd, F.args_dict_init_2 _ _, ?_⟩
  unfold Builtin.«dict.__init__»
  refine wpAny_bind ?_
  unfold Builtin.Dict.selfAndRest
  refine wpAny_bind (wpAny_notOrdered_dict hTd ?_)
  show wpAny _ _ (pure (s.heap.objs.size, [Value.ref L])) _ _ _
  refine wpAny_pure ?_
  show wpAny _ _ (Builtin.Dict.updateFrom "dict.__init__" s.heap.objs.size (.ref L) [] .none) _ _ _
  unfold Builtin.Dict.updateFrom
  refine wpAny_bind (wpAny_typeOf hTl ?_)
  rw [if_pos (by decide)]
  refine wpAny_bind (keys_none hxp hc hdat hdict (by exact hA.hh) fun s2 st2 => ?_)
  rw [if_pos (show (none : Option Value).isNone = true from rfl)]
  refine wpAny_bind (wpAny_rule ?_)
  have hx2 : s2.heap.get? L = some oL := st2.heap _ _ hxp
  have hd2 := st2.heap _ _ hnew
  refine wpAny_bind (wpAny_pyIter_list ⟨_, hx2, hc, _, hdat⟩ ?_)
  have st02 : Ext s.heap s2.heap := fun b o e => st2.heap b o (Heap.get?_push_of_some _ e)
  have hsz2 : s.heap.objs.size < s2.heap.objs.size := Heap.lt_size hd2
  have hit : s2.heap.get? s2.heap.objs.size = none := none_of_size (Nat.le_refl _)
  have hit0 := none_before st02 hit
  have hdn : s.heap.get? s.heap.objs.size = none := none_of_size (Nat.le_refl _)
  have extB : ∀ {h' : Heap}, But [s.heap.objs.size, s2.heap.objs.size] s2.heap h' → Ext s.heap h' := fun hb => But.ext st02 hb fun b hb => by
    simp only [List.mem_cons, List.mem_nil_iff, or_false] at hb
    rcases hb with rfl | rfl
    · exact hdn
    · exact hit0
  refine wpAny_pure ⟨Code.quiet_builtin _ (by decide +kernel), ?_⟩
  refine upd_loop (A := A.in1) (L := L) (vals := vals) (St := fun j h => Ext s.heap h ∧ D j s.heap.objs.size h) (s0 := { s2 with heap := s2.heap.push { cls := .type "list_iterator", data := .fields #[.ref L, .int 0 0] } }) (by exact hA.hh) (Nat.ne_of_lt (Nat.lt_trans hLlt hsz2)) (Nat.ne_of_lt hLlt) (Nat.ne_of_gt hsz2)
    (fun j h h' hs hk => ?_) (fun A' E' j s' x hu hj hs => ?_) (fun s' hs hb hg hd ho => ?_) vals.size 0 _ (by omega) isList_iter_push ⟨_, Heap.get?_push_of_some _ hx2, hc, _, hdat⟩
    ⟨fun b o e => Heap.get?_push_of_some _ (st02 b o e), hD0 _ _ (Heap.get?_push_of_some _ hd2) fun b o e => Heap.get?_push_of_some _ (st02 b o e)⟩ (fun _ _ _ e => e) rfl rfl rfl
  · have hx' : Ext s.heap h' := fun b o e => hk b o (fun q => by rw [q, hit0] at e; cases e) (hs.1 b o e)
    exact ⟨hx', hDf _ _ _ _ hs.2 (fun o e => hk _ o (Nat.ne_of_lt hsz2) e) hx'⟩
  · obtain ⟨t, k, v, h1, h2, h3⟩ := hset s.heap.objs.size A' E' j s' x (by have : A.in1.units = A.units + 1 := rfl; omega) hj hs.2 hs.1 hdn
    refine ⟨t, k, v, h1, let ⟨o, ho, r⟩ := h2; ⟨o, hs.1 _ _ ho, r⟩, fun Q' hq => h3 Q' fun h' tk hs' hD' => hq h' tk hs' ⟨fun b o e => hs'.extBut b o (fun q => by rw [q, hdn] at e; cases e) (hs.1 b o e), hD'⟩⟩
  · exact ⟨rfl, hQ _ _ rfl hs.2 ⟨hs.1, fun g => by rw [hg]; exact st2.gens g, hd.trans st2.drawn, ho.trans st2.os⟩⟩
end
end Mine

set_option linter.unusedVariables false
set_option maxRecDepth 100000
namespace Mine
open PySem PySem.Calls PyProof.Rows

theorem optAll_get {α β : Type} {f : α → Option β} : ∀ {l : List α} {ks : List β}, optAll f l = some ks → ks.length = l.length ∧ ∀ (j : Nat) a, l[j]? = some a → ∃ k, ks[j]? = some k ∧ f a = some k
  | [], ks, h => by cases h; exact ⟨rfl, fun j a h => by simp at h⟩
  | x :: l, ks, h => by
    simp only [optAll] at h
    split at h
    · rename_i b bs hb hbs
      cases h
      obtain ⟨h1, h2⟩ := optAll_get hbs
      refine ⟨by simp [h1], fun j a hj => ?_⟩
      cases j with
      | zero => simp only [List.getElem?_cons_zero, Option.some.injEq] at hj; subst hj; exact ⟨b, rfl, hb⟩
      | succ j => simpa using h2 j a (by simpa using hj)
    · cases h
theorem distinct_le {α : Type} {eq : α → α → Bool} : ∀ (r acc : List α), acc.length ≤ (distinct eq acc r).length ∧ (distinct eq acc r).length ≤ acc.length + r.length
  | [], acc => by simp [distinct]
  | a :: r, acc => by
    unfold distinct
    split
    · have := distinct_le (eq := eq) r acc; simp only [List.length_cons]; omega
    · have := distinct_le (eq := eq) r (acc ++ [a]); simp only [List.length_append, List.length_cons, List.length_nil] at this ⊢; omega
theorem eqL_self : ∀ a : List Nat, eqL a a = true
  | [] => rfl
  | a :: r => by simp [eqL, eqL_self r]
theorem eqLI_iff : ∀ {a b : List Int}, eqLI a b = true ↔ a = b
  | [], [] => by simp [eqLI]
  | [], _ :: _ => by simp [eqLI]
  | _ :: _, [] => by simp [eqLI]
  | a :: r, b :: s => by simp [eqLI, eqLI_iff (a := r) (b := s)]
theorem eqL_iff' {a b : List Nat} : eqL a b = true ↔ a = b := ⟨eqL_iff, fun h => h ▸ eqL_self a⟩
noncomputable def mkS (l : List Nat) : Str := ⟨l.toArray⟩
theorem mkS_inj {a b : List Nat} : mkS a = mkS b ↔ a = b := by
  unfold mkS
  constructor
  · intro h
    have := congrArg (fun x : Str => x.cps.toList) h
    simpa using this
  · intro h; rw [h]

theorem stored_keys {acc : List (List Nat)} {kvs : List (Str × Value)} (h : kvs.map (·.1) = acc.map mkS) (k : List Nat) (v : Value) :
    (stored kvs (mkS k) v).map (·.1) = (if acc.any (eqL k) then acc else acc ++ [k]).map mkS := by
  have hany : (kvs.any fun kv => decide (kv.1 = mkS k)) = acc.any (eqL k) := by
    have e1 : (kvs.any fun kv => decide (kv.1 = mkS k)) = (kvs.map (·.1)).any fun x => decide (x = mkS k) := by rw [List.any_map]; rfl
    rw [e1, h, List.any_map]
    congr 1
    funext a
    simp only [Function.comp, mkS_inj]
    rw [Bool.eq_iff_iff]
    simp only [decide_eq_true_eq, eqL_iff']
    exact eq_comm
  unfold stored
  rw [hany]
  split
  · rw [List.map_map, ← h]
    apply List.map_congr_left
    intro kv _
    simp only [Function.comp]
    split <;> rfl
  · simp [h]

theorem storedH_keys {acc : List (List Int)} {xs : List (List Int × Addr × Value)} (h : xs.map (·.1) = acc) (k : List Int) (a : Addr) (v : Value) :
    (storedH xs k a v).map (·.1) = (if acc.any (eqLI k) then acc else acc ++ [k]) := by
  have hany : (atKey xs k).isSome = acc.any (eqLI k) := by
    have e1 : (atKey xs k).isSome = (xs.any fun x => decide (x.1 = k)) := by
      rw [Bool.eq_iff_iff]
      simp [atKey, List.find?_isSome, List.any_eq_true]
    have e2 : (xs.any fun x => decide (x.1 = k)) = (xs.map (·.1)).any fun x => decide (x = k) := by rw [List.any_map]; rfl
    rw [e1, e2, h]
    congr 1
    funext b
    rw [Bool.eq_iff_iff]
    simp only [decide_eq_true_eq, eqLI_iff]
    exact eq_comm
  unfold storedH
  rw [hany]
  split
  · rw [List.map_map, ← h]
    apply List.map_congr_left
    intro x _
    simp only [Function.comp, putAt]
    split <;> rfl
  · simp [h]

theorem distinct_step {α : Type} {eq : α → α → Bool} {ks acc acc0 : List α} {j : Nat} {k : α} (h : distinct eq acc (ks.drop j) = acc0) (hk : ks[j]? = some k) : distinct eq (if acc.any (eq k) then acc else acc ++ [k]) (ks.drop (j + 1)) = acc0 := by
  have hlt : j < ks.length := (List.getElem?_eq_some_iff.mp hk).1
  rw [List.drop_eq_getElem_cons hlt, show ks[j] = k from by rw [List.getElem?_eq_getElem hlt] at hk; exact Option.some.inj hk] at h
  unfold distinct at h
  split at h
  · rename_i hc; rw [if_pos hc]; exact h
  · rename_i hc; rw [if_neg hc]; exact h

section
variable {prog : Program} {w : World} {ρ : Nat → Int} {FA : Nat → Addr} {Chk : Heap → Prop} {mg mb : Str → Option Value}
noncomputable def DS (prog : Program) (w : World) (ks : List (List Nat)) (j : Nat) (d : Addr) (h : Heap) : Prop := ∃ kvs acc, h.DictOf (strKind prog w) d kvs ∧ kvs.map (·.1) = acc.map mkS ∧ distinct eqL acc (ks.drop j) = distinct eqL [] ks
noncomputable def DP (prog : Program) (w : World) (G : Vw) (ks : List (List Int)) (j : Nat) (d : Addr) (h : Heap) : Prop := ∃ (o : Obj) (es : Array DictEntry) (ep : Nat) (xs : List (List Int × Addr × Value)), h.get? d = some o ∧ o.ExactDict ∧ o.data = .dict es ep ∧ es.toList = xs.map (entryOfKey (tupleKind (intKind prog w))) ∧ (xs.map (·.1)).Nodup ∧
  (∀ x ∈ xs, KeyIn prog w G x.1 x.2.1) ∧ distinct eqLI (xs.map (·.1)) (ks.drop j) = distinct eqLI [] ks

theorem dsnd (prog : Program) (w : World) (mg mb : Str → Option Value) (ρ : Nat → Int) (FA : Nat → Addr) (Chk : Heap → Prop) : DSnd prog w ρ FA Chk mg mb := by
  intro n A E s X a l v Q hA S D hr hsm hv hQ
  have hsm' := small_iff hsm
  cases hr with
  | list ho hc hd rs =>
    rename_i a o vals nn
    have hg := view_get ho
    have hlen := rs.length
    have hsz : vals.size = l.length := by rw [← hlen]; simp
    have hmod : ∀ d : Nat, d = s.heap.objs.size → ((d : Addr) == sysModules) = false := fun d hd' => by
      have := modules_low S.nolimit
      rw [hd']
      exact beq_eq_false_iff_ne.mpr (Nat.ne_of_gt this)
    simp only [lenDictV] at hv
    split at hv
    · rename_i ks hks
      cases hv
      obtain ⟨k1, k2⟩ := optAll_get hks
      refine dict_of (D := DS prog w ks) hA hg hc.1 hc.2 hd (fun d h h0 _ => ?_) (fun j d h h' hD hk _ => ?_) (fun d A' E' j s' x hu hx hD hext hdn => ?_) (fun s' d hd' hD st => ?_)
      · exact ⟨[], [], ⟨_, _, _, h0, ⟨rfl, rfl, rfl⟩, rfl, fun e he => by simp at he, .nil, List.nodup_nil⟩, rfl, by simp⟩
      · obtain ⟨kvs, acc, ⟨o, es, ep, g1, r⟩, r2⟩ := hD
        exact ⟨kvs, acc, ⟨o, es, ep, hk o g1, r⟩, r2⟩
      · obtain ⟨dd, hdd, rv⟩ := rs.getL (v := x) (i := j) (by simpa using hx)
        obtain ⟨k, hk, hkk⟩ := k2 j dd hdd
        obtain ⟨kvs, acc, hm, e1, e2⟩ := hD
        have hdd' : ∃ z, dd = .tup [.str k, .int z] := by
          obtain ⟨p, e1, hkk⟩ := bd hkk
          obtain ⟨z, e2, hkk⟩ := bd hkk
          exact ⟨z, by rw [AV.p?_ok e1, AV.i?_ok e2, AV.s?_ok hkk]⟩
        obtain ⟨z, rfl⟩ := hdd'
        obtain ⟨t, ot, vv, nt, rfl, g1, g2, g3, g4⟩ := repv_tup rv
        obtain ⟨vl⟩ := vv
        cases g4 with
        | cons ra rb => cases rb with
          | cons rb rc => cases rc with
            | nil =>
              cases ra with | str _ tk1 =>
              rename_i v2
              refine ⟨t, _, v2, rfl, ⟨ot, view_get g1, g2, nt, g3⟩, fun Q' hq => ?_⟩
              have hlk : kvs.length = acc.length := by have := congrArg List.length e1; simpa using this
              have hb1 := distinct_le (eq := eqL) (ks.drop j) acc
              have hb2 := distinct_le (eq := eqL) ks []
              rw [e2] at hb1
              simp only [List.length_nil, Nat.zero_add] at hb2
              refine wpAny_dictSet_pairs (knd := strKind prog w) (k := mkS k) (strKind_is _ _ _ _) hm (fun h' hm' hs' => hq h' _ hs' ⟨_, _, hm', stored_keys e1 k v2, distinct_step e2 hk⟩) (by rw [sizeLine_eq]; omega)
      · rw [hsz] at hD
        obtain ⟨kvs, acc, hm, e1, e2⟩ := hD
        rw [← k1, List.drop_length] at e2
        have hlk : kvs.length = acc.length := by have := congrArg List.length e1; simpa using this
        have hb2 := distinct_le (eq := eqL) ks []
        have e3 : acc = distinct eqL [] ks := e2
        simp only [List.length_nil, Nat.zero_add] at hb2
        refine hQ s' _ st fun E Q' ho' => ?_
        refine call_len_dict (hmod d hd') hm (by rw [hlk, e3]; omega) ?_
        rw [hlk, e3]
        exact ho' _ _ (Step.toks _ _) (.int _ _)
    · split at hv
      · rename_i ks hks
        cases hv
        obtain ⟨k1, k2⟩ := optAll_get hks
        refine dict_of (D := DP prog w (fun b => s.heap.get? b) ks) hA hg hc.1 hc.2 hd (fun d h h0 _ => ?_) (fun j d h h' hD hk _ => ?_) (fun d A' E' j s' x hu hx hD hext hdn => ?_) (fun s' d hd' hD st => ?_)
        · exact ⟨_, _, _, [], h0, ⟨rfl, rfl, rfl⟩, rfl, rfl, List.nodup_nil, fun x hx => (nomatch hx), by simp⟩
        · obtain ⟨o, es, ep, xs, g1, r⟩ := hD
          exact ⟨o, es, ep, xs, hk o g1, r⟩
        · obtain ⟨dd, hdd, rv⟩ := rs.getL (v := x) (i := j) (by simpa using hx)
          obtain ⟨k, hk, hkk⟩ := k2 j dd hdd
          obtain ⟨o, es, ep, xs, q1, q2, q3, q4, q5, q6, q7⟩ := hD
          have hdd' : ∃ za zb z, dd = .tup [.tup [.int za, .int zb], .int z] ∧ k = [za, zb] := by
            obtain ⟨p, e1, hkk⟩ := bd hkk
            obtain ⟨z, e2, hkk⟩ := bd hkk
            obtain ⟨q, e3, hkk⟩ := bd hkk
            cases hkk
            exact ⟨_, _, z, by rw [AV.p?_ok e1, AV.i?_ok e2, AV.ii?_ok e3], rfl⟩
          obtain ⟨za, zb, z, rfl, rfl⟩ := hdd'
          obtain ⟨t, ot, vv, nt, rfl, g1, g2, g3, g4⟩ := repv_tup rv
          obtain ⟨vl⟩ := vv
          cases g4 with
          | cons ra rb => cases rb with
            | cons rb rc => cases rc with
              | nil =>
                rename_i v1 v2
                obtain ⟨ka, ok, vk, nk, rfl, p1, p2, p3, p4⟩ := repv_tup ra
                obtain ⟨kl⟩ := vk
                have hitems : ItemsAre (intKind prog w) [za, zb] kl := by
                  cases p4 with
                  | cons r1 r2 => cases r2 with
                    | cons r2 r3 => cases r3 with
                      | nil => cases r1 with | int _ t1 => cases r2 with | int _ t2 => exact .cons (intKind_is _ _ _ _) (.cons (intKind_is _ _ _ _) .nil)
                refine ⟨t, .ref ka, v2, rfl, ⟨ot, view_get g1, g2, nt, g3⟩, fun Q' hq => ?_⟩
                have hm : s'.heap.DictOfH (tupleKind (intKind prog w)) d xs := ⟨o, es, ep, q1, q2, q3, q4, fun x hx => let ⟨o, items, n, e, r⟩ := q6 x hx; ⟨o, items, n, hext _ _ e, r⟩, q5⟩
                have hkey : IsTupleKey (intKind prog w) s'.heap [za, zb] ka := ⟨ok, _, nk, hext _ _ (view_get p1), p2, p3, hitems⟩
                have hb1 := distinct_le (eq := eqLI) (ks.drop j) (xs.map (·.1))
                have hb2 := distinct_le (eq := eqLI) ks []
                rw [q7] at hb1
                simp only [List.length_nil, Nat.zero_add, List.length_map] at hb1 hb2
                refine wpAny_dictSet_heap (knd := tupleKind (intKind prog w)) (by show A'.units < cLine; have := hA.units; omega) hkey hm (fun h' hm' hs' => hq h' _ hs' ?_) (by rw [sizeLine_eq]; omega)
                obtain ⟨o5, es5, ep5, w1, w2, w3, w4, w5, w6⟩ := hm'
                refine ⟨o5, es5, ep5, _, w1, w2, w3, w4, w6, fun y hy => ?_, by rw [storedH_keys rfl]; exact distinct_step q7 hk⟩
                unfold storedH at hy
                split at hy
                · obtain ⟨y0, hy0, rfl⟩ := List.mem_map.mp hy
                  have := q6 y0 hy0
                  unfold putAt
                  split <;> exact this
                · rcases List.mem_append.mp hy with hy | hy
                  · exact q6 y hy
                  · rw [List.mem_singleton] at hy
                    subst hy
                    exact ⟨ok, _, nk, view_get p1, p2, p3, hitems⟩
        · rw [hsz] at hD
          obtain ⟨o, es, ep, xs, q1, q2, q3, q4, q5, q6, q7⟩ := hD
          rw [← k1, List.drop_length] at q7
          have e3 : xs.map (·.1) = distinct eqLI [] ks := q7
          have hes : es.size = (distinct eqLI [] ks).length := by
            rw [← e3, List.length_map]
            have := congrArg List.length q4
            simpa using this
          have hb2 := distinct_le (eq := eqLI) ks []
          simp only [List.length_nil, Nat.zero_add] at hb2
          refine hQ s' _ st fun E Q' ho' => ?_
          refine len_raw (hmod d hd') q1 q2 q3 (by rw [hes]; omega) ?_
          rw [hes]
          exact ho' _ _ (Step.toks _ _) (.int _ _)
      · cases hv
theorem plain_of {P : Params} {h : Heap} {l : Addr} {vals : List Value} {ns : List Int} (hL : h.IsList l vals.toArray) (hW : PySem.W.Well P h (.ref l) (PySem.W.ofPy (.list (ns.map PyData.int)))) : ∃ oL, h.get? l = some oL ∧ oL.cls = .type "list" ∧ oL.dict = none ∧ ∃ nL, oL.data = .seq vals.toArray nL := by
  obtain ⟨o, ho, hc, n, hd⟩ := hL
  rw [PySem.W.ofPy] at hW
  cases hW with
  | list hw _ =>
    rw [ho] at hw
    cases hw
    exact ⟨_, ho, rfl, rfl, n, hd⟩
end
end Mine

open PySem PySem.W PyProof.Rows
set_option maxRecDepth 100000 in
set_option maxHeartbeats 8000000 in
theorem PySem.Challenge.cw_he0002_01_holds : PySem.Challenge.rw_he0002_01.Holds := by
  w_on; o_law; k_head; (case hw => w_witness2)
  k_fill
  intro w s₀ s₁ mg mb G Y fa o pm cd doc dV kV ho hd hcd hD hmg hg args vals as hpre hlay hrd hwl hlo
  refine Ground.open G ?_
  intro T B D TE TW
  have he := Dflts.none hD rfl
  subst he
  have bi : Mine.Bi mg mb := by
    refine ⟨⟨?_, ?_⟩, ⟨?_, ?_⟩, ⟨?_, ?_⟩, ⟨?_, ?_⟩, ⟨?_, ?_⟩, ⟨?_, ?_⟩⟩
    all_goals first
      | exact (T.builtins _ (by decide)).trans (by decide +kernel)
      | exact T.free _ (by decide +kernel) (by decide +kernel) (by decide +kernel) (by decide +kernel) (by decide +kernel)
  wrow_args hpre hlay hrd hwl hlo
  rename_i hL _ hW _ hI _ hcond' hT
  refine Mine.law_main' Mine.callerA_ok T.fn T.g T.b T.nolimit ho hd hcd (Mine.plain_of hL hW) hI (by omega) bi ?_ ?_ ?_ (fun ρ FA Chk => Mine.dsnd _ _ _ _ ρ FA Chk) ?_
  · decide +kernel
  · decide +kernel
  · decide +kernel
  · intro s' st
    refine ⟨.inl ⟨_, _, [], rfl, fun _ => rfl, ReadsW.bool true, ?_, fun _ => ⟨List.nodup_nil, fun _ hm => (nomatch hm)⟩⟩, .of_keep fun b o e => st.heap b o e, st.os, st.gens (AllBare.of_eq hg)⟩
    first | rfl | wrow_post
