import PyProof.Rows.All
import Wide.All
import OpenK.AllK
import Wide.FinOn
import PySem.Challenge.RW_xr0015_01
set_option Elab.async false
set_option maxRecDepth 100000
set_option maxHeartbeats 4000000
set_option linter.all false
set_option compiler.extract_closed false
section
open PySem PySem.W PyProof.Rows
namespace Mine
local macro_rules | `(tactic| o_head ($f:ident $a $b $c $_d)) => `(tactic| o_head ($f:ident $a $b $c [115, 122, 225, 246] : Hook))
local macro_rules | `(tactic| o_law) => `(tactic| refine holds_law (by decide +kernel) fun said => ?_)
set_option maxRecDepth 100000 in
set_option maxHeartbeats 8000000 in
open_top hd for PySem.Challenge.rw_xr0015_01
end Mine
end
section
namespace Mine
set_option genSizeOf false
set_option genInjectivity false
/-- sums over what stands in a row -/
inductive LX
  | v (i : Nat) | n (k : Nat) | a (x y : LX) | m (k : Nat) (x : LX) | w (x : LX) (k : Nat)
inductive LC
  | le (x y : LX) | lt (x y : LX) | eq (x y : LX)
noncomputable def atN (c : List Nat) (i : Nat) : Nat := c.getD i 0
noncomputable def LX.d (c : List Nat) : LX → Nat
  | .v i => c.getD i 0 | .n k => k | .a x y => x.d c + y.d c | .m k x => k * x.d c | .w x k => x.d c * k
noncomputable def LC.d (c : List Nat) : LC → Prop
  | .le x y => x.d c ≤ y.d c | .lt x y => x.d c < y.d c | .eq x y => x.d c = y.d c
noncomputable def dot : List Int → List Nat → Int
  | k :: p, x :: c => k * x + dot p c
  | _, _ => 0
noncomputable def addP : List Int → List Int → List Int
  | x :: p, y :: q => (x + y) :: addP p q
  | [], q => q
  | p, [] => p
noncomputable def sclP (k : Int) (p : List Int) : List Int := p.map (k * ·)
noncomputable def LX.f : LX → List Int
  | .v i => List.replicate (i + 1) 0 ++ [1] | .n k => [(k : Int)] | .a x y => addP x.f y.f | .m k x => sclP k x.f | .w x k => sclP k x.f
noncomputable def LC.f : LC → List Int
  | .le x y => addP y.f (sclP (-1) x.f) | .lt x y => addP [-1] (addP y.f (sclP (-1) x.f)) | .eq x y => addP y.f (sclP (-1) x.f)
noncomputable def LC.ok (k : Int) : LC → Bool
  | .eq _ _ => true
  | _ => decide (0 ≤ k)
noncomputable def negP : List Int → Bool
  | k :: p => decide (k < 0) && p.all fun x => decide (x ≤ 0)
  | [] => false
noncomputable def chk : List LC → List Int → List Int → Bool
  | x :: cs, k :: ks, g => x.ok k && chk cs ks (addP g (sclP k x.f))
  | _ :: _, [], _ => false
  | [], _, g => negP g
noncomputable def imp (c : List Nat) : List LC → Prop → Prop
  | [], P => P
  | x :: cs, P => x.d c → imp c cs P
theorem dot_add (c : List Nat) : ∀ p q : List Int, dot (addP p q) c = dot p c + dot q c := by
  induction c with
  | nil => intro p q; cases p <;> cases q <;> simp [addP, dot]
  | cons x c ih =>
    intro p q
    cases p with
    | nil => simp [addP, dot]
    | cons a p =>
      cases q with
      | nil => simp [addP, dot]
      | cons b q => simp only [addP, dot, ih, Int.add_mul]; ac_rfl
theorem dot_scl (c : List Nat) (k : Int) : ∀ p : List Int, dot (sclP k p) c = k * dot p c := by
  induction c with
  | nil => intro p; cases p <;> simp [sclP, dot]
  | cons x c ih =>
    intro p
    cases p with
    | nil => simp [sclP, dot]
    | cons a p =>
      show k * a * x + dot (sclP k p) c = k * (a * x + dot p c)
      rw [ih, Int.mul_add, Int.mul_assoc]
theorem dot_unit (c : List Nat) : ∀ i, dot (List.replicate i 0 ++ [1]) c = (c.getD i 0 : Nat) := by
  induction c with
  | nil => intro i; cases i <;> rfl
  | cons x c ih =>
    intro i
    cases i with
    | zero => show 1 * (x : Int) + dot [] c = x; cases c <;> simp [dot]
    | succ i => show 0 * (x : Int) + dot (List.replicate i 0 ++ [1]) c = _; rw [ih]; simp
theorem LX.ok (c : List Nat) (e : LX) : dot e.f (1 :: c) = (e.d c : Nat) := by
  induction e with
  | v i => exact dot_unit (1 :: c) (i + 1)
  | n k => show (k : Int) * ((1 : Nat) : Int) + dot [] c = k; cases c <;> simp [dot]
  | a x y hx hy => show dot (addP x.f y.f) _ = ((x.d c + y.d c : Nat) : Int); rw [dot_add, hx, hy]; rfl
  | m k x hx => show dot (sclP k x.f) _ = ((k * x.d c : Nat) : Int); rw [dot_scl, hx]; rfl
  | w x k hx => show dot (sclP k x.f) _ = ((x.d c * k : Nat) : Int); rw [dot_scl, hx, Nat.mul_comm]; rfl
theorem dif_ok (c : List Nat) (x y : LX) : dot (addP y.f (sclP (-1) x.f)) (1 :: c) = (y.d c : Int) - (x.d c : Int) := by
  rw [dot_add, dot_scl, LX.ok, LX.ok]; omega
theorem LC.sound {c : List Nat} {k : Int} {x : LC} (h : x.d c) (hk : x.ok k = true) : 0 ≤ k * dot x.f (1 :: c) := by
  cases x with
  | le x y => exact Int.mul_nonneg (of_decide_eq_true hk) (by show 0 ≤ dot (addP y.f (sclP (-1) x.f)) _; rw [dif_ok]; have : x.d c ≤ y.d c := h; omega)
  | lt x y =>
    refine Int.mul_nonneg (of_decide_eq_true hk) ?_
    rw [show (LC.lt x y).f = addP [-1] (addP y.f (sclP (-1) x.f)) from rfl, dot_add, dif_ok]
    have : x.d c < y.d c := h
    have e : dot [-1] (1 :: c) = -1 := by cases c <;> rfl
    omega
  | eq x y => show 0 ≤ k * dot (addP y.f (sclP (-1) x.f)) _; rw [dif_ok, show x.d c = y.d c from h, Int.sub_self, Int.mul_zero]; exact Int.le_refl 0
theorem neg_ok {c : List Nat} {p : List Int} (h : negP p = true) : dot p (1 :: c) < 0 := by
  have key : ∀ (c : List Nat) (p : List Int), (p.all fun x => decide (x ≤ 0)) = true → dot p c ≤ 0 := by
    intro c
    induction c with
    | nil => intro p _; cases p <;> exact Int.le_refl 0
    | cons x c ih =>
      intro p hp
      cases p with
      | nil => exact Int.le_refl 0
      | cons a p =>
        rw [List.all_cons, Bool.and_eq_true] at hp
        have h1 := ih p hp.2
        have h2 := Int.mul_nonpos_of_nonpos_of_nonneg (of_decide_eq_true hp.1) (Int.natCast_nonneg x)
        show a * x + dot p c ≤ 0
        omega
  cases p with
  | nil => cases h
  | cons k p =>
    have h := Bool.and_eq_true_iff.mp h
    have h1 := key c p h.2
    have h2 := of_decide_eq_true h.1
    show k * ((1 : Nat) : Int) + dot p c < 0
    omega
theorem chk_ok {c : List Nat} {P : Prop} (cs : List LC) : ∀ (ks g : List Int), chk cs ks g = true → (0 ≤ dot g (1 :: c) ∨ P) → imp c cs P := by
  induction cs with
  | nil => exact fun ks g h hg => hg.elim (fun hg => absurd (neg_ok (c := c) (show negP g = true by cases ks <;> exact h)) (Int.not_lt.mpr hg)) id
  | cons x cs ih =>
    intro ks g h hg hx
    cases ks with
    | nil => cases h
    | cons k ks =>
      have h := Bool.and_eq_true_iff.mp h
      refine ih ks _ h.2 (hg.imp (fun hg => ?_) id)
      rw [dot_add, dot_scl]
      exact Int.add_nonneg hg (LC.sound hx h.1)
theorem lif (c : List Nat) (cs : List LC) (ks : List Int) (h : chk cs ks [] = true) : imp c cs False := chk_ok cs ks _ h (.inl (by cases c <;> exact Int.le_refl 0))
theorem lle (c : List Nat) (cs : List LC) (ks : List Int) (x y : LX) (h : chk cs ks (LC.lt y x).f = true) : imp c cs (x.d c ≤ y.d c) := chk_ok cs ks _ h (by
  by_cases hc : x.d c ≤ y.d c
  · exact .inr hc
  · have := LC.sound (k := 1) (x := .lt y x) (c := c) (Nat.lt_of_not_le hc) rfl
    exact .inl (by rwa [Int.one_mul] at this))
theorem llt (c : List Nat) (cs : List LC) (ks : List Int) (x y : LX) (h : chk cs ks (LC.le y x).f = true) : imp c cs (x.d c < y.d c) := chk_ok cs ks _ h (by
  by_cases hc : x.d c < y.d c
  · exact .inr hc
  · have := LC.sound (k := 1) (x := .le y x) (c := c) (Nat.le_of_not_lt hc) rfl
    exact .inl (by rwa [Int.one_mul] at this))
theorem scl_ok {c : List Nat} {p : List Int} (h : 0 ≤ dot p c) : 0 ≤ dot (sclP 2 p) c := by
  rw [dot_scl]; exact Int.mul_nonneg (by decide) h
theorem lle2 (c : List Nat) (cs : List LC) (ks : List Int) (x y : LX) (h : chk cs ks (sclP 2 (LC.lt y x).f) = true) : imp c cs (x.d c ≤ y.d c) := chk_ok cs ks _ h (by
  by_cases hc : x.d c ≤ y.d c
  · exact .inr hc
  · have := LC.sound (k := 1) (x := .lt y x) (c := c) (Nat.lt_of_not_le hc) rfl
    exact .inl (scl_ok (by rwa [Int.one_mul] at this)))
theorem llt2 (c : List Nat) (cs : List LC) (ks : List Int) (x y : LX) (h : chk cs ks (sclP 2 (LC.le y x).f) = true) : imp c cs (x.d c < y.d c) := chk_ok cs ks _ h (by
  by_cases hc : x.d c < y.d c
  · exact .inr hc
  · have := LC.sound (k := 1) (x := .le y x) (c := c) (Nat.le_of_not_lt hc) rfl
    exact .inl (scl_ok (by rwa [Int.one_mul] at this)))
theorem imp_and {c : List Nat} {P Q R : Prop} (f : P → Q → R) (cs : List LC) : imp c cs P → imp c cs Q → imp c cs R := by
  induction cs with
  | nil => exact f
  | cons x cs ih => exact fun h1 h2 hx => ih (h1 hx) (h2 hx)
theorem leq (c : List Nat) (cs : List LC) (ks js : List Int) (x y : LX) (h : chk cs ks (LC.lt y x).f = true) (h2 : chk cs js (LC.lt x y).f = true) : imp c cs (x.d c = y.d c) :=
  imp_and Nat.le_antisymm cs (lle c cs ks x y h) (lle c cs js y x h2)
theorem yes : true = true := rfl
theorem ix {n : Nat} (h : n ≤ 4096) : (0 : Int) ≤ (n : Int) ∧ (n : Int) ≤ 4096 := ⟨Int.natCast_nonneg n, Int.ofNat_le.mpr h⟩
theorem sbl (a b : Nat) : a ≤ a - b + b := Nat.sub_le_iff_le_add.mp (Nat.le_refl _)
end Mine
end
section
open PySem PySem.W PyProof.Rows
set_option genSizeOf false
set_option genInjectivity false
namespace Mine
/-- values of the small interpreter -/
inductive MV where
  | none | bool (b : Bool) | int (i : Int) | str (x : List Nat) | ref (i : Nat) | glob (v : Value)
/-- objects of its store -/
inductive MO where
  | list (vs : List MV) | tup (vs : List MV) | rng (a b c : Int)
  | dict (kvs : List (List Nat × MV))
  | acc (d : Nat) (vs : List MV)
  | clo (p : Str) (body : Expr) (sc : Scope) (cap : List (Str × Nat))
  | cell (v : Option MV)
  | ro (vs : List MV)
structure MS where
  objs : List MO
  loc : Str → Option MV
  cel : Str → Option Nat
/-- what a block knows of itself: its names, the def it stands in -/
structure Sta where
  sc : Scope
  fn : Addr
inductive MFlow where
  | next | ret (v : MV)
noncomputable def retOf : MFlow → MV
  | .ret v => v
  | .next => .none
noncomputable def Mm (α : Type) := MS → Option (α × MS)
noncomputable def mret {α : Type} (a : α) : Mm α := fun S => some (a, S)
noncomputable def mfail {α : Type} : Mm α := fun _ => none
noncomputable def bd {α β : Type} (m : Mm α) (f : α → Mm β) : Mm β := fun S => match m S with | some (a, S') => f a S' | none => none
noncomputable def upd (m : Str → Option MV) (x : Str) (v : MV) : Str → Option MV := fun y => if y = x then some v else m y
noncomputable def storeM (x : Str) (v : MV) : Mm Unit := fun S => some ((), { S with loc := upd S.loc x v })
noncomputable def storeC (x : Str) (v : MV) : Mm Unit := fun S => match S.cel x with
  | some i => (match S.objs[i]? with | some (.cell _) => some ((), { S with objs := S.objs.set i (.cell (some v)) }) | _ => none)
  | none => none
noncomputable def rngItems (a b c : Int) : List MV :=
  if c = 1 then (List.range (b - a).toNat).map fun (k : Nat) => MV.int (a + (k : Int))
  else (List.range (a - b).toNat).map fun (k : Nat) => MV.int (a - (k : Int))
/-- what is walked along -/
inductive SK where
  | list | tup | rng (a b c : Int)
noncomputable def rngOk (a b c : Int) : Bool := (c = 1 ∨ c = -1) ∧ -2000 ≤ a ∧ a ≤ 2000 ∧ -2000 ≤ b ∧ b ≤ 2000
noncomputable def itemsOf (S : MS) : MV → Option (SK × List MV)
  | .ref i => match S.objs[i]? with
    | some (.list vs) => some (.list, vs)
    | some (.tup vs) => some (.tup, vs)
    | some (.rng a b c) => if rngOk a b c then some (.rng a b c, rngItems a b c) else none
    | _ => none
  | _ => none
noncomputable def stopLen : Nat := 4096
noncomputable def isNone : MV → Option Bool
  | .none => some true
  | .bool _ => some false
  | .int _ => some false
  | .str _ => some false
  | .ref _ => some false
  | .glob (.ref _) => some false
  | _ => none
noncomputable def putKey (kvs : List (List Nat × MV)) (k : List Nat) (v : MV) : List (List Nat × MV) :=
  if kvs.any (fun kv => kv.1 = k) then kvs.map (fun kv => if kv.1 = k then (kv.1, v) else kv) else kvs ++ [(k, v)]
noncomputable def atKeyM (kvs : List (List Nat × MV)) (k : List Nat) : Option MV := (kvs.find? fun kv => kv.1 = k).map (·.2)
noncomputable abbrev Pc := List Nat × List Nat
/-- the pieces of a row, told -/
noncomputable def Pieces (objs : List MO) (vs : List MV) (l : List Pc) : Prop := Paired (fun v p => ∃ i, v = MV.ref i ∧ objs[i]? = some (.tup [.str p.1, .str p.2])) vs l
noncomputable def catL (l : List Pc) : List Nat := l.flatMap fun p => p.1 ++ p.2
noncomputable def sizeKey : List Nat := (Str.ofString "_initial_size").cps.toList
noncomputable def insertAt (k : Nat) (v : MV) (vs : List MV) : List MV := vs.take k ++ v :: vs.drop k
noncomputable def joinL (sep : List Nat) : List (List Nat) → List Nat
  | [] => []
  | [x] => x
  | x :: r => x ++ sep ++ joinL sep r
noncomputable def findDot (x : List Nat) : Int := match x.findIdx? (· == 46) with | some i => (i : Int) | none => -1
noncomputable def isAsciiL (x : List Nat) : Bool := x.all (· < 128)
noncomputable def lowL (x : List Nat) : List Nat := x.map fun c => if 65 ≤ c ∧ c ≤ 90 then c + 32 else c
noncomputable def uppL (x : List Nat) : List Nat := x.map fun c => if 97 ≤ c ∧ c ≤ 122 then c - 32 else c
/-- figures to the end, or to a newline that is the end -/
noncomputable def figs0 : List Nat → Bool
  | [] => true
  | c :: r => (c == 10 && r == []) || (48 ≤ c && c ≤ 57 && figs0 r)
noncomputable def figs : List Nat → Bool
  | [] => false
  | c :: r => 48 ≤ c && c ≤ 57 && figs0 r
/-- the text holds a dot behind which nothing but figures stands, one at least (and a newline, maybe, at the end) -/
noncomputable def ipAt : List Nat → Bool
  | [] => false
  | c :: r => (c == 46 && figs r) || ipAt r
/-- the kinds that have methods here -/
inductive MK where
  | str | list | acc
inductive MN where
  | append | insert | find | startswith | endswith | lower | upper | join | ainsert | partCount | popFrom
noncomputable def methName (k : MK) (name : Str) : Option MN :=
  match k with
  | .str => if name = "find" then some .find else if name = "startswith" then some .startswith else if name = "endswith" then some .endswith
    else if name = "lower" then some .lower else if name = "upper" then some .upper else if name = "join" then some .join else none
  | .list => if name = "append" then some .append else if name = "insert" then some .insert else none
  | .acc => if name = "insert" then some .ainsert else if name = "part_count" then some .partCount else if name = "pop_from" then some .popFrom else none
/-- what the small interpreter knows of the top: names, defs -/
structure Tops where
  name : Str → Option Value
  cls : Addr
  pat : Addr
  /-- the one lambda of a def: its code, the code's table, its long name, its place -/
  lam : Addr → Option (Addr × Addr × Str × Pos)
noncomputable def notSet (e : Expr) : Bool := e.ctorIdx != 7
noncomputable def notComp (e : Expr) : Bool := e.ctorIdx != 8
noncomputable def notCall (e : Expr) : Bool := e.ctorIdx != 16
noncomputable def notStar (e : Expr) : Bool := e.ctorIdx != 22
noncomputable def notSlice (e : Expr) : Bool := e.ctorIdx != 26
noncomputable def isName (e : Expr) : Bool := e.ctorIdx == 23
noncomputable def isTupleE (e : Expr) : Bool := e.ctorIdx == 25
noncomputable def nameOk (x : Str) : Bool := x != "__debug__" && x != "__classdict__"
/-- the cells of a def, in the order of its table -/
noncomputable def cellNames (sc : Scope) : List Str := sc.names.filterMap fun x => if x.2 == .cell then some x.1 else none
noncomputable def nameKind (sc : Scope) (x : Str) : Option NameKind := sc.names.lookup x
/-- two names of one line, two values: does the model store them backwards (none where it is not told here) -/
noncomputable def swap2 (q : Sta) (a b : Str) (p p2 : Pos) (x y : Expr) : Option Bool := (nameKind q.sc a).bind fun ka => (nameKind q.sc b).bind fun kb =>
  if (notStar x && notStar y && a != b) = true then
    (if (ka == .local && (kb == .local && p2.line == p.line)) = true then
      (if (foldedForSure 8 x && (foldedForSure 8 y && true)) = true then some false else if (constantsAlone 8 x && (constantsAlone 8 y && true)) = true then none else some true)
    else some false)
  else none
/-- the model stores what is bound here in its order -/
noncomputable def noSwap (t e : Expr) : Bool := match t with
  | .Tuple ts _ _ => (match e with
    | .Tuple _ _ _ => ts.length != 2 && ts.length != 3
    | _ => true)
  | .List .. => false
  | _ => true
noncomputable def capsOf (m : Str → Option Nat) : List (Str × NameKind) → Option (List (Str × Nat))
  | [] => some []
  | (x, k) :: r => if k == .free then (match m x, capsOf m r with
      | some i, some l => some ((x, i) :: l)
      | _, _ => none)
    else capsOf m r
/-- the cells that a block within takes along; it has none of its own -/
noncomputable def capM (sc : Scope) : Mm (List (Str × Nat)) := fun S =>
  if sc.names.all (fun x => x.2 != .cell && (x.2 != .local || nameKind sc x.1 == some .local)) ∧ sc.kind = .function ∧ sc.isGenerator = false ∧ sc.isCoroutine = false then
    (match capsOf S.cel sc.names with | some cap => some (cap, S) | none => none)
  else none
/-- binding the parameters of a def, in order -/
noncomputable def bindAll (sc : Scope) : List (Str × MV) → Mm Unit
  | [] => mret ()
  | (x, v) :: r => bd (match nameKind sc x with
      | some .local => storeM x v
      | some .cell => storeC x v
      | _ => mfail) fun _ => bindAll sc r
/-- a sort's questions, answered -/
noncomputable def runK {α : Type} (lt : Nat → Nat → Bool) : PySem.W.KasT α → α
  | .ret a => a
  | .ask i j k => runK lt (k (lt i j))
noncomputable def ltL (l : List (List Nat)) (i j : Nat) : Bool := decide (l.getD i [] < l.getD j [])
end Mine
end
section
open PySem PySem.W PyProof.Rows PySem.Calls
namespace Mine
/-- the ground that the small interpreter stands on -/
structure Gd where
  prog : Program
  w : World
  T : Tops
  K : Frag
  mg : Str → Option Value
  mb : Str → Option Value
  h₀ : Heap
  Ex : List Addr
  /-- the own list class: the functions behind its methods -/
  am : Str → Option Value
/-- a value of the small interpreter and the model's -/
inductive VR (ρ : List Addr) : MV → Value → Prop
  | none : VR ρ .none .none
  | bool (b : Bool) : VR ρ (.bool b) (.bool b)
  | int (i : Int) (t : Tok) : VR ρ (.int i) (.int i t)
  | str (s : Str) (t : Tok) : VR ρ (.str s.cps.toList) (.str s t)
  | ref {i : Nat} {a : Addr} (h : ρ[i]? = some a) : VR ρ (.ref i) (.ref a)
  | glob (v : Value) : VR ρ (.glob v) v
/-- the longer list tells what the shorter one told -/
noncomputable def Pre (ρ ρ' : List Addr) : Prop := ∀ (i : Nat) (a : Addr), ρ[i]? = some a → ρ'[i]? = some a
theorem Pre.refl {ρ : List Addr} : Pre ρ ρ := fun _ _ h => h
theorem Pre.trans {ρ ρ' ρ₂ : List Addr} (x : Pre ρ ρ') (y : Pre ρ' ρ₂) : Pre ρ ρ₂ := fun i a h => y i a (x i a h)
theorem Pre.app {ρ l : List Addr} : Pre ρ (ρ ++ l) := fun _ _ h => (List.getElem?_append_left (List.getElem?_eq_some_iff.mp h).1).trans h
theorem VR.pre {ρ ρ' : List Addr} {v : MV} {r : Value} (p : Pre ρ ρ') (h : VR ρ v r) : VR ρ' v r := by
  cases h with
  | none => exact .none
  | bool b => exact .bool b
  | int i t => exact .int i t
  | str s t => exact .str s t
  | ref h => exact .ref (p _ _ h)
  | glob => exact .glob _
noncomputable abbrev VRs (ρ : List Addr) (vs : List MV) (rs : List Value) : Prop := Paired (VR ρ) vs rs
theorem pd_imp {α β : Type} {F G : α → β → Prop} (hi : ∀ a b, F a b → G a b) {l : List α} {r : List β} (h : Paired F l r) : Paired G l r := by
  induction h with
  | nil => exact .nil
  | cons h _ ih => exact .cons (hi _ _ h) ih
theorem VRs.pre {ρ ρ' : List Addr} {vs : List MV} {rs : List Value} (p : Pre ρ ρ') (h : VRs ρ vs rs) : VRs ρ' vs rs := pd_imp (fun _ _ x => x.pre p) h
theorem pd_len {α β : Type} {F : α → β → Prop} {l : List α} {r : List β} (h : Paired F l r) : l.length = r.length := by
  induction h with
  | nil => rfl
  | cons _ _ ih => exact congrArg (· + 1) ih
theorem pd_get {α β : Type} {F : α → β → Prop} {l : List α} {r : List β} (h : Paired F l r) : ∀ {i : Nat} {a : α}, l[i]? = some a → ∃ b, r[i]? = some b ∧ F a b := by
  induction h with
  | nil => exact fun e => nomatch e
  | cons hf _ ih =>
    intro i a e
    cases i with
    | zero => cases e; exact ⟨_, rfl, hf⟩
    | succ i => exact ih e
theorem pd_none {α β : Type} {F : α → β → Prop} {l : List α} {r : List β} (h : Paired F l r) {i : Nat} (hi : l[i]? = none) : r[i]? = none := by
  rw [List.getElem?_eq_none_iff] at hi ⊢
  rw [← pd_len h]; exact hi
theorem pd_app {α β : Type} {F : α → β → Prop} {l₁ l₂ : List α} {r₁ r₂ : List β} (h : Paired F l₁ r₁) (h2 : Paired F l₂ r₂) : Paired F (l₁ ++ l₂) (r₁ ++ r₂) := by
  induction h with
  | nil => exact h2
  | cons h _ ih => exact .cons h ih
theorem pd_take {α β : Type} {F : α → β → Prop} {l : List α} {r : List β} (n : Nat) (h : Paired F l r) : Paired F (l.take n) (r.take n) := by
  induction h generalizing n with
  | nil => cases n <;> exact .nil
  | cons h _ ih =>
    cases n with
    | zero => exact .nil
    | succ n => exact .cons h (ih n)
theorem pd_drop {α β : Type} {F : α → β → Prop} {l : List α} {r : List β} (n : Nat) (h : Paired F l r) : Paired F (l.drop n) (r.drop n) := by
  induction h generalizing n with
  | nil => cases n <;> exact .nil
  | cons h t ih =>
    cases n with
    | zero => exact .cons h t
    | succ n => exact ih n
theorem pd_rev {α β : Type} {F : α → β → Prop} {l : List α} {r : List β} (h : Paired F l r) : Paired F l.reverse r.reverse := by
  induction h with
  | nil => exact .nil
  | cons h _ ih => rw [List.reverse_cons, List.reverse_cons]; exact pd_app ih (.cons h .nil)
theorem pd_set {α β : Type} {F : α → β → Prop} {a : α} {b : β} (hab : F a b) {l : List α} {r : List β} (n : Nat) (h : Paired F l r) : Paired F (l.set n a) (r.set n b) := by
  induction h generalizing n with
  | nil => exact .nil
  | cons h t ih =>
    cases n with
    | zero => exact .cons hab t
    | succ n => exact .cons h (ih n)
theorem pd_rep {α β : Type} {F : α → β → Prop} {a : α} {b : β} (hab : F a b) : ∀ n : Nat, Paired F (List.replicate n a) (List.replicate n b)
  | 0 => .nil
  | n + 1 => by rw [List.replicate_succ, List.replicate_succ]; exact .cons hab (pd_rep hab n)
/-- an entry of a dict whose keys are texts -/
noncomputable def ER (ρ : List Addr) (p : List Nat × MV) (r : Str × Value) : Prop := r.1.cps.toList = p.1 ∧ VR ρ p.2 r.2
noncomputable abbrev oneArg (p : Str) (ap : Pos) : Arguments := ⟨[], [⟨p, none, ap⟩], none, [], [], none, []⟩
/-- an object of the small interpreter's store and the model's object at an address -/
noncomputable def OR (G : Gd) (ρ : List Addr) (h : Heap) (a : Addr) : MO → Prop
  | .list vs => ∃ items, h.PlainList a items ∧ VRs ρ vs items.toList
  | .ro vs => ∃ items, h.IsList a items ∧ VRs ρ vs items.toList
  | .tup vs => ∃ items n, h.get? a = some { cls := .type "tuple", data := .seq items n } ∧ VRs ρ vs items.toList
  | .rng x y z => ∃ t u v, IsRange h a x y z t u v
  | .dict kvs => ∃ kvs', h.DictOf (_root_.PySem.strKind G.prog G.w) a kvs' ∧ Paired (ER ρ) kvs kvs'
  | .acc d vs => ∃ items n ad, ρ[d]? = some ad ∧ h.get? a = some { cls := .ref G.T.cls, dict := some ad, data := .seq items n } ∧ VRs ρ vs items.toList
  | .clo p body sc cap => ∃ name qual pm c' ctv clos ap, h.get? a = some (kla_obj name qual (oneArg p ap) body sc clos pm c' ctv) ∧ h.CodeRec (.ref c') qual ∧
      (sc.kind = .function ∧ sc.isGenerator = false ∧ sc.isCoroutine = false ∧ ∀ y ∈ sc.names, y.2 ≠ .cell) ∧ ∀ x (i : Nat), cap.lookup x = some i → ∃ c, clos.lookup x = some c ∧ ρ[i]? = some c
  | .cell v => ∃ cv, h.IsCell a cv ∧ ∀ x, v = some x → ∃ rv, cv = some rv ∧ VR ρ x rv
noncomputable abbrev Stays (h h' : Heap) : Prop := ∀ b o, h.get? b = some o → h'.get? b = some o
noncomputable abbrev StaysBut (a : Addr) (h h' : Heap) : Prop := ∀ b o, b ≠ a → h.get? b = some o → h'.get? b = some o
noncomputable abbrev Codes (h h' : Heap) : Prop := ∀ c qn, h.CodeRec c qn → h'.CodeRec c qn
theorem Stays.codes {h h' : Heap} (k : Stays h h') : Codes h h' := fun _ _ x => x.keeps k
theorem OR.mv {G : Gd} {ρ ρ' : List Addr} {h h' : Heap} {a : Addr} {o : MO} (p : Pre ρ ρ') (k : ∀ o, h.get? a = some o → h'.get? a = some o) (hc : Codes h h') (x : OR G ρ h a o) : OR G ρ' h' a o := by
  cases o with
  | list vs => exact (by obtain ⟨items, ⟨n, e⟩, z⟩ := x; exact ⟨items, ⟨n, k _ e⟩, z.pre p⟩)
  | ro vs => exact (by obtain ⟨items, ⟨o, e, r⟩, z⟩ := x; exact ⟨items, ⟨o, k _ e, r⟩, z.pre p⟩)
  | tup vs => exact (by obtain ⟨items, n, e, z⟩ := x; exact ⟨items, n, k _ e, z.pre p⟩)
  | rng x y z => exact (by obtain ⟨t, u, v, e⟩ := x; exact ⟨t, u, v, k _ e⟩)
  | dict kvs => exact (by obtain ⟨kvs', ⟨o, es, ep, e, r⟩, z⟩ := x; exact ⟨kvs', ⟨o, es, ep, k _ e, r⟩, pd_imp (fun _ _ z => ⟨z.1, z.2.pre p⟩) z⟩)
  | acc d vs => exact (by obtain ⟨items, n, ad, e1, e, z⟩ := x; exact ⟨items, n, ad, p _ _ e1, k _ e, z.pre p⟩)
  | clo _ body sc cap => exact (by obtain ⟨name, qual, pm, c', ctv, clos, ap, e, cr, z⟩ := x; exact ⟨name, qual, pm, c', ctv, clos, ap, k _ e, hc _ _ cr, z.1, fun x i hx => (by obtain ⟨c, e1, e2⟩ := z.2 x i hx; exact ⟨c, e1, p _ _ e2⟩)⟩)
  | cell v => exact (by obtain ⟨cv, ⟨o, e, r⟩, z⟩ := x; exact ⟨cv, ⟨o, k _ e, r⟩, fun x hx => (by obtain ⟨rv, e1, e2⟩ := z x hx; exact ⟨rv, e1, e2.pre p⟩)⟩)
theorem OR.lt {G : Gd} {ρ : List Addr} {h : Heap} {a : Addr} {o : MO} (x : OR G ρ h a o) : ∃ ob, h.get? a = some ob := by
  cases o with
  | list vs => exact (by obtain ⟨_, ⟨_, e⟩, _⟩ := x; exact ⟨_, e⟩)
  | ro vs => exact (by obtain ⟨_, ⟨_, e, _⟩, _⟩ := x; exact ⟨_, e⟩)
  | tup vs => exact (by obtain ⟨_, _, e, _⟩ := x; exact ⟨_, e⟩)
  | rng x y z => exact (by obtain ⟨_, _, _, e⟩ := x; exact ⟨_, e⟩)
  | dict kvs => exact (by obtain ⟨_, ⟨_, _, _, e, _⟩, _⟩ := x; exact ⟨_, e⟩)
  | acc d vs => exact (by obtain ⟨_, _, _, _, e, _⟩ := x; exact ⟨_, e⟩)
  | clo _ body sc cap => exact (by obtain ⟨_, _, _, _, _, _, _, e, _⟩ := x; exact ⟨_, e⟩)
  | cell v => exact (by obtain ⟨_, ⟨_, e, _⟩, _⟩ := x; exact ⟨_, e⟩)
/-- the table of a def's one lambda -/
noncomputable def TabOK (G : Gd) (h : Heap) (l : Addr × Addr × Str × Pos) : Prop :=
  l.2.1 ∈ G.Ex ∧ ∃ ps, h.get? l.2.1 = some (tabObj ps) ∧ (ps = #[] ∨ ∃ c', ps = #[rawInt l.2.2.2.line, rawInt l.2.2.2.col, .ref c'] ∧ h.CodeRec (.ref c') l.2.2.1)
theorem TabOK.mv {G : Gd} {h h' : Heap} {l} (k : ∀ o, h.get? l.2.1 = some o → h'.get? l.2.1 = some o) (hc : Codes h h') (x : TabOK G h l) : TabOK G h' l :=
  let ⟨hx, ps, e, r⟩ := x
  ⟨hx, ps, k _ e, r.imp id fun ⟨c', e1, e2⟩ => ⟨c', e1, hc _ _ e2⟩⟩
/-- what holds of the ground -/
structure Base (G : Gd) : Prop where
  X : G.K.In G.h₀
  g : G.h₀.Ns mainGlobals G.mg
  b : G.h₀.Ns builtinsNs G.mb
  nl : G.h₀.NoLimit
  bm : ∃ bm ob, G.mg "__builtins__" = some (.ref bm) ∧ bm ≠ builtinsNs ∧ bm ≠ mainGlobals ∧ G.h₀.get? bm = some ob ∧ ob.cls = .type "module" ∧ ob.dict = some builtinsNs ∧ ob.data = .plain
  names : ∀ x v, G.T.name x = some v → G.mg x = some v ∨ (G.mg x = none ∧ G.mb x = some v)
  ex : ∀ P ∈ G.Ex, G.h₀.get? P = none
  lam : ∀ f l, G.T.lam f = some l → CodeHd G.h₀ l.1 l.2.1 ∧ l.2.1 ∈ G.Ex
  lam0 : G.T.lam 0 = none
  lamInj : ∀ f f' l l', G.T.lam f = some l → G.T.lam f' = some l' → l.2.1 = l'.2.1 → l = l'
noncomputable def kindFits (k k' : NameKind) : Prop := k' = k ∨ (k = .free ∧ k' = .cell)
/-- what is told of lies above the ground; but what nobody may turn -/
noncomputable abbrev LowAt (G : Gd) (ρ : List Addr) (objs : List MO) : Prop := ∀ (i : Nat) (a : Addr), ρ[i]? = some a → (G.h₀.get? a = none ∨ ∃ vs, objs[i]? = some (.ro vs)) ∧ a ∉ G.Ex
theorem size_none (h : Heap) : h.get? h.objs.size = none := by
  cases hq : h.get? h.objs.size with
  | none => rfl
  | some o => exact absurd (Heap.lt_size hq) (Nat.lt_irrefl _)
theorem push_stays (h : Heap) (o : Obj) : Stays h (h.push o) := fun _ _ e => Heap.get?_push_of_some o e
theorem none_of_stays {h h' : Heap} {a : Addr} (k : ∀ o, h.get? a = some o → h'.get? a = some o) (e : h'.get? a = none) : h.get? a = none := by
  cases hq : h.get? a with
  | none => rfl
  | some o => rw [k _ hq] at e; cases e
theorem ne_of_get {h : Heap} {a b : Addr} {o : Obj} (e : h.get? a = some o) (e' : h.get? b = none) : a ≠ b := fun h => by rw [h, e'] at e; cases e
theorem codeRec_but {h h' : Heap} {a : Addr} {oa : Obj} (k : StaysBut a h h') (ha : h.get? a = some oa) (hna : ∀ vs, oa.data ≠ .fields vs) : Codes h h' :=
  fun _ _ x => x.keepsBut k ha hna
theorem codeRec_off {h h' : Heap} {I : Addr} {oI : Obj} (k : StaysBut I h h') (ho : h.get? I = some oI) (hn : ∀ vs, oI.data = .fields vs → ∀ q t, vs[1]? ≠ some (.str q t)) : Codes h h' := by
  rintro c qn ⟨a, o, vs, t, e, g, d, r⟩
  refine ⟨a, o, vs, t, e, k _ _ (fun hb => ?_) g, d, r⟩
  subst hb
  rw [ho] at g; cases g
  exact hn _ d _ _ r
theorem Ns.but {h h' : Heap} {a b : Addr} {m : Str → Option Value} (k : StaysBut a h h') (hb : b ≠ a) (x : h.Ns b m) : h'.Ns b m :=
  (by obtain ⟨o, es, ep, ho, r⟩ := x; exact ⟨o, es, ep, k _ _ hb ho, r⟩)
theorem Ns.codes {h h' : Heap} {L : Addr} {m : Str → Option Value} (hn : h.Ns L m) (k : StaysBut L h h') : Codes h h' :=
  let ⟨_, _, _, hL, hd, _⟩ := hn
  codeRec_but k hL fun _ hx => Data.noConfusion (hd.symm.trans hx)
/-- told of by the store or the ground -/
noncomputable def Kept (G : Gd) (ρ : List Addr) (b : Addr) : Prop := b ∈ ρ ∨ (∃ o, G.h₀.get? b = some o) ∨ b ∈ G.Ex
/-- told of by none -/
structure Out (G : Gd) (ρ : List Addr) (I : Addr) : Prop where
  r : I ∉ ρ
  h : G.h₀.get? I = none
  e : I ∉ G.Ex
theorem Out.ne {G : Gd} {ρ : List Addr} {I b : Addr} (O : Out G ρ I) (k : Kept G ρ b) : b ≠ I := fun hb => by
  subst hb
  exact k.elim O.r fun k => k.elim (fun ⟨_, e⟩ => by rw [O.h] at e; cases e) O.e
/-- the store and the heap, no block yet -/
structure RelT (G : Gd) (ρ : List Addr) (objs : List MO) (h : Heap) : Prop where
  len : ρ.length = objs.length
  nd : ρ.Nodup
  low : LowAt G ρ objs
  obj : ∀ (i : Nat) o, objs[i]? = some o → ∃ a, ρ[i]? = some a ∧ OR G ρ h a o
  keep : Stays G.h₀ h
  exl : ∀ P ∈ G.Ex, ∃ o, h.get? P = some o
  tab : ∀ f l, G.T.lam f = some l → TabOK G h l
section
variable {G : Gd} {ρ ρ' : List Addr} {objs : List MO} {h h' : Heap}
theorem RelT.mv (R : RelT G ρ objs h) (k : ∀ b o, Kept G ρ b → h.get? b = some o → h'.get? b = some o) (hc : Codes h h') : RelT G ρ objs h' where
  len := R.len
  nd := R.nd
  low := R.low
  obj := fun i o e => (by obtain ⟨a, e1, e2⟩ := R.obj i o e; exact ⟨a, e1, e2.mv .refl (fun o => k a o (.inl (List.mem_of_getElem? e1))) hc⟩)
  keep := fun b o e => k b o (.inr (.inl ⟨o, e⟩)) (R.keep b o e)
  exl := fun P hP => (by obtain ⟨o, e⟩ := R.exl P hP; exact ⟨o, k P o (.inr (.inr hP)) e⟩)
  tab := fun f l e => (R.tab f l e).mv (fun o => k _ o (.inr (.inr (R.tab f l e).1))) hc
theorem RelT.lt (R : RelT G ρ objs h) : ∀ b ∈ ρ, ∃ ob, h.get? b = some ob := fun b hb => by
  obtain ⟨i, hi, rfl⟩ := List.getElem_of_mem hb
  have hi' : i < objs.length := R.len ▸ hi
  obtain ⟨a, e1, e2⟩ := R.obj i _ (List.getElem?_eq_getElem hi')
  rw [List.getElem?_eq_getElem hi] at e1
  cases e1
  exact e2.lt
theorem RelT.out (R : RelT G ρ objs h) {I : Addr} (hI : h.get? I = none) : Out G ρ I :=
  ⟨fun hm => (by obtain ⟨_, e⟩ := R.lt _ hm; exact ne_of_get e hI rfl), none_of_stays (R.keep I) hI, fun hE => (by obtain ⟨_, e⟩ := R.exl _ hE; exact ne_of_get e hI rfl)⟩
theorem RelT.lowE (R : RelT G ρ objs h) {a : Addr} (ha : a ∈ ρ) : a ∉ G.Ex := by
  obtain ⟨i, hi, rfl⟩ := List.getElem_of_mem ha
  exact (R.low i _ (List.getElem?_eq_getElem hi)).2
/-- an object of the heap that has not been told of yet goes into the store -/
theorem RelT.adopt (R : RelT G ρ objs h) {a : Addr} {o : MO} (O : Out G ρ a) (ho : OR G (ρ ++ [a]) h a o) : RelT G (ρ ++ [a]) (objs ++ [o]) h where
  len := by rw [List.length_append, List.length_append, R.len]; rfl
  nd := List.nodup_append.mpr ⟨R.nd, List.nodup_cons.mpr ⟨List.not_mem_nil, List.nodup_nil⟩, fun x hx y hy e => O.r (List.mem_singleton.mp hy ▸ e ▸ hx)⟩
  low := fun i b e => by
    by_cases hi : i < ρ.length
    · rw [List.getElem?_append_left hi] at e
      rw [List.getElem?_append_left (R.len ▸ hi)]
      exact R.low i b e
    · rw [List.getElem?_append_right (Nat.le_of_not_lt hi)] at e
      have hb := List.mem_singleton.mp (List.mem_of_getElem? e)
      exact hb ▸ ⟨.inl O.h, O.e⟩
  obj := fun i o' e => by
    by_cases hi : i < objs.length
    · rw [List.getElem?_append_left hi] at e
      exact (by obtain ⟨b, e1, e2⟩ := R.obj i o' e; exact ⟨b, Pre.app _ _ e1, e2.mv .app (fun _ x => x) fun _ _ x => x⟩)
    · have hl := (List.getElem?_eq_some_iff.mp e).1
      rw [List.length_append] at hl
      cases Nat.le_antisymm (Nat.le_of_lt_succ hl) (Nat.le_of_not_lt hi)
      rw [List.getElem?_concat_length] at e
      cases e
      exact ⟨a, by rw [← R.len, List.getElem?_concat_length], ho⟩
  keep := R.keep
  exl := R.exl
  tab := R.tab
theorem nodup_inj {ρ : List Addr} (hn : ρ.Nodup) {i j : Nat} {a : Addr} (hi : ρ[i]? = some a) (hj : ρ[j]? = some a) : i = j :=
  (List.getElem?_inj (List.getElem?_eq_some_iff.mp hi).1 hn).mp (hi.trans hj.symm)
/-- an object of the store has turned -/
theorem RelT.set (R : RelT G ρ objs h) {i : Nat} {a : Addr} {o : MO} (hi : ρ[i]? = some a) (k : StaysBut a h h') (hc : Codes h h') (ho : OR G ρ h' a o) (hr : ∀ vs, objs[i]? ≠ some (.ro vs)) : RelT G ρ (objs.set i o) h' := by
  have ham : a ∈ ρ := List.mem_of_getElem? hi
  have hh : G.h₀.get? a = none := (R.low i a hi).1.elim id fun ⟨vs, e⟩ => absurd e (hr vs)
  refine ⟨R.len.trans List.length_set.symm, R.nd, fun j b hj => ?_, fun j o' e => ?_, fun b o e => k _ _ (fun hb => ne_of_get (hb ▸ e) hh rfl) (R.keep b o e), fun P hP => ?_, fun f l e => ?_⟩
  · by_cases hij : i = j
    · subst hij
      cases hi.symm.trans hj
      exact ⟨.inl hh, (R.low i a hi).2⟩
    · rw [List.getElem?_set_ne hij]
      exact R.low j b hj
  · by_cases hij : i = j
    · subst hij
      rw [List.getElem?_set_self (R.len ▸ (List.getElem?_eq_some_iff.mp hi).1)] at e
      cases e
      exact ⟨a, hi, ho⟩
    · rw [List.getElem?_set_ne hij] at e
      exact (by obtain ⟨b, e1, e2⟩ := R.obj j o' e; exact ⟨b, e1, e2.mv .refl (fun o => k b o fun hb => hij (nodup_inj R.nd hi (hb ▸ e1))) hc⟩)
  · exact (by obtain ⟨o, e⟩ := R.exl P hP; exact ⟨o, k _ _ (fun hb => R.lowE ham (hb ▸ hP)) e⟩)
  · exact (R.tab f l e).mv (fun o => k _ o fun hb => R.lowE ham (hb ▸ (R.tab f l e).1)) hc
end
/-- a block: what stands fast -/
structure Blk (G : Gd) (q : Sta) (env : Env) : Prop where
  kind : env.scope.kind = .function
  globals : env.globals = mainGlobals
  builtins : env.builtins = builtinsNs
  sc : ∀ x k, nameKind q.sc x = some k → ∃ k', env.kindOf x = some k' ∧ kindFits k k'
  lam : ∀ l, G.T.lam q.fn = some l → env.code = .ref l.1 ∧ env.qual ++ "<lambda>" = l.2.2.1
noncomputable def NsRel (ρ : List Addr) (S : MS) (q : Sta) (m : Str → Option Value) : Prop := ∀ x v, S.loc x = some v → nameKind q.sc x = some .local → ∃ rv, m x = some rv ∧ VR ρ v rv
theorem NsRel.pre {ρ ρ' : List Addr} {S S' : MS} {q : Sta} {m : Str → Option Value} (p : Pre ρ ρ') (hm : NsRel ρ S q m) (e : S'.loc = S.loc) : NsRel ρ' S' q m := fun x v h1 h2 => (by obtain ⟨rv, e1, e2⟩ := hm x v (e ▸ h1) h2; exact ⟨rv, e1, e2.pre p⟩)
/-- the store and the model's heap, in a block -/
structure Rel (G : Gd) (ρ : List Addr) (S : MS) (q : Sta) (env : Env) (h : Heap) : Prop where
  T : RelT G ρ S.objs h
  b : Blk G q env
  o : Out G ρ env.locals
  ns : ∃ m, h.Ns env.locals m ∧ NsRel ρ S q m
  cel : ∀ x (i : Nat), S.cel x = some i → ∃ c, env.cells.lookup x = some c ∧ ρ[i]? = some c
/-- what a run keeps -/
structure Ext (G : Gd) (ρ ρ' : List Addr) (L : Addr) (s s' : Shared) : Prop where
  pre : Pre ρ ρ'
  fresh : ∀ a ∈ ρ', a ∈ ρ ∨ s.heap.get? a = none
  kp : ∀ a o, s.heap.get? a = some o → a ∉ ρ → a ≠ L → a ∉ G.Ex → s'.heap.get? a = some o
  alive : ∀ a o, s.heap.get? a = some o → ∃ o', s'.heap.get? a = some o'
  bare : AllBare s.gens → AllBare s'.gens
  drawn : s'.drawn = s.drawn
  os : s'.os = s.os
section
variable {G : Gd} {ρ ρ' ρ₁ ρ₂ ρ₃ : List Addr} {S : MS} {q : Sta} {env : Env} {h h' : Heap} {Lo C I : Addr} {s s' s₁ s₂ s₃ : Shared} {t : Nat}
theorem Ext.refl (hk : Stays s.heap s'.heap) (hg : s'.gens = s.gens) (hd : s'.drawn = s.drawn) (ho : s'.os = s.os) : Ext G ρ ρ Lo s s' :=
  ⟨.refl, fun _ h => .inl h, fun a o e _ _ _ => hk a o e, fun a o e => ⟨o, hk a o e⟩, fun h => hg ▸ h, hd, ho⟩
theorem Ext.grow (k : Stays s.heap h') : Ext G ρ ρ Lo s { s with heap := h', toks := t } := Ext.refl k rfl rfl rfl
theorem Ext.toks : Ext G ρ ρ Lo s { s with toks := t } := Ext.grow fun _ _ e => e
theorem Ext.id : Ext G ρ ρ Lo s s := Ext.refl (fun _ _ e => e) rfl rfl rfl
theorem Ext.gone (X : Ext G ρ ρ' Lo s s') {a : Addr} (e : s'.heap.get? a = none) : s.heap.get? a = none := by
  cases hq : s.heap.get? a with
  | none => rfl
  | some o => exact (by obtain ⟨o', e'⟩ := X.alive a o hq; exact (ne_of_get e' e rfl).elim)
/-- a run within a block of its own, seen from without -/
theorem Ext.inner (X : Ext G ρ ρ₁ Lo s s₁) (Y : Ext G ρ₁ ρ₂ C s₁ s₂) (hC : C = Lo ∨ s.heap.get? C = none) : Ext G ρ ρ₂ Lo s s₂ where
  pre := X.pre.trans Y.pre
  fresh := fun a ha => (Y.fresh a ha).elim (X.fresh a) fun h => .inr (X.gone h)
  kp := fun a o e h1 h2 h3 => Y.kp a o (X.kp a o e h1 h2 h3) (fun hm => (X.fresh a hm).elim h1 fun h => ne_of_get e h rfl) (fun hc => hC.elim (fun hC => h2 (hc.trans hC)) fun hC => ne_of_get (hc ▸ e) hC rfl) h3
  alive := fun a o e => (by obtain ⟨o', e'⟩ := X.alive a o e; exact Y.alive a o' e')
  bare := fun h => Y.bare (X.bare h)
  drawn := Y.drawn.trans X.drawn
  os := Y.os.trans X.os
theorem Ext.trans (x : Ext G ρ₁ ρ₂ Lo s₁ s₂) (y : Ext G ρ₂ ρ₃ Lo s₂ s₃) : Ext G ρ₁ ρ₃ Lo s₁ s₃ := x.inner y (.inl rfl)
theorem Ext.vr (x : Ext G ρ ρ' Lo s s') {v : MV} {r : Value} (h : VR ρ v r) : VR ρ' v r := h.pre x.pre
theorem Ext.vrs (x : Ext G ρ ρ' Lo s s') {v : List MV} {r : List Value} (h : VRs ρ v r) : VRs ρ' v r := h.pre x.pre
theorem Ext.get (x : Ext G ρ ρ' Lo s s') {i : Nat} {a : Addr} (h : ρ[i]? = some a) : ρ'[i]? = some a := x.pre _ _ h
theorem Ext.adopt (X : Ext G ρ ρ₁ Lo s s₁) {D : Addr} (hD : s.heap.get? D = .none) : Ext G ρ (ρ₁ ++ [D]) Lo s s₁ :=
  ⟨X.pre.trans .app, fun a ha => (List.mem_append.mp ha).elim (X.fresh a) fun h => .inr (List.mem_singleton.mp h ▸ hD), X.kp, X.alive, X.bare, X.drawn, X.os⟩
theorem Ext.but {a : Addr} (ha : a ∈ ρ ∨ a = Lo) (k : StaysBut a s.heap h') (hl : ∃ o, h'.get? a = some o) : Ext G ρ ρ Lo s { s with heap := h', toks := t } :=
  ⟨.refl, fun a h => .inl h, fun b o e h1 h2 _ => k b o (fun hb => by subst hb; exact ha.elim h1 h2) e, fun b o e => by
    by_cases hb : b = a
    · exact hb ▸ hl
    · exact ⟨o, k b o hb e⟩, fun h => h, rfl, rfl⟩
theorem Ext.offStep (X : Ext G ρ ρ' Lo s s₁) (hI : s.heap.get? I = .none) {t : Nat} (k : StaysBut I s₁.heap h') : Ext G ρ ρ' Lo s { s₁ with heap := h', toks := t } where
  pre := X.pre
  fresh := X.fresh
  kp := fun a o e h1 h2 h3 => k a o (ne_of_get e hI) (X.kp a o e h1 h2 h3)
  alive := fun a o e => (by obtain ⟨o', e'⟩ := X.alive a o e; exact ⟨o', k a o' (ne_of_get e hI) e'⟩)
  bare := X.bare
  drawn := X.drawn
  os := X.os
theorem Rel.L (R : Rel G ρ S q env h) : G.h₀.get? env.locals = .none ∧ env.locals ∉ ρ ∧ env.locals ∉ G.Ex := ⟨R.o.h, R.o.r, R.o.e⟩
theorem Rel.keep (R : Rel G ρ S q env h) : Stays G.h₀ h := R.T.keep
theorem Rel.len (R : Rel G ρ S q env h) : ρ.length = S.objs.length := R.T.len
theorem Rel.kind (R : Rel G ρ S q env h) : env.scope.kind = .function := R.b.kind
theorem Rel.at (R : Rel G ρ S q env h) {i : Nat} {a : Addr} {o : MO} (e : S.objs[i]? = some o) (ha : ρ[i]? = some a) : OR G ρ h a o := by
  obtain ⟨b, e1, e2⟩ := R.T.obj i o e
  rw [ha] at e1; cases e1; exact e2
theorem Rel.Llt (R : Rel G ρ S q env h) : ∃ ob, h.get? env.locals = some ob := (by obtain ⟨_, ⟨o, _, _, e, _⟩, _⟩ := R.ns; exact ⟨o, e⟩)
/-- grown by a rule that speaks of the frame by its names alone -/
theorem Rel.led (R : Rel G ρ S q env h) {m : Str → Option Value} (hm : NsRel ρ S q m) (hn' : h'.Ns env.locals m) (k : ∀ b o, Kept G ρ b → h.get? b = some o → h'.get? b = some o) (hc : Codes h h') : Rel G ρ S q env h' :=
  ⟨R.T.mv k hc, R.b, R.o, ⟨m, hn', hm⟩, R.cel⟩
theorem Rel.keepsN (R : Rel G ρ S q env h) {m : Str → Option Value} (hn : h.Ns env.locals m) (hm : NsRel ρ S q m) (hn' : h'.Ns env.locals m) (k : StaysBut env.locals h h') : Rel G ρ S q env h' :=
  R.led hm hn' (fun b o x => k b o (R.o.ne x)) (Ns.codes hn k)
/-- the heap has grown by what nobody names -/
theorem Rel.keeps (R : Rel G ρ S q env h) (k : Stays h h') : Rel G ρ S q env h' :=
  let ⟨_, e, r⟩ := R.ns
  R.led r (e.keeps k) (fun b o _ => k b o) (Stays.codes k)
theorem Rel.adopt (R : Rel G ρ S q env h) {a : Addr} {o : MO} (O : Out G ρ a) (hl : a ≠ env.locals) (ho : OR G (ρ ++ [a]) h a o) : Rel G (ρ ++ [a]) { S with objs := S.objs ++ [o] } q env h where
  T := R.T.adopt O ho
  b := R.b
  o := ⟨fun hm => (List.mem_append.mp hm).elim R.o.r fun hm => hl (List.mem_singleton.mp hm).symm, R.o.h, R.o.e⟩
  ns := (by obtain ⟨m, e, r⟩ := R.ns; exact ⟨m, e, r.pre .app rfl⟩)
  cel := fun x i e => (by obtain ⟨c, e1, e2⟩ := R.cel x i e; exact ⟨c, e1, Pre.app _ _ e2⟩)
theorem Rel.nl (R : Rel G ρ S q env h) {a : Addr} (ha : h.get? a = .none) : a ≠ env.locals := (by obtain ⟨_, e⟩ := R.Llt; exact (ne_of_get e ha).symm)
/-- a new object of the store -/
theorem Rel.new (R : Rel G ρ S q env h) (k : Stays h h') {a : Addr} {o : MO} (ha : h.get? a = .none) (ho : OR G (ρ ++ [a]) h' a o) : Rel G (ρ ++ [a]) { S with objs := S.objs ++ [o] } q env h' :=
  (R.keeps k).adopt (R.T.out ha) (R.nl ha) ho
theorem Rel.newN (R : Rel G ρ S q env h) {m : Str → Option Value} (hn : h.Ns env.locals m) (hm : NsRel ρ S q m) (hn' : h'.Ns env.locals m) (k : StaysBut env.locals h h') {a : Addr} {o : MO} (ha : h.get? a = .none)
    (ho : OR G (ρ ++ [a]) h' a o) : Rel G (ρ ++ [a]) { S with objs := S.objs ++ [o] } q env h' :=
  (R.keepsN hn hm hn' k).adopt (R.T.out ha) (R.nl ha) ho
theorem Rel.set (R : Rel G ρ S q env h) {i : Nat} {a : Addr} {o : MO} (hi : ρ[i]? = some a) (k : StaysBut a h h') (hc : Codes h h') (ho : OR G ρ h' a o) (hr : ∀ vs, S.objs[i]? ≠ some (.ro vs)) : Rel G ρ { S with objs := S.objs.set i o } q env h' where
  T := R.T.set hi k hc ho hr
  b := R.b
  o := R.o
  ns := (by obtain ⟨m, e, r⟩ := R.ns; exact ⟨m, Ns.but k (fun hb => R.o.r (hb ▸ List.mem_of_getElem? hi)) e, r⟩)
  cel := R.cel
/-- a local name is stored -/
theorem Rel.loc (R : Rel G ρ S q env h) {x : Str} {v : MV} {rv : Value} (hsb : Heap.SameBut env.locals h h') {m : Str → Option Value} (e : h.Ns env.locals m) (r : NsRel ρ S q m)
    (hn : h'.Ns env.locals (fun y => if y = x then some rv else m y)) (hv : VR ρ v rv) : Rel G ρ { S with loc := upd S.loc x v } q env h' where
  T := have k : StaysBut env.locals h h' := fun b o hb e => (hsb.2 b hb).trans e; R.T.mv (fun b o x => k b o (R.o.ne x)) (Ns.codes e k)
  b := R.b
  o := R.o
  ns := ⟨_, hn, fun y v' h1 h2 => by
    by_cases hy : y = x
    · exact ⟨rv, if_pos hy, by cases (if_pos hy).symm.trans h1; exact hv⟩
    · exact (by obtain ⟨rv', e1, e2⟩ := r y v' ((if_neg hy).symm.trans h1) h2; exact ⟨rv', (if_neg hy).trans e1, e2⟩)⟩
  cel := R.cel
/-- a thing of the heap that no name of the store tells: an iterator, a list in the making -/
structure Off (G : Gd) (ρ : List Addr) (Lo I : Addr) : Prop extends Out G ρ I where
  l : I ≠ Lo
theorem Rel.offNew (R : Rel G ρ S q env h) {I : Addr} (hI : h.get? I = .none) : Off G ρ env.locals I := ⟨R.T.out hI, R.nl hI⟩
theorem Rel.off (R : Rel G ρ S q env h) (O : Off G ρ env.locals I) (k : StaysBut I h h') (hc : Codes h h') : Rel G ρ S q env h' :=
  let ⟨_, e, r⟩ := R.ns
  R.led r (Ns.but k (Ne.symm O.l) e) (fun b o x => k b o (O.toOut.ne x)) hc
/-- a def's table of codes has grown -/
theorem Rel.tabSet (B : Base G) (R : Rel G ρ S q env h) {f : Addr} {l : Addr × Addr × Str × Pos} (hl : G.T.lam f = some l) (k : StaysBut l.2.1 h h') (hc : Codes h h') (ht : TabOK G h' l) : Rel G ρ S q env h' :=
  have hx := (R.T.tab f l hl).1
  { T := { len := R.T.len, nd := R.T.nd, low := R.T.low, keep := fun b o e => k _ _ (ne_of_get e (B.ex _ hx)) (R.T.keep b o e)
           obj := fun i o e => (by obtain ⟨a, e1, e2⟩ := R.T.obj i o e; exact ⟨a, e1, e2.mv .refl (fun o => k a o fun hb => R.T.lowE (List.mem_of_getElem? e1) (hb ▸ hx)) hc⟩)
           exl := fun P hP => by
             by_cases hb : P = l.2.1
             · obtain ⟨_, ps, e, _⟩ := ht; exact ⟨_, hb ▸ e⟩
             · obtain ⟨o, e⟩ := R.T.exl P hP; exact ⟨o, k _ _ hb e⟩
           tab := fun f' l' hl' => by
             by_cases hb : l'.2.1 = l.2.1
             · rw [B.lamInj f' f l' l hl' hl hb]; exact ht
             · exact (R.T.tab f' l' hl').mv (fun o => k _ o hb) hc }
    b := R.b
    o := R.o
    ns := (by obtain ⟨m, e, r⟩ := R.ns; exact ⟨m, Ns.but k (fun hb => R.o.e (hb ▸ hx)) e, r⟩)
    cel := R.cel }
theorem Off.ext (O : Off G ρ Lo I) (X : Ext G ρ ρ' Lo s s₁) {o : Obj} (e : s.heap.get? I = some o) : Off G ρ' Lo I ∧ s₁.heap.get? I = some o :=
  ⟨⟨⟨fun hm => (X.fresh _ hm).elim O.r fun h => ne_of_get e h rfl, O.h, O.e⟩, O.l⟩, X.kp _ _ e O.r O.l O.e⟩
/-- the outer block stands again -/
theorem Rel.outer {S₂ : MS} {q₂ : Sta} {env₂ : Env} {h₁ h₂ : Heap} {o : Obj} (R : Rel G ρ S q env h₁) (R₂ : Rel G ρ₂ S₂ q₂ env₂ h₂) (hp : Pre ρ ρ₂) (hL : h₁.get? env.locals = some o) (hL' : h₂.get? env.locals = some o) (hr : env.locals ∉ ρ₂) :
    Rel G ρ₂ { S₂ with loc := S.loc, cel := S.cel } q env h₂ where
  T := R₂.T
  b := R.b
  o := ⟨hr, R.o.h, R.o.e⟩
  ns := by
    obtain ⟨m, ⟨o', es, ep, e, r⟩, z⟩ := R.ns
    rw [hL] at e; cases e
    exact ⟨m, ⟨o, es, ep, hL', r⟩, z.pre hp rfl⟩
  cel := fun x i e => (by obtain ⟨c, e1, e2⟩ := R.cel x i e; exact ⟨c, e1, hp _ _ e2⟩)
end
/-- what the tree must show: it ends, and what it gives is what is told -/
noncomputable abbrev Post (G : Gd) (ρ : List Addr) (S' : MS) (q : Sta) (env : Env) (s : Shared) {α β : Type} (R : List Addr → β → α → Prop) (b : β) (Q : α → Shared → Prop) : Prop :=
  ∀ s' ρ' a, Rel G ρ' S' q env s'.heap → Ext G ρ ρ' env.locals s s' → R ρ' b a → Q a s'
section
variable {G : Gd} {ρ ρ₁ : List Addr} {S S' : MS} {q : Sta} {env : Env} {s s₁ : Shared} {Q : Value → Shared → Prop}
theorem Post.after {α β : Type} {R : List Addr → β → α → Prop} {b : β} {Q : α → Shared → Prop} (X : Ext G ρ ρ₁ env.locals s s₁) (hQ : Post G ρ S' q env s R b Q) : Post G ρ₁ S' q env s₁ R b Q :=
  fun s' ρ' a R' X' h => hQ s' ρ' a R' (X.trans X') h
theorem vr_new {a : Addr} (R : Rel G ρ S q env s.heap) : VR (ρ ++ [a]) (.ref S.objs.length) (.ref a) := .ref (by rw [← R.len, List.getElem?_concat_length])
/-- a made object goes into the store -/
theorem new_done {o : MO} {h' : Heap} {t : Nat} {a : Addr} (R : Rel G ρ S q env s.heap) (k : Stays s.heap h') (ha : s.heap.get? a = none)
    (ho : OR G (ρ ++ [a]) h' a o) (hQ : Post G ρ { S with objs := S.objs ++ [o] } q env s VR (.ref S.objs.length) Q) : Q (.ref a) { s with heap := h', toks := t } :=
  hQ { s with heap := h', toks := t } _ _ (R.new k ha ho) ((Ext.grow k).adopt ha) (vr_new R)
theorem same_done {t : Nat} {b : MV} {r : Value} (R : Rel G ρ S q env s.heap) (hv : VR ρ b r) (hQ : Post G ρ S q env s VR b Q) : Q r { s with toks := t } :=
  hQ { s with toks := t } ρ r R Ext.toks hv
theorem here_done {b : MV} {r : Value} (R : Rel G ρ S q env s.heap) (hv : VR ρ b r) (hQ : Post G ρ S q env s VR b Q) : Q r s := hQ s ρ r R Ext.id hv
end
end Mine
end
section
open PySem PySem.W PyProof.Rows PySem.Calls
namespace Mine
/-- what the law's texts leave of the stack -/
structure AOk (n : Nat) (A : Around) : Prop where
  handled : A.handled = none
  depth : A.depth + n + 10 < recursionLimit
  units : A.units + 8 * n + 40 < cLine
theorem AOk.le {n m : Nat} {A : Around} (h : AOk n A) (hm : m ≤ n) : AOk m A :=
  ⟨h.handled, Nat.lt_of_le_of_lt (Nat.add_le_add_right (Nat.add_le_add_left hm _) _) h.depth, Nat.lt_of_le_of_lt (Nat.add_le_add_right (Nat.add_le_add_left (Nat.mul_le_mul_left 8 hm) _) _) h.units⟩
theorem AOk.down {n : Nat} {A : Around} (h : AOk (n + 1) A) : AOk n A := h.le (Nat.le_succ n)
theorem AOk.low {n : Nat} {A : Around} (h : AOk n A) : AOk 0 A := h.le (Nat.zero_le n)
theorem AOk.u {n k : Nat} {A : Around} (h : AOk n A) (hk : k ≤ 40) : A.units + k < cLine :=
  Nat.lt_of_le_of_lt (Nat.add_le_add (Nat.le_add_right _ _) hk) h.units
theorem vr_str {ρ : List Addr} {x : List Nat} {r : Value} (h : VR ρ (.str x) r) : ∃ s t, r = .str s t ∧ s.cps.toList = x := by cases h; exact ⟨_, _, rfl, rfl⟩
theorem vr_int {ρ : List Addr} {x : Int} {r : Value} (h : VR ρ (.int x) r) : ∃ t, r = .int x t := by cases h; exact ⟨_, rfl⟩
theorem vr_ref {ρ : List Addr} {i : Nat} {r : Value} (h : VR ρ (.ref i) r) : ∃ a, r = .ref a ∧ ρ[i]? = some a := by cases h; exact ⟨_, rfl, by assumption⟩
theorem vr_none {ρ : List Addr} {r : Value} (h : VR ρ .none r) : r = .none := by cases h; rfl
theorem vr_bool {ρ : List Addr} {b : Bool} {r : Value} (h : VR ρ (.bool b) r) : r = .bool b := by cases h; rfl
theorem vr_glob {ρ : List Addr} {v r : Value} (h : VR ρ (.glob v) r) : r = v := by cases h; rfl
/-- the same, for any claim of the value -/
theorem vr_strE {ρ : List Addr} {x : List Nat} {r : Value} {C : List Nat → Value → Prop} (h : VR ρ (.str x) r) (k : ∀ s t, C s.cps.toList (.str s t)) : C x r := by cases h; exact k _ _
@[elab_as_elim] theorem vr_intE {ρ : List Addr} {x : Int} {r : Value} {C : Value → Prop} (h : VR ρ (.int x) r) (k : ∀ t, C (.int x t)) : C r := by cases h; exact k _
@[elab_as_elim] theorem vr_refE {ρ : List Addr} {i : Nat} {r : Value} {C : Value → Prop} (h : VR ρ (.ref i) r) (k : ∀ a, ρ[i]? = some a → C (.ref a)) : C r := by cases h; exact k _ (by assumption)
theorem vr_mk {ρ : List Addr} {x : List Nat} {s : Str} {t : Tok} (h : s.cps.toList = x) : VR ρ (.str x) (.str s t) := h ▸ .str s t
@[elab_as_elim] theorem pd_nil {α β : Type} {F : α → β → Prop} {C : List β → Prop} {r : List β} (h : Paired F [] r) (k : C []) : C r := by cases h; exact k
@[elab_as_elim] theorem pd_cons {α β : Type} {F : α → β → Prop} {C : List β → Prop} {a : α} {l : List α} {r : List β} (h : Paired F (a :: l) r) (k : ∀ b t, F a b → Paired F l t → C (b :: t)) : C r := by cases h; exact k _ _ (by assumption) (by assumption)
@[elab_as_elim] theorem pd_one {α β : Type} {F : α → β → Prop} {C : List β → Prop} {a : α} {r : List β} (h : Paired F [a] r) (k : ∀ b, F a b → C [b]) : C r := pd_cons h fun b _ hb ht => pd_nil (C := fun t => C (b :: t)) ht (k b hb)
theorem len_cps (s : Str) : s.length = s.cps.toList.length := rfl
theorem isTuple_of {h : Heap} {a : Addr} {items : Array Value} {n : Nat} (e : h.get? a = some { cls := .type "tuple", data := .seq items n }) : h.IsTuple a items := ⟨_, e, rfl, _, rfl⟩
theorem pd_size {ρ : List Addr} {vs : List MV} {items : Array Value} (p : VRs ρ vs items.toList) : vs.length = items.size := pd_len p
/-- all that lies in a heap but the frame -/
noncomputable def full (h : Heap) (L : Addr) : List (Addr × Obj) := (List.range h.objs.size).filterMap fun a => if a = L then none else (h.get? a).map fun o => (a, o)
theorem mem_full {h : Heap} {L a : Addr} {o : Obj} : (a, o) ∈ full h L ↔ h.get? a = some o ∧ a ≠ L := by
  unfold full
  rw [List.mem_filterMap]
  constructor
  · rintro ⟨b, _, e⟩
    split at e
    · cases e
    · rename_i hb
      cases hq : h.get? b with
      | none => rw [hq] at e; cases e
      | some o' => rw [hq] at e; cases e; exact ⟨hq, hb⟩
  · rintro ⟨e, hb⟩
    exact ⟨a, List.mem_range.mpr (Heap.lt_size e), by rw [if_neg hb, e]; rfl⟩
noncomputable abbrev nullH : Heap := {}
theorem nullH_get (a : Addr) : nullH.get? a = none := by
  cases hq : nullH.get? a with
  | none => rfl
  | some o => exact absurd (Heap.lt_size hq) (Nat.not_lt_zero _)
theorem fr_full {h : Heap} {L : Addr} {m : Str → Option Value} (hn : h.Ns L m) : Fr nullH L h m := ⟨hn, fun b _ e => (ne_of_get e (nullH_get b) rfl).elim, Nat.zero_le _⟩
theorem news_full {h : Heap} {L : Addr} : News nullH L h (full h L) := fun _ hp => ⟨(mem_full.mp hp).1, (mem_full.mp hp).2, nullH_get _⟩
theorem back_full {h h' : Heap} {L : Addr} {news : List (Addr × Obj)} (N : News nullH L h' news) (hs : ∀ p ∈ full h L, p ∈ news) : StaysBut L h h' := fun _ _ hb e => (N _ (hs _ (mem_full.mpr ⟨e, hb⟩))).1
section
variable {G : Gd} {ρ : List Addr} {S S' : MS} {q : Sta} {env : Env} {h h' : Heap} {A : Around} {E : Value → Shared → Prop} {s : Shared} {Q : Value → Shared → Prop}
theorem Ext.allocN {Lo : Addr} {m : Str → Option Value} {t : Nat} {a : Addr} (hn' : h'.Ns Lo m) (k : StaysBut Lo s.heap h') (ha : s.heap.get? a = none) : Ext G ρ (ρ ++ [a]) Lo s { s with heap := h', toks := t } :=
  (Ext.but (.inr rfl) k (hn'.elim fun o x => x.elim fun _ x => x.elim fun _ x => ⟨o, x.1⟩)).adopt ha
/-- a list made by a rule of the library's ledger -/
theorem made_done {o : MO} {t : Nat} {m : Str → Option Value} {ob : Obj} (R : Rel G ρ S q env s.heap) (hns : s.heap.Ns env.locals m) (hm : NsRel ρ S q m)
    (F : Fr nullH env.locals h' m) (N : News nullH env.locals h' ((s.heap.objs.size, ob) :: full s.heap env.locals)) (ho : OR G (ρ ++ [s.heap.objs.size]) h' s.heap.objs.size o)
    (hQ : Post G ρ { S with objs := S.objs ++ [o] } q env s VR (.ref S.objs.length) Q) : Q (.ref s.heap.objs.size) { s with heap := h', toks := t } :=
  have k := back_full N (fun p hp => .tail _ hp)
  hQ { s with heap := h', toks := t } _ _ (R.newN hns hm F.ns k (size_none _) ho) (Ext.allocN F.ns k (size_none _)) (vr_new R)
end
/-- the reading of an item goes by no function of the text -/
noncomputable abbrev Gip (G : Gd) (s : Shared) (o : Value) : Prop := ∀ (A : Around) (E : Value → Shared → Prop) (Q : Bool → Shared → Prop), Q false s → wpAny (model G.prog G.w) A (getitemInPython o) Q E s
/-- one of the row's class in the heap -/
noncomputable abbrev accAt (G : Gd) (h : Heap) (a ad : Addr) (items : Array Value) (n : Nat) : Prop := h.get? a = some { cls := .ref G.T.cls, dict := some ad, data := .seq items n }
/-- the own list class of the law: what its reading does -/
structure AccOK (G : Gd) : Prop where
  noPy : ∀ {s : Shared} {a ad : Addr} {items : Array Value} {n : Nat}, Stays G.h₀ s.heap → accAt G s.heap a ad items n → Gip G s (.ref a)
  getItem : ∀ {A : Around} {E : Value → Shared → Prop} {s : Shared} {Q : Value → Shared → Prop} {a ad : Addr} {items : Array Value} {n : Nat} {k : Int} {t : Tok} {x : Value}, Stays G.h₀ s.heap →
    accAt G s.heap a ad items n → 0 ≤ k → k ≤ 4096 → items[k.toNat]? = some x → Q x s → wpAny (model G.prog G.w) A (PySem.getItem (.ref a) (.int k t)) Q E s
/-- a run of its items -/
noncomputable def AccSlice (G : Gd) : Prop := ∀ {A : Around} {E : Value → Shared → Prop} {s : Shared} {Q : Value → Shared → Prop} {a ad sl : Addr} {items : Array Value} {n : Nat} {x y : Int} {t u : Tok}, Stays G.h₀ s.heap →
    accAt G s.heap a ad items n → s.heap.IsSliceOf sl (.int x t) (.int y u) .none → items.size ≤ sizeLine →
    Q (.ref s.heap.objs.size) { s with heap := s.heap.push { cls := .type "list", data := .seq (slicePick items (some x) (some y) none) } } → wpAny (model G.prog G.w) A (PySem.getItem (.ref a) (.ref sl)) Q E s
/-- its length -/
noncomputable def AccLen (G : Gd) : Prop := ∀ {ρ : List Addr} {S : MS} {q : Sta} {env : Env} {n : Nat} {A : Around} {E : Value → Shared → Prop} {s : Shared} {Q : Value → Shared → Prop} {a : Addr} {i d : Nat} {vs : List MV} {n0 : Int} {l : List Pc}, AOk n A →
  S.objs[i]? = some (.acc d vs) → S.objs[d]? = some (.dict [(sizeKey, .int n0)]) → Pieces S.objs vs l → 0 ≤ n0 ∧ n0 + (catL l).length ≤ 1000000 → Rel G ρ S q env s.heap → ρ[i]? = some a → Post G ρ S q env s VR (.int (n0 + (catL l).length)) Q →
  wpAny (model G.prog G.w) A (call (.builtin "len") [.ref a]) Q E s
/-- the function that a method's name stands for -/
noncomputable def methFn (G : Gd) : MN → Option Value
  | .append => some (.builtin "list.append")
  | .insert => some (.builtin "list.insert")
  | .ainsert => some (.builtin "list.insert")
  | .find => some (.builtin "str.find")
  | .startswith => some (.builtin "str.startswith")
  | .endswith => some (.builtin "str.endswith")
  | .lower => some (.builtin "str.lower")
  | .upper => some (.builtin "str.upper")
  | .join => some (.builtin "str.join")
  | .partCount => G.am "part_count"
  | .popFrom => G.am "pop_from"
noncomputable abbrev KeepOk (G : Gd) (h : Heap) (f : Value) : Prop := ∃ k, (k = Keeper.frame ∨ k = Keeper.machine ∨ k = Keeper.boundFrame) ∧ Looks (model G.prog G.w) h (keeperOf f) k
theorem keep_builtin {G : Gd} {h : Heap} {id : String} : KeepOk G h (.builtin id) := ⟨.machine, .inr (.inl rfl), Looks.of_pure rfl⟩
theorem keep_type {G : Gd} {h : Heap} {id : String} : KeepOk G h (.type id) := ⟨.machine, .inr (.inl rfl), Looks.of_pure rfl⟩
/-- its methods -/
structure AccMeth (G : Gd) : Prop where
  callee : ∀ {name : Str} {m : MN}, methName .acc name = some m → ∃ f, methFn G m = some f ∧ (∀ {ρ : List Addr} {S : MS} {q : Sta} {env : Env} {s : Shared} {i d : Nat} {a : Addr} {vs : List MV}, Rel G ρ S q env s.heap → S.objs[i]? = some (.acc d vs) → (∃ k : Int, S.objs[d]? = some (.dict [(sizeKey, .int k)])) → ρ[i]? = some a →
    ∀ (pl : Sem Bool) (A : Around) (E : Value → Shared → Prop) (Q : Value × List Value → Shared → Prop), Q (f, [.ref a]) s → wpAny (model G.prog G.w) A (getMethod (.ref a) name pl) Q E s) ∧
    ∀ h : Heap, Stays G.h₀ h → KeepOk G h f
  insert : ∀ {ρ : List Addr} {S : MS} {q : Sta} {env : Env} {A : Around} {E : Value → Shared → Prop} {s : Shared} {Q : Value → Shared → Prop} {i d : Nat} {a : Addr} {vs : List MV} {v : MV} {rv : Value} {k : Int} {t : Tok}, A.units + 8 < cLine →
    Rel G ρ S q env s.heap → S.objs[i]? = some (.acc d vs) → ρ[i]? = some a → 0 ≤ k ∧ k.toNat ≤ vs.length ∧ vs.length < 4096 → VR ρ v rv →
    Post G ρ { S with objs := S.objs.set i (.acc d (insertAt k.toNat v vs)) } q env s VR .none Q → wpAny (model G.prog G.w) A (call (.builtin "list.insert") [.ref a, .int k t, rv]) Q E s
  count : ∀ {n : Nat} {ρ : List Addr} {S : MS} {q : Sta} {env : Env} {A : Around} {E : Value → Shared → Prop} {s : Shared} {Q : Value → Shared → Prop} {i d : Nat} {a : Addr} {vs : List MV}, AOk n A →
    Rel G ρ S q env s.heap → S.objs[i]? = some (.acc d vs) → ρ[i]? = some a → vs.length ≤ stopLen → Post G ρ S q env s VR (.int vs.length) Q →
    ∀ f, G.am "part_count" = some f → wpAny (model G.prog G.w) A (call f [.ref a]) Q E s
  pop : ∀ {n : Nat} {ρ : List Addr} {S : MS} {q : Sta} {env : Env} {A : Around} {E : Value → Shared → Prop} {s : Shared} {Q : Value → Shared → Prop} {i d : Nat} {a : Addr} {vs : List MV}, AOk n A →
    Rel G ρ S q env s.heap → S.objs[i]? = some (.acc d vs) → ρ[i]? = some a → vs.length ≤ stopLen → Post G ρ { S with objs := (S.objs ++ [MO.list vs]).set i (.acc d []) } q env s VR (.ref S.objs.length) Q →
    ∀ f, G.am "pop_from" = some f → wpAny (model G.prog G.w) A (call f [.ref a]) Q E s
/-- one is made; one is told as a text -/
structure AccNew (G : Gd) : Prop where
  keep : ∀ h : Heap, Stays G.h₀ h → KeepOk G h (.ref G.T.cls)
  make : ∀ {n : Nat} {ρ : List Addr} {S : MS} {q : Sta} {env : Env} {A : Around} {E : Value → Shared → Prop} {s : Shared} {Q : Value → Shared → Prop} {k : Int} {t : Tok}, AOk n A → Rel G ρ S q env s.heap →
    Post G ρ { S with objs := S.objs ++ [.dict [(sizeKey, .int k)]] ++ [.acc S.objs.length []] } q env s VR (.ref (S.objs.length + 1)) Q → wpAny (model G.prog G.w) A (call (.ref G.T.cls) [.int k t] []) Q E s
  str : ∀ {n : Nat} {ρ : List Addr} {S : MS} {q : Sta} {env : Env} {A : Around} {E : Value → Shared → Prop} {s : Shared} {Q : Value → Shared → Prop} {i d : Nat} {a : Addr} {vs : List MV} {l : List Pc}, AOk n A → Rel G ρ S q env s.heap →
    S.objs[i]? = some (.acc d vs) → ρ[i]? = some a → Pieces S.objs vs l → (catL l).length ≤ stopLen → vs.length ≤ stopLen → Post G ρ S q env s VR (.str (catL l)) Q → wpAny (model G.prog G.w) A (call (.type "str") [.ref a] []) Q E s
noncomputable abbrev KW (ρ : List Addr) (kw : List (Str × MV)) (rk : List (Str × Value)) : Prop := Paired (fun x y => x.1 = y.1 ∧ VR ρ x.2 y.2) kw rk
section
variable {env : Env} {A : Around} {E : Value → Shared → Prop} {s : Shared}
theorem attributeBase_not {o : Expr} {name : Str} {whole : Sem Value} (h : notCall o = true) : attributeBase o name env whole = whole := by
  unfold attributeBase
  cases o <;> first | rfl | exact (nomatch h)
theorem wpAny_subscripted {M : Model} {slice : Expr} {o i : Value} {Q : Value → Shared → Prop} (h : wpAny M A (getItem o i) Q E s) : wpAny M A (subscripted slice false o i) Q E s := by
  cases slice with
  | Slice _ _ c => cases c <;> exact wpAny_operating h
  | _ => exact wpAny_operating h
theorem insert_list {ρ : List Addr} {vs : List MV} {items : Array Value} {v : MV} {rv : Value} {k : Nat} (p : VRs ρ vs items.toList) (hv : VR ρ v rv) :
    VRs ρ (insertAt k v vs) ((items.extract 0 k).push rv ++ items.extract k).toList := by
  have e : ((items.extract 0 k).push rv ++ items.extract k).toList = items.toList.take k ++ rv :: items.toList.drop k := by
    simp [List.take_of_length_le]
  rw [e]
  exact pd_app (pd_take k p) (.cons hv (pd_drop k p))
theorem glued_joinL (sep : List Nat) (sp : Array Nat) (hs : sp.toList = sep) : ∀ (rest : List Str) (x : Array Nat),
    (rest.foldl (fun acc p => acc ++ sp ++ p.cps) x).toList = joinL sep (x.toList :: rest.map fun p => p.cps.toList)
  | [], x => rfl
  | y :: r, x => by
    have key : ∀ (a b : List Nat) (l : List (List Nat)), joinL sep ((a ++ sep ++ b) :: l) = a ++ sep ++ joinL sep (b :: l) := by
      intro a b l
      cases l with
      | nil => rfl
      | cons c l => simp only [joinL, List.append_assoc]
    rw [List.foldl_cons, glued_joinL sep sp hs r, Array.toList_append, Array.toList_append, hs, key]
    rfl
theorem glued_list (sep : Str) : ∀ l : List Str, (Builtin.Str.glued sep l).cps.toList = joinL sep.cps.toList (l.map fun p => p.cps.toList)
  | [] => rfl
  | x :: r => glued_joinL _ _ rfl r x.cps
end
end Mine
end
section
open PySem PySem.W PyProof.Rows
namespace Mine
noncomputable def nameAtO (x : Str) : Option Obj → Option Value
  | some ⟨_, _, .dict es _, _⟩ => (es.toList.find? fun e => Value.isStrOf x e.key).map (·.val)
  | _ => none
noncomputable def builtName (x : Str) : Option Value :=
  if x = "len" then some (.builtin "len") else if x = "sorted" then some (.builtin "sorted") else if x = "range" then some (.type "range")
  else if x = "list" then some (.type "list") else if x = "str" then some (.type "str") else none
/-- what the law's ground tells the small interpreter -/
noncomputable def topsK (K : Frag) : Tops where
  name := fun x => match nameAtO x (K.lookup mainGlobals) with
    | some v => some v
    | none => builtName x
  cls := 153
  pat := 162
  lam := fun a => if a = 230 then some (229, 225, "_law_lacking.<locals>.<lambda>", ⟨175, 55, 175, 76⟩) else if a = 249 then some (248, 246, "law.<locals>.<lambda>", ⟨227, 70, 227, 92⟩)
    else if a = 120 then some (119, 115, "_Accumulator.__len__.<locals>.<genexpr>", ⟨78, 19, 78, 63⟩) else if a = 127 then some (126, 122, "_Accumulator.__str__.<locals>.<genexpr>", ⟨81, 32, 81, 85⟩) else none
end Mine
end
section
open PySem PySem.W PyProof.Rows PySem.Calls
namespace Mine
noncomputable abbrev lawP : Program := PySem.Challenge.rw_xr0015_01.prog
/-- the functions behind the own class's methods -/
noncomputable def amK (x : Str) : Option Value := if x = "part_count" then some (.ref 150) else if x = "pop_from" then some (.ref 106) else none
noncomputable def GK (w : World) (h₀ : Heap) (mg mb : Str → Option Value) : Gd := { prog := lawP, w := w, T := topsK (hd.heap_1 w.params), K := hd.heap_1 w.params, mg := mg, mb := mb, h₀ := h₀, Ex := [115, 122, 225, 246], am := amK }
/-- what holds of the ground, taken from the head -/
structure GrK (w : World) (h₀ : Heap) (mg mb : Str → Option Value) : Prop where
  X : (hd.heap_1 w.params).In h₀
  g : h₀.Ns mainGlobals mg
  b : h₀.Ns builtinsNs mb
  nl : h₀.NoLimit
  bm : ∃ bm ob, mg "__builtins__" = some (.ref bm) ∧ bm ≠ builtinsNs ∧ bm ≠ mainGlobals ∧ h₀.get? bm = some ob ∧ ob.cls = .type "module" ∧ ob.dict = some builtinsNs ∧ ob.data = .plain
  bs : ∀ x : Str, x ≠ "__name__" → mb x = bootBuiltins x
  ex : ∀ P ∈ ([115, 122, 225, 246] : List Addr), h₀.get? P = none
  code : CodeHd h₀ 229 225 ∧ CodeHd h₀ 248 246 ∧ CodeHd h₀ 119 115 ∧ CodeHd h₀ 126 122
theorem find_strOf {es : Array DictEntry} {x : Str} {v : Value} (h : (es.toList.find? fun e => Value.isStrOf x e.key).map (·.val) = some v) : nsFind es x = some v := by
  unfold nsFind findBy
  rw [← Array.find?_toList]
  rw [show (fun e : DictEntry => e.key.isStr x) = fun e => Value.isStrOf x e.key from ?_]
  · exact h
  · funext e
    cases e.key <;> rfl
theorem names_ok {w : World} {h₀ : Heap} {mg mb : Str → Option Value} (R : GrK w h₀ mg mb) (x : Str) (v : Value) (h : (topsK (hd.heap_1 w.params)).name x = some v) : mg x = some v ∨ (mg x = none ∧ mb x = some v) := by
  have h : (match nameAtO x ((hd.heap_1 w.params).lookup mainGlobals) with | some v => some v | none => builtName x) = some v := h
  have key : ∀ (n : Str) (r : Value), nsIn (hd.heap_1 w.params) mainGlobals n = some none → bootBuiltins n = some r → n ≠ "__name__" → mg n = none ∧ mb n = some r := fun n r h1 h2 h3 =>
    ⟨mg_none_of R.X R.g h1, by rw [R.bs n h3]; exact h2⟩
  split at h
  · rename_i v' hv
    cases h
    left
    obtain ⟨o, es, ep, ho, hd', _, hf⟩ := R.g
    cases hl : (hd.heap_1 w.params).lookup mainGlobals with
    | none => rw [hl] at hv; cases hv
    | some ob =>
      rw [hl] at hv
      have := R.X _ _ hl
      rw [ho] at this
      cases this
      obtain ⟨c, d, da, sl⟩ := o
      have hd' : da = .dict es ep := hd'
      subst hd'
      rw [← hf]
      exact find_strOf hv
  · right
    unfold builtName at h
    split at h
    · rename_i hx; subst hx; cases h
      exact key "len" _ rfl rfl (by decide)
    · split at h
      · rename_i hx; subst hx; cases h
        exact key "sorted" _ rfl rfl (by decide)
      · split at h
        · rename_i hx; subst hx; cases h
          exact key "range" _ rfl rfl (by decide)
        · split at h
          · rename_i hx; subst hx; cases h
            exact key "list" _ rfl rfl (by decide)
          · split at h
            · rename_i hx; subst hx; cases h
              exact key "str" _ rfl rfl (by decide)
            · cases h
noncomputable abbrev lam120 : Addr × Addr × Str × Pos := (119, 115, Str.ofString "_Accumulator.__len__.<locals>.<genexpr>", Pos.mk 78 19 78 63)
noncomputable abbrev lam127 : Addr × Addr × Str × Pos := (126, 122, Str.ofString "_Accumulator.__str__.<locals>.<genexpr>", Pos.mk 81 32 81 85)
theorem lam_cases4 {P : Params} {f : Addr} {l : Addr × Addr × Str × Pos} (h : (topsK (hd.heap_1 P)).lam f = some l) : ((f = 230 ∧ l = (229, 225, Str.ofString "_law_lacking.<locals>.<lambda>", Pos.mk 175 55 175 76)) ∨ (f = 249 ∧ l = (248, 246, Str.ofString "law.<locals>.<lambda>", Pos.mk 227 70 227 92))) ∨ (f = 120 ∧ l = lam120) ∨ (f = 127 ∧ l = lam127) := by
  have h : (if f = 230 then some (229, 225, Str.ofString "_law_lacking.<locals>.<lambda>", Pos.mk 175 55 175 76) else if f = 249 then some (248, 246, Str.ofString "law.<locals>.<lambda>", Pos.mk 227 70 227 92) else if f = 120 then some lam120 else if f = 127 then some lam127 else none) = some l := h
  split at h
  · rename_i hf; cases h; exact .inl (.inl ⟨hf, rfl⟩)
  · split at h
    · rename_i hf; cases h; exact .inl (.inr ⟨hf, rfl⟩)
    · split at h
      · rename_i hf; cases h; exact .inr (.inl ⟨hf, rfl⟩)
      · split at h
        · rename_i hf; cases h; exact .inr (.inr ⟨hf, rfl⟩)
        · cases h
theorem lam_cases {P : Params} {f : Addr} {l : Addr × Addr × Str × Pos} (h : (topsK (hd.heap_1 P)).lam f = some l) (hn : f ≠ 120 ∧ f ≠ 127 := by decide) : (f = 230 ∧ l = (229, 225, Str.ofString "_law_lacking.<locals>.<lambda>", Pos.mk 175 55 175 76)) ∨ (f = 249 ∧ l = (248, 246, Str.ofString "law.<locals>.<lambda>", Pos.mk 227 70 227 92)) := by
  rcases lam_cases4 h with h | ⟨h, _⟩ | ⟨h, _⟩
  · exact h
  · exact absurd h hn.1
  · exact absurd h hn.2
theorem base_ok {w : World} {h₀ : Heap} {mg mb : Str → Option Value} (R : GrK w h₀ mg mb) : Base (GK w h₀ mg mb) where
  X := R.X
  g := R.g
  b := R.b
  nl := R.nl
  bm := R.bm
  names := names_ok R
  ex := fun P hP => R.ex P hP
  lam := fun f l h => by
    rcases lam_cases4 h with (⟨rfl, rfl⟩ | ⟨rfl, rfl⟩) | ⟨rfl, rfl⟩ | ⟨rfl, rfl⟩
    · exact ⟨R.code.1, by show (225 : Nat) ∈ ([115, 122, 225, 246] : List Nat); decide⟩
    · exact ⟨R.code.2.1, by show (246 : Nat) ∈ ([115, 122, 225, 246] : List Nat); decide⟩
    · exact ⟨R.code.2.2.1, by show (115 : Nat) ∈ ([115, 122, 225, 246] : List Nat); decide⟩
    · exact ⟨R.code.2.2.2, by show (122 : Nat) ∈ ([115, 122, 225, 246] : List Nat); decide⟩
  lam0 := by
    cases h : (GK w h₀ mg mb).T.lam 0 with
    | none => rfl
    | some l => rcases lam_cases4 h with (⟨hf, _⟩ | ⟨hf, _⟩) | ⟨hf, _⟩ | ⟨hf, _⟩ <;> cases hf
  lamInj := fun f f' l l' h h' e => by
    rcases lam_cases4 h with (⟨rfl, rfl⟩ | ⟨rfl, rfl⟩) | ⟨rfl, rfl⟩ | ⟨rfl, rfl⟩ <;> rcases lam_cases4 h' with (⟨rfl, rfl⟩ | ⟨rfl, rfl⟩) | ⟨rfl, rfl⟩ | ⟨rfl, rfl⟩ <;> first | rfl | cases e
end Mine
end
section
open PySem PySem.W PyProof.Rows PySem.Calls
namespace Mine
/-- the ground of the law's run, with what the head gives of it -/
structure PP where
  w : World
  h₀ : Heap
  mg : Str → Option Value
  mb : Str → Option Value
  R0 : GrK w h₀ mg mb
noncomputable def TK (P : PP) : Gd := GK P.w P.h₀ P.mg P.mb
noncomputable def KP (P : PP) : Frag := hd.heap_1 P.w.params
noncomputable def fdOf : Option Obj → FuncData
  | some ⟨_, _, .func fd, _⟩ => fd
  | _ => fnOf "" "" ⟨[], [], none, [], [], none, []⟩ [] ⟨.function, [], false, false, []⟩ .none .none .none .none none .none .none
noncomputable def stmtsOf : FuncBody → List Stmt
  | .stmts b => b
  | _ => []
section
variable (P : PP)
noncomputable def fdK (a : Addr) : FuncData := fdOf ((KP P).lookup a)
noncomputable def psK (a : Addr) : Arguments := (fdK P a).params
noncomputable def scK (a : Addr) : Scope := (fdK P a).scope
noncomputable def bodyK (a : Addr) : List Stmt := stmtsOf (fdK P a).body
/-- a function of the text -/
structure FnK (a : Addr) : Prop where
  get : ∃ o, P.h₀.get? a = some o ∧ o.data = .func (fdK P a)
  body : (fdK P a).body = .stmts (bodyK P a)
  code : P.h₀.CodeRec (fdK P a).code (fdK P a).qualname
  kind : (scK P a).kind = .function ∧ (scK P a).isGenerator = false ∧ (scK P a).isCoroutine = false
  glob : (fdK P a).globals = mainGlobals ∧ (fdK P a).builtins = builtinsNs ∧ (fdK P a).closure = []
  lam : ∀ l, (topsK (KP P)).lam a = some l → (fdK P a).code = .ref l.1 ∧ ((fdK P a).qualname ++ ".<locals>.") ++ "<lambda>" = l.2.2.1
end
section
variable {P : PP} {a : Addr}
theorem lamNo {C : Addr × Addr × Str × Pos → Prop} (e : (topsK (KP P)).lam a = none) : ∀ l, (topsK (KP P)).lam a = some l → C l := fun _ h => nomatch e.symm.trans h
theorem lamYes {C : Addr × Addr × Str × Pos → Prop} {l₀ : Addr × Addr × Str × Pos} (e : (topsK (KP P)).lam a = some l₀) (hc : C l₀) : ∀ l, (topsK (KP P)).lam a = some l → C l := fun l h => by
  cases e.symm.trans h; exact hc
theorem fnK (P : PP) (a : Addr) {o : Obj} (e : (KP P).lookup a = some o) (ed : o.data = .func (fdK P a)) (hb : (fdK P a).body = .stmts (bodyK P a)) (hc : codeIn (KP P) (fdK P a).code (fdK P a).qualname = true)
    (hk : (scK P a).kind = .function ∧ (scK P a).isGenerator = false ∧ (scK P a).isCoroutine = false) (hg : (fdK P a).globals = mainGlobals ∧ (fdK P a).builtins = builtinsNs ∧ (fdK P a).closure = [])
    (hl : ∀ l, (topsK (KP P)).lam a = some l → (fdK P a).code = .ref l.1 ∧ ((fdK P a).qualname ++ ".<locals>.") ++ "<lambda>" = l.2.2.1) : FnK P a :=
  ⟨⟨o, P.R0.X a o e, ed⟩, hb, codeRec_of P.R0.X hc, hk, hg, hl⟩
variable (P : PP)
theorem f_47 : FnK P 47 := fnK P 47 rfl rfl rfl rfl ⟨rfl, rfl, rfl⟩ ⟨rfl, rfl, rfl⟩ (lamNo rfl)
theorem f_56 : FnK P 56 := fnK P 56 rfl rfl rfl rfl ⟨rfl, rfl, rfl⟩ ⟨rfl, rfl, rfl⟩ (lamNo rfl)
theorem f_65 : FnK P 65 := fnK P 65 rfl rfl rfl rfl ⟨rfl, rfl, rfl⟩ ⟨rfl, rfl, rfl⟩ (lamNo rfl)
theorem f_74 : FnK P 74 := fnK P 74 rfl rfl rfl rfl ⟨rfl, rfl, rfl⟩ ⟨rfl, rfl, rfl⟩ (lamNo rfl)
theorem f_169 : FnK P 169 := fnK P 169 rfl rfl rfl rfl ⟨rfl, rfl, rfl⟩ ⟨rfl, rfl, rfl⟩ (lamNo rfl)
theorem f_176 : FnK P 176 := fnK P 176 rfl rfl rfl rfl ⟨rfl, rfl, rfl⟩ ⟨rfl, rfl, rfl⟩ (lamNo rfl)
theorem f_183 : FnK P 183 := fnK P 183 rfl rfl rfl rfl ⟨rfl, rfl, rfl⟩ ⟨rfl, rfl, rfl⟩ (lamNo rfl)
theorem f_190 : FnK P 190 := fnK P 190 rfl rfl rfl rfl ⟨rfl, rfl, rfl⟩ ⟨rfl, rfl, rfl⟩ (lamNo rfl)
theorem f_197 : FnK P 197 := fnK P 197 rfl rfl rfl rfl ⟨rfl, rfl, rfl⟩ ⟨rfl, rfl, rfl⟩ (lamNo rfl)
theorem f_204 : FnK P 204 := fnK P 204 rfl rfl rfl rfl ⟨rfl, rfl, rfl⟩ ⟨rfl, rfl, rfl⟩ (lamNo rfl)
theorem f_209 : FnK P 209 := fnK P 209 rfl rfl rfl rfl ⟨rfl, rfl, rfl⟩ ⟨rfl, rfl, rfl⟩ (lamNo rfl)
theorem f_216 : FnK P 216 := fnK P 216 rfl rfl rfl rfl ⟨rfl, rfl, rfl⟩ ⟨rfl, rfl, rfl⟩ (lamNo rfl)
theorem f_223 : FnK P 223 := fnK P 223 rfl rfl rfl rfl ⟨rfl, rfl, rfl⟩ ⟨rfl, rfl, rfl⟩ (lamNo rfl)
theorem f_237 : FnK P 237 := fnK P 237 rfl rfl rfl rfl ⟨rfl, rfl, rfl⟩ ⟨rfl, rfl, rfl⟩ (lamNo rfl)
theorem f_244 : FnK P 244 := fnK P 244 rfl rfl rfl rfl ⟨rfl, rfl, rfl⟩ ⟨rfl, rfl, rfl⟩ (lamNo rfl)
theorem f_230 : FnK P 230 := fnK P 230 rfl rfl rfl rfl ⟨rfl, rfl, rfl⟩ ⟨rfl, rfl, rfl⟩ (lamYes rfl ⟨by kernel_rfl, by kernel_rfl⟩)
theorem f_249 : FnK P 249 := fnK P 249 rfl rfl rfl rfl ⟨rfl, rfl, rfl⟩ ⟨rfl, rfl, rfl⟩ (lamYes rfl ⟨by kernel_rfl, by kernel_rfl⟩)
end
/-- the arguments are bound so -/
noncomputable def BC (P : PP) (a : Addr) (ρ : List Addr) (bs : List (Str × MV)) (rp : List Value) (rk : List (Str × Value)) : Prop := ∃ binds, KW ρ bs binds ∧ ∀ s : Shared, Stays P.h₀ s.heap → BindsTo s (fdK P a) ⟨rp, rk⟩ binds
noncomputable def Bnd (P : PP) (a : Addr) (pos : List MV) (kw : List (Str × MV)) (bs : List (Str × MV)) : Prop := ∀ {ρ : List Addr} {rp : List Value} {rk : List (Str × Value)}, VRs ρ pos rp → KW ρ kw rk → BC P a ρ bs rp rk
section
variable {P : PP} {a : Addr} {x y z : Str} {u v t : MV} {ρ : List Addr} {bs : List (Str × MV)} {rp : List Value} {rk : List (Str × Value)}
theorem bc0 {l : List Value} (hk : KW ρ [] rk) (k : BC P a ρ bs l []) : BC P a ρ bs l rk := pd_nil hk k
theorem bnd1 (h : ∀ v₀, bindArgs (fdK P a) ⟨[v₀], []⟩ = pure [(x, v₀)]) : Bnd P a [v] [] [(x, v)] := fun {ρ _ _} hp hk =>
  bc0 hk (pd_one (C := fun l => BC P a ρ _ l []) hp fun v₀ h0 => ⟨_, .cons ⟨rfl, h0⟩ .nil, fun _ _ => .of_eq (h v₀)⟩)
theorem bnd2 (h : ∀ v₀ v₁, bindArgs (fdK P a) ⟨[v₀, v₁], []⟩ = pure [(x, v₀), (y, v₁)]) : Bnd P a [u, v] [] [(x, u), (y, v)] := fun {ρ _ _} hp hk =>
  bc0 hk (pd_cons (C := fun l => BC P a ρ _ l []) hp fun v₀ _ h0 hp => pd_one (C := fun l => BC P a ρ _ (v₀ :: l) []) hp fun v₁ h1 => ⟨_, .cons ⟨rfl, h0⟩ (.cons ⟨rfl, h1⟩ .nil), fun _ _ => .of_eq (h v₀ v₁)⟩)
theorem bnd3 (h : ∀ v₀ v₁ v₂, bindArgs (fdK P a) ⟨[v₀, v₁, v₂], []⟩ = pure [(x, v₀), (y, v₁), (z, v₂)]) : Bnd P a [u, v, t] [] [(x, u), (y, v), (z, t)] := fun {ρ _ _} hp hk =>
  bc0 hk (pd_cons (C := fun l => BC P a ρ _ l []) hp fun v₀ _ h0 hp => pd_cons (C := fun l => BC P a ρ _ (v₀ :: l) []) hp fun v₁ _ h1 hp =>
    pd_one (C := fun l => BC P a ρ _ (v₀ :: v₁ :: l) []) hp fun v₂ h2 => ⟨_, .cons ⟨rfl, h0⟩ (.cons ⟨rfl, h1⟩ (.cons ⟨rfl, h2⟩ .nil)), fun _ _ => .of_eq (h v₀ v₁ v₂)⟩)
theorem ns_one {h : Heap} {D : Addr} {o : Obj} {hash : Int} {t : Tok} {v : Value} {ep : Nat} (e : h.get? D = some o) (hd : o.data = .dict #[⟨hash, .str "key" t, v⟩] ep) : h.Ns D (nsFind #[⟨hash, .str "key" t, v⟩]) :=
  ⟨o, #[⟨hash, .str "key" t, v⟩], ep, e, hd, fun en he => by cases List.mem_singleton.mp (Array.mem_def.mp he); exact ⟨_, _, rfl⟩, fun _ => rfl⟩
end
noncomputable abbrev bisA (q1 q2 q3 q4 q5 q6 q7 q8 : Pos) (k6 k7 k8 : Nat) : Arguments := ⟨[], [⟨"a", none, q1⟩, ⟨"x", none, q2⟩, ⟨"lo", none, q3⟩, ⟨"hi", none, q4⟩], none, [⟨"key", none, q5⟩], [some (.Constant .none k6 q6)], none, [.Constant (.int 0) k7 q7, .Constant .none k8 q8]⟩
noncomputable abbrev bisR {α : Type} (a x lo hi key : α) : List (Str × α) := [("a", a), ("x", x), ("lo", lo), ("hi", hi), ("key", key)]
/-- the halving functions: their arguments -/
structure BisK (P : PP) (a : Addr) : Prop where
  b20 : ∀ {u v : MV}, Bnd P a [u, v] [] (bisR u v (.int 0) .none .none)
  b21 : ∀ {u v k : MV}, Bnd P a [u, v] [("key", k)] (bisR u v (.int 0) .none k)
  b40 : ∀ {u v l h : MV}, Bnd P a [u, v, l, h] [] (bisR u v l h .none)
  b41 : ∀ {u v l h k : MV}, Bnd P a [u, v, l, h] [("key", k)] (bisR u v l h k)
theorem kwR {ρ : List Addr} {u v l h k : MV} {u' v' l' h' k' : Value} (x1 : VR ρ u u') (x2 : VR ρ v v') (x3 : VR ρ l l') (x4 : VR ρ h h') (x5 : VR ρ k k') : KW ρ (bisR u v l h k) (bisR u' v' l' h' k') :=
  .cons ⟨rfl, x1⟩ (.cons ⟨rfl, x2⟩ (.cons ⟨rfl, x3⟩ (.cons ⟨rfl, x4⟩ (.cons ⟨rfl, x5⟩ .nil))))
theorem kw_one {ρ : List Addr} {x : Str} {m : MV} {rk : List (Str × Value)} {C : List (Str × Value) → Prop} (h : KW ρ [(x, m)] rk) (k : ∀ v, VR ρ m v → C [(x, v)]) : C rk :=
  pd_one h fun b hb => by
    obtain ⟨y, v⟩ := b
    cases (show x = y from hb.1)
    exact k v hb.2
section
variable {q1 q2 q3 q4 q5 q6 q7 q8 : Pos} {k6 k7 k8 : Nat} {name qual : Str} {body : List Stmt} {sc : Scope} {doc pm cdv ct : Value} {an : Option Addr} {T D : Addr} {o o2 : Obj} {t tk : Tok} {n ep : Nat} {hash : Int}
theorem bisK {P : PP} {a : Addr} (F : fdK P a = fnOf name qual (bisA q1 q2 q3 q4 q5 q6 q7 q8 k6 k7 k8) body sc (.ref T) (.ref D) doc pm an cdv ct) (hT : (KP P).lookup T = some o) (hs : o.data = .seq #[.int 0 t, .none] n)
    (hD : (KP P).lookup D = some o2) (hd : o2.data = .dict #[⟨hash, .str "key" tk, .none⟩] ep) : BisK P a := by
  have rT : ∀ {s : Shared}, Stays P.h₀ s.heap → s.heap.get? T = some o := fun k => k _ _ (P.R0.X _ _ hT)
  have rD : ∀ {s : Shared}, Stays P.h₀ s.heap → s.heap.Ns D (nsFind #[⟨hash, .str "key" tk, .none⟩]) := fun k => ns_one (k _ _ (P.R0.X _ _ hD)) hd
  constructor
  · intro u v ρ rp rk hp hk
    refine bc0 hk (pd_cons (C := fun l => BC P a ρ _ l []) hp fun v₀ _ h0 hp => pd_one (C := fun l => BC P a ρ _ (v₀ :: l) []) hp fun v₁ h1 => ⟨bisR v₀ v₁ (.int 0 t) .none .none, kwR h0 h1 (.int _ _) .none .none, fun s k => ?_⟩)
    rw [F]
    intro M A E Q hq
    change wpAny M A (seqItems? (.ref T) >>= _) Q E s
    refine wpAny_bind (wpAny_seqItems (rT k) hs ?_)
    change wpAny M A (((nsGet D "key" >>= _) >>= _) >>= _) _ E s
    exact wpAny_bind (wpAny_bind (wpAny_bind (wpAny_nsGet (rD k) (wpAny_pure (wpAny_pure (wpAny_pure hq))))))
  · intro u v m ρ rp rk hp hk
    refine kw_one (C := fun rk => BC P a ρ _ rp rk) hk fun vk hv => pd_cons (C := fun l => BC P a ρ _ l [("key", vk)]) hp fun v₀ _ h0 hp => pd_one (C := fun l => BC P a ρ _ (v₀ :: l) [("key", vk)]) hp fun v₁ h1 => ⟨bisR v₀ v₁ (.int 0 t) .none vk, kwR h0 h1 (.int _ _) .none hv, fun s k => ?_⟩
    rw [F]
    exact .of_defaults rfl (rT k) hs rfl rfl
  · intro u v l h ρ rp rk hp hk
    refine bc0 hk (pd_cons (C := fun l => BC P a ρ _ l []) hp fun v₀ _ h0 hp => pd_cons (C := fun l => BC P a ρ _ (v₀ :: l) []) hp fun v₁ _ h1 hp => pd_cons (C := fun l => BC P a ρ _ (v₀ :: v₁ :: l) []) hp fun v₂ _ h2 hp =>
      pd_one (C := fun l => BC P a ρ _ (v₀ :: v₁ :: v₂ :: l) []) hp fun v₃ h3 => ⟨bisR v₀ v₁ v₂ v₃ .none, kwR h0 h1 h2 h3 .none, fun s k => ?_⟩)
    rw [F]
    intro M A E Q hq
    change wpAny M A (seqItems? (.ref T) >>= _) Q E s
    refine wpAny_bind (wpAny_seqItems (rT k) hs ?_)
    change wpAny M A (((nsGet D "key" >>= _) >>= _) >>= _) _ E s
    exact wpAny_bind (wpAny_bind (wpAny_bind (wpAny_nsGet (rD k) (wpAny_pure (wpAny_pure (wpAny_pure hq))))))
  · intro u v l h m ρ rp rk hp hk
    refine kw_one (C := fun rk => BC P a ρ _ rp rk) hk fun vk hv => pd_cons (C := fun l => BC P a ρ _ l [("key", vk)]) hp fun v₀ _ h0 hp => pd_cons (C := fun l => BC P a ρ _ (v₀ :: l) [("key", vk)]) hp fun v₁ _ h1 hp =>
      pd_cons (C := fun l => BC P a ρ _ (v₀ :: v₁ :: l) [("key", vk)]) hp fun v₂ _ h2 hp => pd_one (C := fun l => BC P a ρ _ (v₀ :: v₁ :: v₂ :: l) [("key", vk)]) hp fun v₃ h3 => ⟨bisR v₀ v₁ v₂ v₃ vk, kwR h0 h1 h2 h3 hv, fun s k => ?_⟩
    rw [F]
    exact .of_defaults rfl (rT k) hs rfl rfl
end
theorem k_47 (P : PP) : BisK P 47 := bisK rfl rfl rfl rfl rfl
theorem k_56 (P : PP) : BisK P 56 := bisK rfl rfl rfl rfl rfl
theorem k_65 (P : PP) : BisK P 65 := bisK rfl rfl rfl rfl rfl
theorem k_74 (P : PP) : BisK P 74 := bisK rfl rfl rfl rfl rfl
end Mine
end
section
open PySem PySem.W PyProof.Rows PySem.Calls
namespace Mine
section
variable {w : World} {h₀ h : Heap} {mg mb : Str → Option Value} {M : Model} {A : Around} {E : Value → Shared → Prop} {s : Shared} {a ad : Addr} {items : Array Value} {n : Nat}
noncomputable abbrev accObj (ad : Addr) (items : Array Value) (n : Nat) : Obj := { cls := .ref 153, dict := some ad, data := .seq items n }
theorem KIn (R : GrK w h₀ mg mb) (hs : Stays h₀ h) : (hd.heap_1 w.params).In h := fun a o e => hs _ _ (R.X a o e)
theorem acc_type (ha : h.get? a = some (accObj ad items n)) : Looks M h (typeOf (.ref a)) (.ref 153) := (Looks.ld ha).andThen .now
theorem acc_mro (X : (hd.heap_1 w.params).In h) : Looks M h (mroOf (.ref 153)) [.ref 153, .type "list", .type "object"] :=
  ((Looks.ld (part := none) (X 153 _ rfl)).andThen .now).andThen .now
theorem acc_sub (X : (hd.heap_1 w.params).In h) (b : Value) : Looks M h (isSubtype (.ref 153) b) (([.ref 153, .type "list", .type "object"] : List Value).contains b) :=
  (acc_mro X).andThen .now
theorem acc_inst (X : (hd.heap_1 w.params).In h) (ha : h.get? a = some (accObj ad items n)) (b : Value) : Looks M h (isInstance (.ref a) b) (([.ref 153, .type "list", .type "object"] : List Value).contains b) :=
  (acc_type ha).andThen (acc_sub X b)
theorem acc_special (X : (hd.heap_1 w.params).In h) (ha : h.get? a = some (accObj ad items n)) {name : Str} {r : Option Value} (e : findIn (hd.heap_1 w.params) (.ref 153) name = some r) : Looks M h (specialOf (.ref a) name) r :=
  (acc_type ha).andThen (looks_findIn X e)
theorem acc_noPy (X : (hd.heap_1 w.params).In s.heap) (ha : s.heap.get? a = some (accObj ad items n)) {Q : Bool → Shared → Prop} (q : Q false s) : wpAny M A (getitemInPython (.ref a)) Q E s := by
  unfold getitemInPython
  exact wpAny_bind ((acc_special X ha (r := some (.builtin "list.__getitem__")) rfl).here (wpAny_pure q))
theorem acc_seqKey (X : (hd.heap_1 w.params).In s.heap) (ha : s.heap.get? a = some (accObj ad items n)) {k : Value} {name : Str} {Q : Value → Shared → Prop} (q : Q k s) : wpAny M A (sequenceKey (.ref a) k name) Q E s := by
  unfold sequenceKey
  refine wpAny_bind ((acc_type ha).here ?_)
  refine wpAny_bind ?_
  show wpAny _ _ (([("collections.deque" : String)]).anyM fun n => isSubtype (.ref 153) (.type n)) _ _ _
  simp only [List.anyM]
  refine wpAny_bind ((acc_sub X _).here ?_)
  exact wpAny_pure (wpAny_pure q)
theorem acc_check (X : (hd.heap_1 w.params).In s.heap) (ha : s.heap.get? a = some (accObj ad items n)) {i nm : String} {rest : List Value} {kw : List (Str × Value)} {Q : Unit → Shared → Prop}
    (hk : builtinKind i = some .slot ∨ builtinKind i = some .method) (hs : splitId i = some ("list", nm)) (ok : argsOk i ⟨.ref a :: rest, kw⟩) (q : Q () s) : wpAny M A (checkBuiltinCall i ⟨.ref a :: rest, kw⟩) Q E s := by
  have hi : Looks M s.heap (isInstance (.ref a) (.type "list")) true := acc_inst X ha _
  rcases hk with hk | hk
  · exact check_slot hk hs hi ok q
  · simp only [checkBuiltinCall, hk, hs]
    refine wpAny_bind (hi.here ?_)
    simp only [Bool.not_true, Bool.false_eq_true, if_false]
    cases hsig : Manifest.signature? i with
    | none => exact wpAny_pure q
    | some sig =>
      simp only [argsOk, hsig] at ok
      have h2 : Bind.checkArgs i sig ⟨.ref a :: rest, kw⟩ = pure () := ok
      show wpAny M A (Bind.checkArgs i sig ⟨.ref a :: rest, kw⟩) Q E s
      rw [h2]; exact wpAny_pure q
theorem acc_builtin {prog : Program} (X : (hd.heap_1 w.params).In s.heap) (ha : s.heap.get? a = some (accObj ad items n)) {i nm : String} {b : Builtin} {rest : List Value} {Q : Value → Shared → Prop}
    (hk : builtinKind i = some .slot ∨ builtinKind i = some .method) (hs : splitId i = some ("list", nm)) (ok : argsOk i ⟨.ref a :: rest, []⟩) (hp : plainId i = true) (hb : entryFor table i = some b)
    (hc : wpAny (model prog w) A.in1 (b ⟨.ref a :: rest, []⟩) (fun fin s' => ∃ v, fin = .done (.ret v) ∧ Q v s') E s) : wpAny (model prog w) A (call (.builtin i) (.ref a :: rest)) Q E s := by
  refine wpAny_call (codeAny_call_builtin hp hb (acc_check X ha hk hs ok (wpAny_mono hc (fun fin s' h' => ?_) fun _ _ h' => h')))
  obtain ⟨v, rfl, hv⟩ := h'; exact hv
theorem acc_callSpecial (X : (hd.heap_1 w.params).In s.heap) (ha : s.heap.get? a = some (accObj ad items n)) {name : Str} {i : String} {args : List Value} {Q : Option Value → Shared → Prop}
    (hf : findIn (hd.heap_1 w.params) (.ref 153) name = some (some (.builtin i))) (hb : ∀ self, bindSpecial (.builtin i) self = pure (.builtin i, [self])) (hc : wpAny M A (call (.builtin i) (.ref a :: args)) (fun v => Q (some v)) E s) : wpAny M A (callSpecial? (.ref a) name args) Q E s := by
  simp only [callSpecial?]
  refine wpAny_bind ((acc_special X ha hf).here ?_)
  simp only [hb]
  exact wpAny_holding (wpAny_bind (wpAny_pure (wpAny_bind (wpAny_mono hc (fun v s' h' => wpAny_pure h') fun _ _ h' => h'))))
theorem acc_getItem {prog : Program} (X : (hd.heap_1 w.params).In s.heap) (ha : s.heap.get? a = some (accObj ad items n)) {k : Int} {t : Tok} {x : Value} {Q : Value → Shared → Prop} (h0 : 0 ≤ k) (hfit : k < 2 ^ 63) (hx : items[k.toNat]? = some x) (h : Q x s) :
    wpAny (model prog w) A (getItem (.ref a) (.int k t)) Q E s := by
  unfold getItem
  try with_reducible refine wpAny_holding ?_
  first | refine wpAny_bind (wpAny_pure ?_) | skip
  refine wpAny_bind (acc_seqKey X ha ?_)
  refine wpAny_bind (acc_callSpecial X ha (i := "list.__getitem__") rfl slot_list_getitem.bind (acc_builtin X ha (nm := "__getitem__") (by decide +kernel) (by decide +kernel) (args_list_getitem _ _) slot_list_getitem.plain entry_list_getitem ?_))
  show wpAny _ _ (Builtin.List.listSubscript? (.int k t) >>= _) _ _ s
  refine wpAny_bind (wpAny_listSubscript_int (fitsIndex_of h0 hfit) ?_)
  clear hfit
  obtain ⟨j, rfl⟩ := Int.eq_ofNat_of_zero_le h0
  have hx' : items[j]? = some x := hx
  show wpAny _ _ ((seqItemAt a j >>= fun r => pure (r.map (j, ·))) >>= _) _ _ s
  refine wpAny_bind (wpAny_bind (wpAny_seqItemAt ha rfl (wpAny_pure ?_)))
  rw [hx']
  first
    | exact wpAny_bind (wpAny_pure (wpAny_pure ⟨x, rfl, wpAny_pure h⟩))
    | exact wpAny_pure ⟨x, rfl, wpAny_pure h⟩
theorem accOK_ok (R : GrK w h₀ mg mb) : AccOK (GK w h₀ mg mb) where
  noPy := fun hs ha A E Q hq => acc_noPy (KIn R hs) ha hq
  getItem := fun hs ha h0 hk hx hq => acc_getItem (KIn R hs) ha h0 (by omega) hx hq
end
end Mine
end
section
open PySem PySem.W PyProof.Rows PySem.Calls
namespace Mine
section
variable {w : World} {h₀ h : Heap} {mg mb : Str → Option Value} {M : Model} {A : Around} {E : Value → Shared → Prop} {s : Shared} {a ad : Addr} {items : Array Value} {n : Nat} {prog : Program}
theorem acc_slice {sl : Addr} {vl vu vs : Value} {lo hi st : Option Int} {Q : Value → Shared → Prop} (X : (hd.heap_1 w.params).In s.heap) (ha : s.heap.get? a = some (accObj ad items n))
    (hs : s.heap.IsSliceOf sl vl vu vs) (pl : IsPart vl lo) (pu : IsPart vu hi) (ps : IsPart vs st) (h0 : st ≠ some 0)
    (h : Q (.ref s.heap.objs.size) { s with heap := s.heap.push { cls := .type "list", data := .seq (slicePick items lo hi st) } })
    (hsz : items.size ≤ sizeLine) : wpAny (model prog w) A (getItem (.ref a) (.ref sl)) Q E s := by
  obtain ⟨os, hos, hcs, hds⟩ := id hs
  have hTs : s.TypeIs (.ref sl) "slice" := ⟨os, hos, hcs⟩
  unfold getItem
  try with_reducible refine wpAny_holding ?_
  first | refine wpAny_bind (wpAny_pure ?_) | skip
  refine wpAny_bind (acc_seqKey X ha ?_)
  refine wpAny_bind (acc_callSpecial X ha (i := "list.__getitem__") rfl slot_list_getitem.bind (acc_builtin X ha (nm := "__getitem__") (by decide +kernel) (by decide +kernel) (args_list_getitem _ _) slot_list_getitem.plain entry_list_getitem ?_))
  show wpAny _ _ (Builtin.List.listSubscript? (.ref sl) >>= _) _ _ s
  refine wpAny_bind ?_
  · unfold Builtin.List.listSubscript?
    refine wpAny_bind (wpAny_specialOf hTs slice_no_index ?_)
    simp only [Option.isNone_none, if_true]
    refine wpAny_pure ?_
    show wpAny _ _ (typeOf (.ref sl) >>= _) _ _ s
    refine wpAny_bind (wpAny_typeOf hTs ?_)
    rw [if_neg (by decide)]
    rw [listSliceParts_eq]
    have hstep : ¬ ((rawPart st == rawInt 0) = true) := by
      cases st with
      | none => exact Bool.false_ne_true
      | some c =>
        intro hh
        have : c = 0 := by simpa [rawPart, rawInt] using hh
        exact h0 (by rw [this])
    refine wpAny_bind (wpAny_bind (wpAny_field hos hds (x := vs) rfl (wpAny_bind (wpAny_listPart ps ?_))))
    rw [if_neg hstep]
    refine wpAny_bind (wpAny_field hos hds (x := vl) rfl (wpAny_bind (wpAny_listPart pl ?_)))
    refine wpAny_bind (wpAny_field hos hds (x := vu) rfl (wpAny_bind (wpAny_listPart pu (wpAny_pure ?_))))
    refine wpAny_bind (m := Builtin.List.listItems (.ref a)) ?_
    · unfold Builtin.List.listItems
      refine wpAny_bind (wpAny_seqItems ha rfl (wpAny_pure ?_))
      refine wpAny_bind (wpAny_of_eq (sliceIndices_raw lo hi st items.size h0) ?_)
      refine wpAny_bind (wpAny_newObj_type (wpAny_pure ⟨_, rfl, wpAny_pure h⟩) (Nat.le_trans (slicePick_size_le items lo hi st) hsz))
theorem accSlice_ok (R : GrK w h₀ mg mb) : AccSlice (GK w h₀ mg mb) := fun {A E s Q a ad sl items n x y t u} hs ha hsl hsz hq =>
  acc_slice (lo := some x) (hi := some y) (st := none) (KIn R hs) ha hsl (.int _ _) (.int _ _) .none nofun hq hsz
theorem acc_insert {k : Int} {t : Tok} {y : Value} {Q : Value → Shared → Prop} (X : (hd.heap_1 w.params).In s.heap) (ha : s.heap.get? a = some (accObj ad items n)) (h0 : 0 ≤ k) (hk : k.toNat ≤ items.size) (hz : items.size ≤ 4096)
    (h : Q .none { s with heap := s.heap.update a (Obj.mapSeq fun xs => have j := if k < 0 then (k + (xs.size : Int)).toNat else min k.toNat xs.size; (xs.extract 0 j).push y ++ xs.extract j) }) : wpAny (model prog w) A (call (.builtin "list.insert") [.ref a, .int k t, y]) Q E s := by
  refine acc_builtin X ha (nm := "insert") (by decide +kernel) (by decide +kernel) (F.args_list_insert_3 _ _ _) F.slot_list_insert.plain F.entry_list_insert ?_
  have hs1 : items.size ≤ sizeLine := Nat.le_trans hz (by decide)
  have hc0 : ¬(!Builtin.List.listFitsIndex k) = true := by
    simp only [Bool.not_eq_true', Bool.not_eq_false]
    unfold Builtin.List.listFitsIndex
    simp only [Bool.and_eq_true, decide_eq_true_eq]
    omega
  obtain ⟨hp, g, d, tk, os⟩ := s
  have f1 := AutoSeq1.idx_int
  have hz' : ((fun xs : Array Value => have j := if k < 0 then (k + (xs.size : Int)).toNat else min k.toNat xs.size; (xs.extract 0 j).push y ++ xs.extract j) items).size ≤ sizeLine + 1 := Nat.le_trans (AutoSeq1.size_inserted items _ _) (Nat.add_le_add_right hs1 1)
  wp_walk using (wpAny_updateSeq ha rfl (hz := hs1) (_hz' := hz')), AutoSeq1.wpAny_loadPart' ha
  exact ⟨_, rfl, h⟩
end
section
variable {w : World} {h₀ : Heap} {mg mb : Str → Option Value} {ρ : List Addr} {S S' : MS} {q : Sta} {env : Env} {A : Around} {E : Value → Shared → Prop} {s : Shared} {i d : Nat} {a : Addr} {vs : List MV}
theorem upd_acc_done {ad : Addr} {items : Array Value} {n d : Nat} {vs' : List MV} {v : MV} {rv : Value} {f : Array Value → Array Value} {Q : Value → Shared → Prop} (R0 : GrK w h₀ mg mb) (R : Rel (GK w h₀ mg mb) ρ S q env s.heap) {d₀ : Nat} {vs₀ : List MV} (hob : S.objs[i]? = some (.acc d₀ vs₀)) (ea : ρ[i]? = some a) (ed : ρ[d]? = some ad)
    (e : s.heap.get? a = some (accObj ad items n)) (p : VRs ρ vs' (f items).toList) (hv : VR ρ v rv) (hQ : Post (GK w h₀ mg mb) ρ { S with objs := S.objs.set i (.acc d vs') } q env s VR v Q) :
    Q rv { s with heap := s.heap.update a (Obj.mapSeq f) } := by
  have ke : StaysBut a s.heap (s.heap.update a (Obj.mapSeq f)) := fun b o hb e => ((Heap.SameBut.update ..).2 b hb).trans e
  have hn : ∃ n', (s.heap.update a (Obj.mapSeq f)).get? a = some (accObj ad (f items) n') := ⟨_, Heap.get?_update_self _ e rfl⟩
  obtain ⟨n', hn⟩ := hn
  exact hQ { s with heap := s.heap.update a (Obj.mapSeq f) } ρ rv (R.set ea ke (codeRec_but ke e (fun vs => nofun)) ⟨f items, n', ad, ed, hn, p⟩ (fun vs e => by rw [hob] at e; cases e)) (Ext.but (t := s.toks) (.inl (List.mem_of_getElem? ea)) ke ⟨_, hn⟩) hv
theorem accMeth_insert (R0 : GrK w h₀ mg mb) {v : MV} {rv : Value} {k : Int} {t : Tok} {Q : Value → Shared → Prop} (R : Rel (GK w h₀ mg mb) ρ S q env s.heap) (hob : S.objs[i]? = some (.acc d vs)) (ea : ρ[i]? = some a) (hl : 0 ≤ k ∧ k.toNat ≤ vs.length ∧ vs.length < 4096) (hx : VR ρ v rv)
    (hQ : Post (GK w h₀ mg mb) ρ { S with objs := S.objs.set i (.acc d (insertAt k.toNat v vs)) } q env s VR .none Q) : wpAny (model lawP w) A (call (.builtin "list.insert") [.ref a, .int k t, rv]) Q E s := by
  obtain ⟨items, n, ad, ed, e, p⟩ := R.at hob ea
  have hsz : vs.length = items.size := pd_len p
  refine acc_insert (KIn R0 R.keep) e hl.1 (by exact lle [_, _, _] [.le (.v 0) (.v 2), .eq (.v 2) (.v 1)] [1, 1] (.v 0) (.v 1) (by exact yes) hl.2.1 hsz) (by exact lle [_, _] [.lt (.v 1) (.n 4096), .eq (.v 1) (.v 0)] [1, -1] (.v 0) (.n 4096) (by exact yes) hl.2.2 hsz) ?_
  refine upd_acc_done (vs' := insertAt k.toNat v vs) R0 R hob ea ed e ?_ .none hQ
  have hk : ¬ k < 0 := by omega
  have hm : min k.toNat items.size = k.toNat := by exact leq [_, _] [.eq (.v 0) (.v 1)] [1] [-1] (.v 0) (.v 1) (by exact yes) (by exact yes) (Nat.min_eq_left (lle [_, _, _] [.le (.v 0) (.v 2), .eq (.v 2) (.v 1)] [1, 1] (.v 0) (.v 1) (by exact yes) hl.2.1 hsz))
  simp only [hk, if_false, hm]
  exact insert_list p hx
theorem ns_init {h : Heap} {ad : Addr} {k : Int} {kvs' : List (Str × Value)} (hd : h.DictOf (_root_.PySem.strKind lawP w) ad kvs') (hp : Paired (ER ρ) [(sizeKey, .int k)] kvs') : ∃ m t, h.Ns ad m ∧ m "_initial_size" = some (.int k t) ∧ ∀ x : Str, x ≠ "_initial_size" → m x = none := by
  cases hp with
  | @cons a b l r h1 h2 =>
  cases h2
  obtain ⟨x, v⟩ := b
  obtain ⟨hx, hv⟩ := h1
  have hx : x.cps.toList = sizeKey := hx
  obtain ⟨t, rfl⟩ := vr_int hv
  obtain ⟨o, es, ep, ho, _, hdt, _, hpr, _⟩ := hd
  have hxs : x = "_initial_size" := by
    obtain ⟨⟨x⟩⟩ := x
    have : x = (Str.ofString "_initial_size").cps.toList := hx
    subst this
    rfl
  subst hxs
  generalize hes : es.toList = l at hpr
  cases hpr with
  | @cons e kv es' kvs hk hv ht =>
  cases ht
  obtain ⟨t', hk⟩ := Value.isStrOf_shape hk
  have hes : es = #[e] := by
    apply Array.toList_inj.mp
    rw [hes]
  subst hes
  refine ⟨nsFind #[e], t, ⟨o, #[e], ep, ho, hdt, fun en he => ?_, fun _ => rfl⟩, ?_, fun y hy => ?_⟩
  · simp at he
    subst he
    exact ⟨_, _, hk⟩
  · unfold nsFind findBy
    rw [← Array.find?_toList, List.find?_cons, hk]
    show (match (Str.ofString "_initial_size" == Str.ofString "_initial_size") with | true => some e | false => none).map DictEntry.val = _
    rw [beq_self_eq_true]
    show some e.val = _
    rw [hv]
  · unfold nsFind findBy
    rw [← Array.find?_toList, List.find?_cons, hk]
    show (match (Str.ofString "_initial_size" == y) with | true => some e | false => none).map DictEntry.val = _
    rw [beq_eq_false_iff_ne.mpr (Ne.symm hy)]
    rfl
theorem acc_getMethod {M : Model} {ad : Addr} {items : Array Value} {n : Nat} {m : Str → Option Value} {name : Str} {f tf : Value} {pl : Sem Bool} {Q : Value × List Value → Shared → Prop} (X : (hd.heap_1 w.params).In s.heap) (ha : s.heap.get? a = some (accObj ad items n)) (hn : s.heap.Ns ad m) (hm : m name = none)
    (hf : findIn (hd.heap_1 w.params) (.ref 153) name = some (some f)) (htf : Looks M s.heap (typeOf f) tf) (ht : tf = .type "function" ∨ tf = .type "method_descriptor") (hq : Q (f, [.ref a]) s) : wpAny M A (getMethod (.ref a) name pl) Q E s := by
  unfold getMethod
  refine wpAny_bind ((acc_special X ha (r := some (.builtin "list.__getattribute__")) rfl).here ?_)
  show wpAny M A (if (Manifest.canonical "list.__getattribute__" != "object.__getattribute__") = true then _ else _) Q E s
  rw [if_neg (by rw [canon_list_getattribute]; decide)]
  refine wpAny_bind ((acc_special X ha (r := none) rfl).here ?_)
  show wpAny M A (if (none : Option Value).isSome = true then _ else _) Q E s
  rw [if_neg (by decide)]
  refine wpAny_bind ((acc_special X ha hf).here ?_)
  show wpAny M A (typeOf f >>= _) Q E s
  refine wpAny_bind (htf.here ?_)
  rw [if_neg (by rcases ht with rfl | rfl <;> decide)]
  show wpAny M A (loadPart a (some headPart) >>= _) Q E s
  refine wpAny_bind (wpAny_loadPart ha ?_)
  show wpAny M A (nsGet ad name >>= _) Q E s
  refine wpAny_bind (wpAny_nsGet hn ?_)
  rw [hm]
  rw [if_neg (by decide)]
  exact wpAny_bind (wpAny_rule (wpAny_pure hq))
theorem accMeth_callee (R0 : GrK w h₀ mg mb) {name : Str} {m : MN} (hm : methName .acc name = some m) : ∃ f, methFn (GK w h₀ mg mb) m = some f ∧ (∀ {ρ : List Addr} {S : MS} {q : Sta} {env : Env} {s : Shared} {i d : Nat} {a : Addr} {vs : List MV}, Rel (GK w h₀ mg mb) ρ S q env s.heap → S.objs[i]? = some (.acc d vs) → (∃ k : Int, S.objs[d]? = some (.dict [(sizeKey, .int k)])) → ρ[i]? = some a →
    ∀ (pl : Sem Bool) (A : Around) (E : Value → Shared → Prop) (Q : Value × List Value → Shared → Prop), Q (f, [.ref a]) s → wpAny (model (GK w h₀ mg mb).prog (GK w h₀ mg mb).w) A (getMethod (.ref a) name pl) Q E s) ∧
    ∀ h : Heap, Stays (GK w h₀ mg mb).h₀ h → ∃ k, (k = Keeper.frame ∨ k = Keeper.machine ∨ k = Keeper.boundFrame) ∧ Looks (model (GK w h₀ mg mb).prog (GK w h₀ mg mb).w) h (keeperOf f) k := by
  have key : ∀ (f tf : Value), findIn (hd.heap_1 w.params) (.ref 153) name = some (some f) → (∀ h, (hd.heap_1 w.params).In h → Looks (model lawP w) h (typeOf f) tf) → (tf = .type "function" ∨ tf = .type "method_descriptor") → name ≠ "_initial_size" →
      ∀ {ρ : List Addr} {S : MS} {q : Sta} {env : Env} {s : Shared} {i d : Nat} {a : Addr} {vs : List MV}, Rel (GK w h₀ mg mb) ρ S q env s.heap → S.objs[i]? = some (.acc d vs) → (∃ k : Int, S.objs[d]? = some (.dict [(sizeKey, .int k)])) → ρ[i]? = some a →
    ∀ (pl : Sem Bool) (A : Around) (E : Value → Shared → Prop) (Q : Value × List Value → Shared → Prop), Q (f, [.ref a]) s → wpAny (model lawP w) A (getMethod (.ref a) name pl) Q E s := by
    intro f tf h1 h2 h3 h4 ρ S q env s i d a vs R ho hd ea pl A E Q hq
    obtain ⟨k, hd⟩ := hd
    obtain ⟨items, n, ad, ed, e, p⟩ := R.at ho ea
    obtain ⟨kvs', hdo, hp⟩ := R.at hd ed
    obtain ⟨m, t, hn, _, hno⟩ := ns_init hdo hp
    exact acc_getMethod (KIn R0 R.keep) e hn (hno _ h4) h1 (h2 _ (KIn R0 R.keep)) h3 hq
  unfold methName at hm
  simp only at hm
  split at hm
  · rename_i hx; cases hm; subst hx
    refine ⟨.builtin "list.insert", rfl, key _ (.type "method_descriptor") rfl (fun h X => Looks.of_pure F.type_list_insert) (.inr rfl) (by decide), fun _ _ => keep_builtin (G := GK w h₀ mg mb)⟩
  · split at hm
    · rename_i hx; cases hm; subst hx
      refine ⟨.ref 150, rfl, key _ (.type "function") rfl (fun h X => (Looks.ld (X 150 _ rfl)).andThen .now) (.inl rfl) (by decide), fun h hs => ⟨.frame, .inl rfl, (Looks.ld (part := none) (KIn R0 hs 150 _ rfl)).andThen .now⟩⟩
    · split at hm
      · rename_i hx; cases hm; subst hx
        refine ⟨.ref 106, rfl, key _ (.type "function") rfl (fun h X => (Looks.ld (X 106 _ rfl)).andThen .now) (.inl rfl) (by decide), fun h hs => ⟨.frame, .inl rfl, (Looks.ld (part := none) (KIn R0 hs 106 _ rfl)).andThen .now⟩⟩
      · cases hm
end
end Mine
end
section
open PySem PySem.W PyProof.Rows PySem.Calls
namespace Mine
theorem if_then {α : Type} {M : Model} {A : Around} {E : Value → Shared → Prop} {s : Shared} {c : Bool} {a b : Sem α} {Q : α → Shared → Prop} (hc : c = true) (h : wpAny M A a Q E s) : wpAny M A (if c = true then a else b) Q E s := by
  rw [hc]; exact h
theorem slot_wd_get : Slot "wrapper_descriptor" "__get__" "wrapper_descriptor.__get__" := .of (owner := "wrapper_descriptor") (n := "__get__") (by rw [typeLookup_type, builtinLookup_eq_fast]; kernel_rfl) (by decide +kernel) (by decide +kernel) (by decide +kernel)
  (by first | exact .inl (by decide +kernel) | exact .inr (by decide +kernel)) (by rw [isSubtype_type]; kernel_rfl)
theorem entry_wd_get : entryFor table "wrapper_descriptor.__get__" = some Builtin.«wrapper_descriptor.__get__» := entryFor_of_tree (by kernel_rfl)
theorem args_wd_get (a b c : Value) : argsOk "wrapper_descriptor.__get__" ⟨[a, b, c], []⟩ := by unfold argsOk; kernel_rfl
theorem type_list_len : typeOf (.builtin "list.__len__") = pure (.type "wrapper_descriptor") := by kernel_rfl
theorem type_list_init : typeOf (.builtin "list.__init__") = pure (.type "wrapper_descriptor") := by kernel_rfl
theorem bound_len (x : Addr) : checkBoundCall "list.__len__" ⟨[.ref x], []⟩ = pure () := by first | kernel_rfl | rfl
section
variable {w : World} {h₀ h : Heap} {mg mb : Str → Option Value} {A : Around} {E : Value → Shared → Prop} {s : Shared} {a ad : Addr} {items : Array Value} {n : Nat} {prog : Program}
noncomputable abbrev mwObj (i : String) (x : Addr) : Obj := { cls := .type "method-wrapper", data := .fields #[.builtin i, .ref x] }
theorem acc_len_plain {Q : Fin → Shared → Prop} (ha : s.heap.get? a = some (accObj ad items n)) (h : ∀ t k, Q (.done (.ret (.int (items.size : Nat) t))) { s with toks := k }) : wpAny (model prog w) A (Builtin.«list.__len__» ⟨[.ref a], []⟩) Q E s := by
  obtain ⟨hp, g, d, tk, os⟩ := s
  unfold Builtin.«list.__len__»
  wp_walk using wpAny_seqSize ha rfl
  all_goals exact h _ _
theorem mw_call {u : Addr} {i : String} {Bi : Builtin} {pos : Pos} {Q : Value → Shared → Prop} (ho : s.heap.get? u = some (mwObj i a)) (hc : checkBoundCall i ⟨[.ref a], []⟩ = pure ()) (hq : (Code.builtin i ⟨[.ref a], []⟩).quiet = true) (he : entryFor table i = some Bi)
    (h : ∀ A', wpAny (model prog w) A' (Bi ⟨[.ref a], []⟩) (fun f s' => ∃ v, f = .done (.ret v) ∧ Q v s') (fun _ _ => False) s) : wpAny (model prog w) A (callWith pos (.ref u) [] (backTo pos (starEach [] env)) []) Q E s := by
  unfold callWith
  refine wpAny_bind (wpAny_holding (wpAny_pure ?_))
  refine wpAny_bind (wpAny_standAt ?_)
  show wpAny _ _ (keeperOf (.ref u) >>= _) _ _ _
  refine wpAny_bind (m := keeperOf (.ref u)) ?_
  unfold keeperOf
  refine wpAny_bind (wpAny_load ho ?_)
  simp only [show (Value.type "method-wrapper" != Value.type "method") = true by decide, show (Value.type "method-wrapper" == Value.type "builtin_function_or_method" || Value.type "method-wrapper" == Value.type "method-wrapper") = true by decide, if_true]
  refine wpAny_pure ?_
  refine wpAny_bind (wpAny_mono (Q := Q) (E := E) ?_ (fun r s₂ hr => wpAny_bind (wpAny_holding (wpAny_point (wpAny_pure hr)))) fun _ _ x => x)
  refine wpAny_call (codeAny_of_tree ?_)
  show wpAny _ A.in1 (callAny (.ref u) ⟨[], []⟩) _ _ s
  simp only [callAny]
  refine wpAny_bind (wpAny_load ho ?_)
  simp only [show (Value.type "method-wrapper" == Value.type "method" || Value.type "method-wrapper" == Value.type "builtin_function_or_method" || Value.type "method-wrapper" == Value.type "method-wrapper") = true by decide, if_true]
  refine if_then (by decide) ?_
  refine wpAny_bind (wpAny_of_eq (a := ()) hc ?_)
  refine wpAny_bind (wpAny_pure (wpAny_pure ?_))
  refine ⟨hq, codeAny_builtin he (wpAny_mono (h _) (fun f s' hf => ?_) fun _ _ z => z.elim)⟩
  obtain ⟨v, rfl, hv⟩ := hf
  exact hv
end
section
variable {w : World} {A : Around} {E : Value → Shared → Prop} {prog : Program} {h : Heap} {g : Array GenState} {d : Drawn} {t : Nat} {os : OsState}
theorem run_wd {M : Model} {i : String} {x ad : Addr} {items : Array Value} {n : Nat} {s : Shared} {P : Fin → Shared → Prop} (X : (hd.heap_1 w.params).In s.heap) (hx : s.heap.get? x = some (accObj ad items n)) (hi : i = "list.__len__" ∨ i = "list.__init__")
    (h : P (.done (.ret (.ref s.heap.objs.size))) { s with heap := s.heap.push (mwObj i x) }) : wpAny M A (Builtin.«wrapper_descriptor.__get__» ⟨[.builtin i, .ref x, .ref 153], []⟩) P E s := by
  unfold Builtin.«wrapper_descriptor.__get__»
  refine wpAny_bind (wpAny_of_eq (a := (.builtin i, some (.ref x), some (.ref 153))) rfl ?_)
  have hii : Looks M s.heap (isInstance (.ref x) (.type "list")) true := acc_inst X hx _
  rcases hi with rfl | rfl
  · refine wpAny_bind (m := _) ?_
    refine wpAny_bind (wpAny_of_eq (a := (("__len__" : Str), Value.type "list")) (by first | rfl | kernel_rfl) ?_)
    refine wpAny_bind (hii.here ?_)
    refine wpAny_pure ?_
    exact wpAny_bind (wpAny_newObj_type (wpAny_pure h))
  · refine wpAny_bind (m := _) ?_
    refine wpAny_bind (wpAny_of_eq (a := (("__init__" : Str), Value.type "list")) (by first | rfl | kernel_rfl) ?_)
    refine wpAny_bind (hii.here ?_)
    refine wpAny_pure ?_
    exact wpAny_bind (wpAny_newObj_type (wpAny_pure h))
/-- super().NAME, where NAME is the built-in list's: the wrapper bound to the own list -/
theorem super_ga {so x ad : Addr} {items : Array Value} {n : Nat} {i : String} {name : Str} {tk : Tok} {Q : Fin → Shared → Prop} (X : (hd.heap_1 w.params).In h)
    (hso : h.get? so = some { cls := .type "super", dict := none, data := .fields #[.ref 153, .ref x, .ref 153], slots := #[] }) (hx : h.get? x = some (accObj ad items n))
    (hf : alongIn (hd.heap_1 w.params) name [.type "list", .type "object"] = some (some (.builtin i))) (hi : i = "list.__len__" ∨ i = "list.__init__") (hn : (name == ("__class__" : Str)) = false)
    (hq : Q (.done (.ret (.ref h.objs.size))) ⟨h.push (mwObj i x), g, d, t, os⟩) :
    wpAny (model prog w) A (Builtin.«super.__getattribute__» ⟨[.ref so, .str name tk], []⟩) Q E ⟨h, g, d, t, os⟩ := by
  have hlk := slot_wd_get.lookup
  have hti : typeOf (.builtin i) = pure (.type "wrapper_descriptor") := by
    rcases hi with rfl | rfl
    · exact type_list_len
    · exact type_list_init
  have hne : (Value.ref x == Value.ref 153) = false := by
    rw [beq_eq_false_iff_ne]
    intro e
    cases e
    rw [X 153 _ rfl] at hx
    cases hx
  have hC : Looks (model prog w) h (mroOf (.ref 153)) [.ref 153, .type "list", .type "object"] := acc_mro X
  have hno : Looks (model prog w) h (opaqueClassAbove (.ref 153)) none := looks_opaque X rfl
  have hl : (([.ref 153, .type "list", .type "object"] : List Value).dropWhile (· != .ref 153)).drop 1 = [.type "list", .type "object"] := by decide
  have hdt : ({ cls := .type "super", dict := none, data := .fields #[.ref 153, .ref x, .ref 153], slots := #[] } : Obj).data = .fields #[.ref 153, .ref x, .ref 153] := rfl
  have f0 : (#[.ref 153, .ref x, .ref 153] : Array Value)[0]? = some (.ref 153) := rfl
  have f1 : (#[.ref 153, .ref x, .ref 153] : Array Value)[1]? = some (.ref x) := rfl
  have f2 : (#[.ref 153, .ref x, .ref 153] : Array Value)[2]? = some (.ref 153) := rfl
  unfold Builtin.«super.__getattribute__»
  repeat (first
    | (with_reducible refine wpAny_field hso hdt f0 ?_) | (with_reducible refine wpAny_field hso hdt f1 ?_) | (with_reducible refine wpAny_field hso hdt f2 ?_)
    | (with_reducible refine ks_wpAny_notOpaque hno ?_)
    | (with_reducible refine Looks.at hC ?_; rw [hl])
    | (refine ks_forIn_along X (fun _ _ => rfl) rfl ?_ hf)
    | (with_reducible refine wpAny_of_eq hti ?_)
    | (with_reducible refine wpAny_of_eq hlk ?_)
    | (refine wpAny_call_entry slot_wd_get hti entry_wd_get (run_wd X hx hi ?_) (args_wd_get _ _ _))
    | (with_reducible refine ⟨_, rfl, ?_⟩)
    | (simp only [hn, hne, Bool.or_false, Bool.false_eq_true, if_false])
    | wp_step
    | dsimp only)
  all_goals exact hq
end
end Mine
end
section
open PySem PySem.W PyProof.Rows PySem.Calls
namespace Mine
noncomputable abbrev supObj (x : Addr) : Obj := { cls := .type "super", dict := none, data := .fields #[.ref 153, .ref x, .ref 153], slots := #[] }
section
variable {w : World} {A : Around} {E : Value → Shared → Prop} {prog : Program} {h : Heap} {g : Array GenState} {d : Drawn} {t : Nat} {os : OsState}
theorem super_getMethod {so x ad : Addr} {items : Array Value} {n : Nat} {i : String} {name : Str} {pl : Sem Bool} {Q : Value × List Value → Shared → Prop} (X : (hd.heap_1 w.params).In h)
    (hso : h.get? so = some (supObj x)) (hx : h.get? x = some (accObj ad items n))
    (hf : alongIn (hd.heap_1 w.params) name [.type "list", .type "object"] = some (some (.builtin i))) (hi : i = "list.__len__" ∨ i = "list.__init__") (hn : (name == ("__class__" : Str)) = false)
    (hq : Q (.ref h.objs.size, []) ⟨h.push (mwObj i x), g, d, t + 1, os⟩) :
    wpAny (model prog w) A (getMethod (.ref so) name pl) Q E ⟨h, g, d, t, os⟩ := by
  have hlk := F.ks_slot_super_ga.lookup
  have hcan := F.ks_canon_super_ga
  have hT : ∀ t', (⟨h, g, d, t', os⟩ : Shared).TypeIs (.ref so) "super" := fun _ => ⟨_, hso, rfl⟩
  unfold getMethod
  refine wpAny_bind (wpAny_specialOf (hT _) hlk ?_)
  show wpAny _ _ (if (Manifest.canonical "super.__getattribute__" != "object.__getattribute__") = true then _ else _) _ _ _
  rw [if_pos hcan]
  unfold getAttr getAttrBy
  refine wpAny_bind (wpAny_bind (wpAny_mkText (wpAny_holding (wpAny_bind (wpAny_typeOf (hT _) (wpAny_bind (wpAny_of_eq hlk ?_)))))))
  show wpAny _ _ (getAttrByItsOwn (.ref so) (.str name t) (.type "super") (.builtin "super.__getattribute__") true false) _ _ _
  unfold getAttrByItsOwn hookBefore callGetattribute boundAndCalled
  refine wpAny_bind (wpAny_of_eq (show (if onTheHeap (.type "super") then typeLookup (.type "super") "__getattr__" else pure none) = pure none from rfl) ?_)
  refine wpAny_bind (wpAny_attempt (wpAny_holding ?_))
  show wpAny _ _ (bindSpecial (.builtin "super.__getattribute__") (.ref so) >>= _) _ _ _
  refine wpAny_bind (wpAny_of_eq (F.ks_slot_super_ga.bind _) ?_)
  refine wpAny_mono (Q := fun v s' => v = .ref h.objs.size ∧ s' = ⟨h.push (mwObj i x), g, d, t + 1, os⟩) (E := fun _ _ => False)
    (wpAny_call_entry F.ks_slot_super_ga (hT _) F.ks_entry_super_ga (super_ga X hso hx hf hi hn ⟨_, rfl, rfl, rfl⟩) (F.ks_gaArgs_super _ _)) (fun v s' hv => ?_) fun _ _ z => z.elim
  obtain ⟨rfl, rfl⟩ := hv
  exact wpAny_pure (wpAny_pure hq)
end
section
variable {w : World} {h₀ : Heap} {mg mb : Str → Option Value} {A : Around} {E : Value → Shared → Prop} {s : Shared} {x ad : Addr} {items : Array Value} {n : Nat}
theorem acc_node {fd : FuncData} {f cda L : Addr} {body : List Stmt} {p0 p1 : Pos} {attr : Str} {whole : Sem Value} {ar : Arg} {vs : Array Value} {file : Str} {tf : Tok} {oc ccl : Value} {od cdd : Option Addr} {osl ccs : Array (Option Value)} {m : Str → Option Value} {Q : Value → Shared → Prop}
    (R0 : GrK w h₀ mg mb) (hs : Stays h₀ s.heap) (ha : s.heap.get? x = some (accObj ad items n)) (hns : s.heap.Ns L m)
    (hf : (hd.heap_1 w.params).lookup f = some ⟨oc, od, .func fd, osl⟩) (hp : (fd.params.posonlyargs ++ fd.params.args).head? = some ar) (hv : m ar.arg = some (.ref x))
    (hcd : fd.code = .ref cda) (hcode : (hd.heap_1 w.params).lookup cda = some ⟨ccl, cdd, .fields vs, ccs⟩) (hvs : vs[2]? = some (.str file tf)) (hfile : ((lawP.main.file : Str) == file) = true)
    (hgl : fd.globals = mainGlobals) (hbu : fd.builtins = builtinsNs) (hcl : fd.closure = [(("__class__" : Str), (78 : Addr))])
    (hat : (attr == ("__class__" : Str)) = false) (hks : fd.scope.names.lookup ("super" : Str) = some .globalImplicit) (hkc : fd.scope.names.lookup ("__class__" : Str) = some .free) (hka : fd.scope.names.lookup ar.arg = some .local) (hk : fd.scope.kind = .function)
    (h : ∀ h', h'.get? s.heap.objs.size = some (supObj x) → (∀ y o, s.heap.get? y = some o → h'.get? y = some o) → Q (.ref s.heap.objs.size) { s with heap := h' }) :
    _root_.PySem.wpAt (model lawP w) A (.func body (callEnv fd L f)) (attributeBase (.Call (.Name "super" p0) [] [] p1) attr (callEnv fd L f) whole) Q E s := by
  have X := KIn R0 hs
  obtain ⟨hh, g, d, t, os⟩ := s
  have hD : hh.get? 153 = _ := X 153 _ rfl
  refine ks_wpAt_super_base (env := callEnv fd L f) hks hkc hat rfl (X _ _ hf) rfl hp hcd (X _ _ hcode) rfl hvs hfile (by decide +kernel) ?_
  refine ks_loadName_global hk hks (loadGlobal_builtin (env := callEnv fd L f) (by show hh.Ns fd.globals _; rw [hgl]; exact R0.g.keeps hs) (mg_none_of R0.X R0.g rfl) (by show hh.Ns fd.builtins _; rw [hbu]; exact R0.b.keeps hs) (R0.bs _ (by decide +kernel)) ⟨rfl, ?_⟩)
  refine wpAny_loadName_free hk hkc (by show fd.closure.lookup _ = _; rw [hcl]; rfl) ⟨_, X 78 _ rfl, rfl⟩ ?_
  refine wpAny_loadName_local hk hka hns hv ?_
  refine ks_wpAny_isType_cls hD rfl ⟨rfl, ?_⟩
  refine ks_wpAny_call_super hD rfl ha rfl (fun c e => by cases e) (acc_sub X _) (fun h' e k => ?_)
  exact h h' e k
end
section
variable {w : World} {h₀ : Heap} {mg mb : Str → Option Value} {ρ : List Addr} {S S' : MS} {q : Sta} {env : Env} {A : Around} {E : Value → Shared → Prop} {s : Shared} {i d : Nat} {a : Addr} {vs : List MV}
theorem acc_count {n : Nat} (R0 : GrK w h₀ mg mb) {Q : Value → Shared → Prop} (hA : AOk n A) (R : Rel (GK w h₀ mg mb) ρ S q env s.heap) (hob : S.objs[i]? = some (.acc d vs)) (ea : ρ[i]? = some a) (hl : vs.length ≤ stopLen)
    (hQ : Post (GK w h₀ mg mb) ρ S q env s VR (.int vs.length) Q) : wpAny (model lawP w) A (call (.ref 150) [.ref a]) Q E s := by
  obtain ⟨items, sz, ad, ed, e, p⟩ := R.at hob ea
  have hsz : vs.length = items.size := pd_len p
  have X := KIn R0 R.keep
  refine wpAny_call (ks_codeAny_call_defAt (binds := [(("self" : Str), .ref a)]) (by have := hA.depth; exact llt [_, _, _] [.lt (.a (.a (.v 0) (.v 2)) (.n 10)) (.v 1)] [1] (.v 0) (.v 1) (by exact yes) this) (X 150 _ rfl) rfl (R0.nl.keeps R.keep) (codeRec_of X rfl) rfl (BindsTo.of_eq rfl) (by decide) (fun x hx => by
    rcases List.mem_cons.mp hx with rfl | hx
    · rfl
    · cases hx) (fun h₁ hns hk₁ => ?_))
  refine ks_wpAt_execs_cons (ks_wpAt_Return_some (ks_wpAt_MethodCall ?_))
  refine acc_node (s := ⟨h₁, s.gens, s.drawn, _, s.os⟩) R0 (fun b o h => hk₁ b o (R.keep b o h)) (hk₁ _ _ e) hns (f := 150) (cda := 149) rfl rfl rfl rfl rfl rfl (by decide +kernel) rfl rfl rfl (by decide) rfl rfl rfl rfl (fun h₂ e2 k2 => ?_)
  have X₂ : (hd.heap_1 w.params).In h₂ := fun b o h => k2 b o (hk₁ b o (X b o h))
  refine super_getMethod X₂ e2 (k2 _ _ (hk₁ _ _ e)) (i := "list.__len__") rfl (.inl rfl) (by decide) ?_
  refine mw_call (Heap.get?_push_at rfl rfl) (bound_len a) (Code.quiet_builtin _ (by decide +kernel)) entry_list_len fun A' => ?_
  have e3 := Heap.get?_push_of_some (mwObj "list.__len__" a) (k2 _ _ (hk₁ _ _ e))
  refine acc_len_plain e3 fun tk k => ⟨_, rfl, ?_⟩
  have ks : Stays s.heap (h₂.push (mwObj "list.__len__" a)) := fun b o h => Heap.get?_push_of_some _ (k2 b o (hk₁ b o h))
  exact hQ ⟨h₂.push (mwObj "list.__len__" a), s.gens, s.drawn, _, s.os⟩ ρ (.int (items.size : Nat) tk) (R.keeps ks) (Ext.refl ks rfl rfl rfl) (by rw [hsz]; exact .int _ _)
end
end Mine
end
section
open PySem PySem.W PyProof.Rows PySem.Calls
namespace Mine
section
variable {w : World} {A : Around} {E : Value → Shared → Prop} {s : Shared} {a ad : Addr} {items : Array Value} {n : Nat} {prog : Program}
theorem acc_clear {sl em : Addr} {t : Tok} {ne : Nat} {Q : Unit → Shared → Prop} (X : (hd.heap_1 w.params).In s.heap) (ha : s.heap.get? a = some (accObj ad items n))
    (hs : s.heap.IsSliceOf sl (.int 0 t) .none .none) (he : s.heap.get? em = some { cls := .type "list", data := .seq #[] ne }) (hne : a ≠ em) (hsz : items.size ≤ 4096)
    (h : ∀ f : Array Value → Array Value, f items = #[] → Q () { s with heap := s.heap.update a (Obj.mapSeq f) }) : wpAny (model prog w) A (setItem (.ref a) (.ref sl) (.ref em)) Q E s := by
  obtain ⟨os, hos, hcs, hds⟩ := id hs
  have hTs : s.TypeIs (.ref sl) "slice" := ⟨os, hos, hcs⟩
  have hTe : s.TypeIs (.ref em) "list" := ⟨_, he, rfl⟩
  unfold setItem
  refine wpAny_holding ?_
  refine wpAny_bind (acc_seqKey X ha ?_)
  refine wpAny_bind (acc_callSpecial X ha (i := "list.__setitem__") rfl slot_list_setitem.bind (acc_builtin X ha (nm := "__setitem__") (by decide +kernel) (by decide +kernel) (args_list_setitem _ _ _) slot_list_setitem.plain entry_list_setitem ?_))
  unfold Builtin.«list.__setitem__» Builtin.List.listBlankSlotArgs
  dsimp only [List.length_cons, List.length_nil]
  refine wpAny_bind (m := Builtin.List.listSubscript? (.ref sl)) ?_
  · unfold Builtin.List.listSubscript?
    refine wpAny_bind (wpAny_specialOf hTs slice_no_index ?_)
    simp only [Option.isNone_none, if_true]
    refine wpAny_pure ?_
    show wpAny _ _ (typeOf (.ref sl) >>= _) _ _ s
    refine wpAny_bind (wpAny_typeOf hTs ?_)
    rw [if_neg (by decide)]
    rw [listSliceParts_eq]
    refine wpAny_bind (wpAny_bind (wpAny_field hos hds (x := .none) rfl (wpAny_bind (wpAny_listPart .none ?_))))
    rw [if_neg (by decide)]
    refine wpAny_bind (wpAny_field hos hds (x := .int 0 t) rfl (wpAny_bind (wpAny_listPart (.int 0 t) ?_)))
    refine wpAny_bind (wpAny_field hos hds (x := .none) rfl (wpAny_bind (wpAny_listPart .none (wpAny_pure ?_))))
    have hsr : Builtin.List.listSameRef (.ref a) (.ref em) = false := by
      unfold Builtin.List.listSameRef
      simpa using hne
    rw [if_neg (by rw [hsr]; decide)]
    refine wpAny_bind (m := Builtin.List.listAllItems _ _) ?_
    unfold Builtin.List.listAllItems
    refine wpAny_bind (wpAny_typeOf hTe ?_)
    refine if_then (by decide) ?_
    unfold Builtin.List.listItems
    refine wpAny_bind (wpAny_seqItems he rfl (wpAny_pure ?_))
    refine wpAny_bind (wpAny_bind (wpAny_seqItems ha rfl (wpAny_pure ?_)))
    refine wpAny_bind (wpAny_of_eq (sliceIndices_raw (some 0) none none items.size (by decide)) ?_)
    have hb : sliceBounds (some 0) none none items.size = (0, (items.size : Int), 1) := by
      unfold sliceBounds
      simp
      omega
    rw [hb]
    refine if_then rfl ?_
    refine wpAny_bind (wpAny_rule ?_)
    have hlg : Builtin.List.listTooLong (items.size + (#[] : Array Value).size) = false := by
      unfold Builtin.List.listTooLong
      exact decide_eq_false (by
        have : sizeLine > 4096 := by decide
        show ¬ items.size + 0 > sizeLine
        omega)
    rw [if_neg (by rw [hlg]; decide)]
    have hm : (max (0 : Int) (items.size : Int)).toNat = items.size := by omega
    unfold Builtin.List.listUpdate
    refine wpAny_bind (wpAny_updateSeq ha rfl (hz := Nat.le_trans hsz (by decide)) (_hz' := ?_) ?_)
    · refine wpAny_bind (wpAny_letGo ?_)
      refine wpAny_pure ⟨_, rfl, wpAny_pure (h _ ?_)⟩
      show items.extract 0 0 ++ #[] ++ items.extract (max (0 : Int) (items.size : Int)).toNat items.size = #[]
      rw [hm]
      simp
    · show (items.extract 0 0 ++ #[] ++ items.extract (max (0 : Int) (items.size : Int)).toNat items.size).size ≤ _
      rw [hm]
      simp
end
end Mine
end
section
open PySem PySem.W PyProof.Rows PySem.Calls
namespace Mine
theorem pick_all (items : Array Value) : (slicePick items (some 0) none none).toList = items.toList := by
  have hb : sliceBounds (some 0) none none items.size = (((0 : Nat) : Int), ((items.size : Nat) : Int), 1) := by
    unfold sliceBounds
    simp
    omega
  rw [kmk_pick_nat items hb]
  show List.take (items.size - 0) (items.toList.drop 0) = items.toList
  exact List.take_of_length_le (by simp)
theorem ns_upd {h : Heap} {L a : Addr} {m : Str → Option Value} (f : Array Value → Array Value) (hn : h.Ns L m) (hne : L ≠ a) : (h.update a (Obj.mapSeq f)).Ns L m := by
  obtain ⟨o, es, ep, hL, hr⟩ := hn
  exact ⟨o, es, ep, ((Heap.SameBut.update ..).2 _ hne).trans hL, hr⟩
section
variable {w : World} {h₀ : Heap} {mg mb : Str → Option Value} {ρ : List Addr} {S S₁ : MS} {q : Sta} {env : Env} {A : Around} {E : Value → Shared → Prop} {s : Shared} {i d : Nat} {a : Addr} {vs : List MV} {r : MV}
theorem acc_slice0 {env' : Env} {m : Str → Option Value} {ad : Addr} {items : Array Value} {sz : Nat} {t : Tok} {p0 p1 p2 p3 : Pos} {Q : Value → Shared → Prop} (hk : env'.scope.kind = .function) (h1 : env'.kindOf "self" = some .local) (h2 : env'.kindOf "i" = some .local)
    (X : (hd.heap_1 w.params).In s.heap) (ha : s.heap.get? a = some (accObj ad items sz)) (hns : s.heap.Ns env'.locals m) (m1 : m "self" = some (.ref a)) (m2 : m "i" = some (.int 0 t)) (hsz : items.size ≤ 4096)
    (h : Q (.ref (s.heap.objs.size + 1)) { s with heap := (s.heap.push { cls := .type "slice", data := .fields #[.int 0 t, .none, .none] }).push { cls := .type "list", data := .seq (slicePick items (some 0) none none) } }) :
    wpAny (model lawP w) A (eval (.Subscript (.Name "self" p0) (.Slice (some (.Name "i" p1)) none none p2) p3) env') Q E s := by
  rw [arm_eval_Subscript]
  refine wpAny_bind (wpAny_Name (wpAny_loadName_local hk h1 hns m1 ?_) (by decide))
  refine wpAny_bind (wpAny_holding (wpAny_Slice ?_))
  rw [evalPart_some, evalPart_none]
  refine wpAny_Name (wpAny_loadName_local hk h2 hns m2 ?_) (by decide)
  refine wpAny_pure (wpAny_pure ?_)
  have k : Stays s.heap (s.heap.push { cls := .type "slice", data := .fields #[.int 0 t, .none, .none] }) := push_stays _ _
  refine wpAny_bind (wpAny_standAt (wpAny_bind (acc_noPy (s := { s with heap := s.heap.push { cls := .type "slice", data := .fields #[.int 0 t, .none, .none] } }) (X.keeps k) (k _ _ ha) (wpAny_bind (wpAny_subscripted (wpAny_mono (Q := fun v s' => Q v s') (E := E) ?_ (fun r s' hr => ?_) fun _ _ x => x))))))
  · refine acc_slice (s := { s with heap := s.heap.push { cls := .type "slice", data := .fields #[.int 0 t, .none, .none] } }) (lo := some 0) (hi := none) (st := none) (X.keeps k) (k _ _ ha) ⟨_, Heap.get?_push_size _ rfl, rfl, rfl⟩ (.int _ _) .none .none nofun ?_ (Nat.le_trans hsz (by decide))
    rw [Heap.size_push]
    exact h
  · exact wpAny_bind (wpAny_letTemporaryGo (wpAny_pure hr))
theorem acc_pop {n : Nat} (R0 : GrK w h₀ mg mb) {Q : Value → Shared → Prop} (hA : AOk n A) (R : Rel (GK w h₀ mg mb) ρ S q env s.heap) (hob : S.objs[i]? = some (.acc d vs)) (ea : ρ[i]? = some a) (hl : vs.length ≤ stopLen)
    (hQ : Post (GK w h₀ mg mb) ρ { S with objs := (S.objs ++ [MO.list vs]).set i (.acc d []) } q env s VR (.ref S.objs.length) Q) : wpAny (model lawP w) A (call (.ref 106) [.ref a]) Q E s := by
  obtain ⟨items, sz, ad, ed, e, p⟩ := R.at hob ea
  have hsz : vs.length = items.size := pd_len p
  have hst : stopLen = 4096 := rfl
  have X := KIn R0 R.keep
  obtain ⟨t, h99⟩ : ∃ t, s.heap.get? 99 = some { cls := .type "tuple", data := .seq #[.int 0 t] 0 } := ⟨_, X 99 _ rfl⟩
  refine wpAny_call (codeAny_call_def (binds := [(("self" : Str), .ref a), (("i" : Str), .int 0 t)]) (by have := hA.depth; exact llt [_, _, _] [.lt (.a (.a (.v 0) (.v 2)) (.n 10)) (.v 1)] [1] (.v 0) (.v 1) (by exact yes) this) (X 106 _ rfl) rfl (R0.nl.keeps R.keep) (codeRec_of X rfl) rfl (.of_defaults rfl h99 rfl rfl rfl) (by decide) (fun x hx => by
    rcases List.mem_cons.mp hx with rfl | hx
    · rfl
    · rcases List.mem_cons.mp hx with rfl | hx
      · rfl
      · cases hx) (fun h₁ hns hk₁ => ?_))
  refine wpAny_execs_cons (wpAny_Assign_Name (acc_slice0 rfl rfl rfl (X.keeps hk₁) (hk₁ _ _ e) hns rfl rfl (by exact lle [_, _, _] [.le (.v 1) (.v 2), .eq (.v 1) (.v 0), .eq (.v 2) (.n 4096)] [1, -1, 1] (.v 0) (.n 4096) (by exact yes) hl hsz hst) ?_))
  have k1 : Stays h₁ ((h₁.push { cls := .type "slice", data := .fields #[.int 0 t, .none, .none] }).push { cls := .type "list", data := .seq (slicePick items (some 0) none none) }) := fun b o h => push_stays _ _ _ _ (push_stays _ _ _ _ h)
  have hls : ((h₁.push { cls := .type "slice", data := .fields #[.int 0 t, .none, .none] }).push { cls := .type "list", data := .seq (slicePick items (some 0) none none) }).get? (h₁.objs.size + 1) = some { cls := .type "list", data := .seq (slicePick items (some 0) none none) } := by
    have := Heap.get?_push_size (h₁.push { cls := .type "slice", data := .fields #[.int 0 t, .none, .none] }) (o := { cls := .type "list", data := .seq (slicePick items (some 0) none none) }) rfl
    rwa [Heap.size_push] at this
  generalize ((h₁.push { cls := .type "slice", data := .fields #[.int 0 t, .none, .none] }).push { cls := .type "list", data := .seq (slicePick items (some 0) none none) }) = h₂ at k1 hls ⊢
  have hLs : ∀ b o, s.heap.get? b = some o → b ≠ s.heap.objs.size := fun b o h => Nat.ne_of_lt (Heap.lt_size h)
  obtain ⟨oL, hoL⟩ : ∃ oL, h₁.get? s.heap.objs.size = some oL := by
    obtain ⟨o, _, _, h, _⟩ := hns
    exact ⟨o, h⟩
  have hlt : s.heap.objs.size < h₁.objs.size := Heap.lt_size hoL
  refine wpAny_storeName_local rfl (hns.keeps k1) (fun h₃ hns₃ sb₃ => ?_)
  have k3 : Stays s.heap h₃ := fun b o h => (sb₃.2 b (hLs b o h)).trans (k1 _ _ (hk₁ _ _ h))
  have hls₃ : h₃.get? (h₁.objs.size + 1) = some { cls := .type "list", data := .seq (slicePick items (some 0) none none) } := (sb₃.2 _ (by show h₁.objs.size + 1 ≠ s.heap.objs.size; exact fun hz => lif [_, _] [.eq (.a (.v 0) (.n 1)) (.v 1), .lt (.v 1) (.v 0)] [1, 1] (by exact yes) hz hlt)).trans hls
  refine wpAny_execs_cons (wpAny_Assign_Subscript ?_)
  rw [arm_eval_List]
  refine wpAny_bind (wpAny_standAt (wpAny_bind (Calls.spliced_nil ?_)))
  unfold newList
  refine wpAny_newObj_type ?_ (show (#[] : Array Value).size ≤ sizeLine by decide)
  have k4 : Stays h₃ (h₃.push { cls := .type "list", data := .seq #[] }) := push_stays _ _
  refine wpAny_Name (wpAny_loadName_local rfl rfl (hns₃.keeps k4) rfl ?_) (by decide)
  refine wpAny_Slice ?_
  rw [evalPart_some, evalPart_none]
  refine wpAny_Name (wpAny_loadName_local rfl rfl (hns₃.keeps k4) rfl ?_) (by decide)
  refine wpAny_pure (wpAny_pure ?_)
  have hem : (h₃.push { cls := .type "list", data := .seq #[] }).get? h₃.objs.size = some { cls := .type "list", data := .seq #[] } := Heap.get?_push_size _ rfl
  have hsl := Heap.get?_push_size (h₃.push { cls := .type "list", data := .seq #[] }) (o := { cls := .type "slice", data := .fields #[.int 0 t, .none, .none] }) rfl
  have k5 : Stays (h₃.push { cls := .type "list", data := .seq #[] }) ((h₃.push { cls := .type "list", data := .seq #[] }).push { cls := .type "slice", data := .fields #[.int 0 t, .none, .none] }) := push_stays _ _
  have hne : a ≠ h₃.objs.size := Nat.ne_of_lt (Heap.lt_size (k3 _ _ e))
  have hnL : s.heap.objs.size ≠ a := Ne.symm (hLs _ _ e)
  have ks : Stays s.heap ((h₃.push { cls := .type "list", data := .seq #[] }).push { cls := .type "slice", data := .fields #[.int 0 t, .none, .none] }) := fun b o h => k5 _ _ (k4 _ _ (k3 _ _ h))
  have hls₅ := k5 _ _ (k4 _ _ hls₃)
  have hns₅ := (hns₃.keeps k4).keeps k5
  have hem₅ := k5 _ _ hem
  generalize (h₃.push { cls := .type "list", data := .seq #[] }).push { cls := .type "slice", data := .fields #[.int 0 t, .none, .none] } = h₅ at ks hls₅ hns₅ hem₅ hsl ⊢
  refine acc_clear (t := t) (X.keeps ks) (ks _ _ e) ⟨_, hsl, rfl, rfl⟩ hem₅ hne (by exact lle [_, _, _] [.le (.v 1) (.v 2), .eq (.v 1) (.v 0), .eq (.v 2) (.n 4096)] [1, -1, 1] (.v 0) (.n 4096) (by exact yes) hl hsz hst) (fun f hf => ?_)
  have hns₆ := ns_upd f hns₅ hnL
  refine wpAny_execs_cons (wpAny_Return_some (wpAny_Name (wpAny_loadName_local rfl rfl hns₆ rfl ?_) (by decide)))
  have hnone : s.heap.get? (h₁.objs.size + 1) = none := by
    cases hq : s.heap.get? (h₁.objs.size + 1) with
    | none => rfl
    | some o => exact absurd (Heap.lt_size hq) (Nat.not_lt.mpr (Nat.le_succ_of_le (Nat.le_of_lt hlt)))
  have Rn : Rel (GK w h₀ mg mb) (ρ ++ [h₁.objs.size + 1]) { S with objs := S.objs ++ [.list vs] } q env h₅ := R.new (o := .list vs) ks hnone ⟨slicePick items (some 0) none none, ⟨0, hls₅⟩, by rw [pick_all]; exact p.pre .app⟩
  have hv : VR (ρ ++ [h₁.objs.size + 1]) (.ref S.objs.length) (.ref (h₁.objs.size + 1)) := by
    rw [← R.len]
    exact .ref (by simp)
  exact upd_acc_done (s := ⟨h₅, s.gens, s.drawn, _, s.os⟩) R0 Rn (d₀ := d) (vs₀ := vs) (by show (S.objs ++ [_])[i]? = _; rw [List.getElem?_append_left (List.getElem?_eq_some_iff.mp hob).1]; exact hob) (Pre.app _ _ ea) (Pre.app _ _ ed) (ks _ _ e) (by rw [hf]; exact .nil) hv (hQ.after ((Ext.grow ks).adopt hnone))
end
end Mine
end
section
open PySem PySem.W PyProof.Rows PySem.Calls
namespace Mine
section
variable {w : World} {h₀ : Heap} {mg mb : Str → Option Value}
theorem accMeth_ok (R0 : GrK w h₀ mg mb) : AccMeth (GK w h₀ mg mb) where
  callee := accMeth_callee R0
  insert := fun _ R ho ea hl hx hQ => accMeth_insert R0 R ho ea hl hx hQ
  count := fun hA R ho ea hl hQ f hf => by
    cases hf
    exact acc_count R0 hA R ho ea hl hQ
  pop := fun hA R ho ea hl hQ f hf => by
    cases hf
    exact acc_pop R0 hA R ho ea hl hQ
theorem acc_keep (R0 : GrK w h₀ mg mb) (h : Heap) (hs : Stays h₀ h) : KeepOk (GK w h₀ mg mb) h (.ref 153) := by
  have X := KIn R0 hs
  exact keeps_K (K := hd.heap_1 w.params) (f := .ref 153) (by rfl) h X
end
end Mine
end
section
open PySem PySem.W PyProof.Rows PySem.Calls
namespace Mine
section
variable {w : World} {A : Around} {R : Result → Shared → Prop} {h : Heap} {g : Array GenState} {d : Drawn} {t : Nat} {os : OsState} {prog : Program}
theorem acc_made {M : Model} (X : (hd.heap_1 w.params).In h) : Looks M h (Bind.madeBy (.ref 153)) (some "list.__new__") := by
  intro A Q E s k q
  unfold Bind.madeBy
  refine wpAny_bind (acc_mro X A _ E s k ?_)
  rw [List.forIn_cons]
  refine wpAny_bind (wpAny_bind (wpAny_bind (wpAny_bind (wpAny_loadPart (k _ _ (X 153 _ rfl)) (wpAny_pure ?_)))))
  exact wpAny_pure (wpAny_pure (wpAny_pure q))
theorem acc_base {M : Model} (X : (hd.heap_1 w.params).In h) : Looks M h (Bind.staticBase (.ref 153)) (.ref 153) := by
  intro A Q E s k q
  unfold Bind.staticBase
  refine wpAny_bind (acc_mro X A _ E s k ?_)
  rw [List.forIn_cons]
  exact wpAny_bind (wpAny_bind (wpAny_bind (acc_made X A _ E s k (wpAny_pure (wpAny_pure (wpAny_pure q))))))
theorem ln_kind : builtinKind "list.__new__" = some .builtinFn := by decide +kernel
theorem ln_split : splitId "list.__new__" = some ("list", "__new__") := by decide +kernel
theorem new_L {v : Value} (X : (hd.heap_1 w.params).In h)
    (hq : R (.ok (.ret (.ref (h.objs.size + 1)))) ⟨(h.push emptyDict).push (accObj h.objs.size #[] 0), g, d, t, os⟩) :
    codeAny (model prog w) A (.call (.builtin "list.__new__") ⟨.ref 153 :: [v], []⟩) R ⟨h, g, d, t, os⟩ := by
  refine codeAny_call_builtin_code (Code.quiet_builtin _ (by decide +kernel)) ?_
  simp only [checkBuiltinCall, ln_kind, ln_split]
  rw [if_pos (by decide)]
  refine wpAny_bind (ks_wpAny_isType_cls (X 153 _ rfl) rfl ?_)
  rw [if_neg (by decide)]
  refine wpAny_bind (Looks.at (acc_sub X _) ?_)
  rw [if_neg (by decide)]
  refine wpAny_bind (Looks.at (acc_base X) ?_)
  refine wpAny_bind (Looks.at (acc_made X) ?_)
  dsimp only
  rw [if_neg (by simp)]
  have hck : (match Manifest.signature? "list.__new__" with
    | some sig => Bind.checkArgs "list.__new__" sig { pos := Value.ref 153 :: [v] }
    | x => pure ()) = pure () := by kernel_rfl
  refine wpAny_of_eq hck ?_
  refine codeAny_builtin_stack F.entry_list_new rfl fun p st => ?_
  dsimp only
  rw [owner_list_new]
  refine wpAny_bind (ks_wpAny_isType_cls (X 153 _ rfl) rfl ?_)
  rw [if_neg (by decide)]
  refine wpAny_bind (Looks.at (acc_sub X _) ?_)
  rw [if_neg (by decide)]
  refine wpAny_bind (wpAny_pure ?_)
  rw [if_neg (by decide)]
  refine wpAny_bind (m := newDict) ?_
  unfold newDict
  refine wpAny_newObj_type ?_
  dsimp only
  refine wpAny_bind (m := newObj _ _ _) ?_
  unfold newObj
  dsimp only
  rw [if_neg (by decide)]
  unfold newObjAsIs classHasDel
  refine wpAny_bind (wpAny_alloc (wpAny_bind (wpAny_bind (wpAny_load (Heap.get?_push_of_some _ (Heap.get?_push_of_some _ (X 153 _ rfl))) (wpAny_pure ?_)))))
  refine wpAny_pure (wpAny_pure ?_)
  show R _ _
  rw [Heap.size_push]
  exact hq
end
end Mine
end
section
open PySem PySem.W PyProof.Rows PySem.Calls
namespace Mine
section
variable {w : World} {A : Around} {R : Result → Shared → Prop} {h : Heap} {g : Array GenState} {d : Drawn} {t : Nat} {os : OsState} {prog : Program}
theorem make_L {v : Value} (X : (hd.heap_1 w.params).In h)
    (hq : codeAny (model prog w) (A.under (.builtin "type.__call__" ⟨.ref 153 :: [v], []⟩)) (.call (.ref 91) ⟨.ref (h.objs.size + 1) :: [v], []⟩) (InitBack (h.objs.size + 1) R) ⟨(h.push emptyDict).push (accObj h.objs.size #[] 0), g, d, t, os⟩) :
    codeAny (model prog w) A (.call (.ref 153) ⟨[v], []⟩) R ⟨h, g, d, t, os⟩ := by
  have hC := X 153 _ rfl
  have call : Looks (model prog w) h (specialOf (.ref 153) "__call__") (some (.builtin "type.__call__")) := looks_specialIn X rfl
  have typ : Looks (model prog w) h (isInstance (.ref 153) (.type "type")) true := looks_instIn X rfl
  have made : Looks (model prog w) h (typeLookup (.ref 153) "__new__") (some (.builtin "list.__new__")) := looks_findIn X rfl
  have hi : Looks (model prog w) h (typeLookup (.ref 153) "__init__") (some (.ref 91)) := looks_findIn X rfl
  have self : Looks (model prog w) h (isSubtype (.ref 153) (.ref 153)) true := acc_sub X _
  refine codeAny_of_tree ?_
  show wpAny _ _ (callAny (.ref 153) _) _ _ _
  refine nd_load hC ?_
  show wpAny _ _ (callAny.viaDunder (.ref 153) _) _ _ _
  unfold callAny.viaDunder
  refine wpAny_bind (call.at ?_)
  dsimp only
  rw [tc_bind]
  refine wpAny_bind (wpAny_pure (wpAny_bind (wpAny_pure ?_)))
  refine wpAny_pure (a := Fin.again (.call (.builtin "type.__call__") ⟨.ref 153 :: [v], []⟩)) (And.intro rfl ?_)
  refine codeAny_call_builtin_at (Code.quiet_builtin _ (by decide +kernel)) entry_typeCall (check_slot tc_kind tc_split typ (tc_args _ _ _) ?_)
  unfold Builtin.«type.__call__»
  have hm : Looks (model prog w) h (mroOf (.ref 153)) [.ref 153, .type "list", .type "object"] := acc_mro X
  repeat (first | simp only [Bool.false_eq_true, if_false] | with_reducible refine wpAny_call ?_ | lk)
  refine new_L X ?_
  have k : ∀ b o, h.get? b = some o → ((h.push emptyDict).push (accObj h.objs.size #[] 0)).get? b = some o := fun b o e => Heap.get?_push_of_some _ (Heap.get?_push_of_some _ e)
  have hx : ((h.push emptyDict).push (accObj h.objs.size #[] 0)).get? (h.objs.size + 1) = some (accObj h.objs.size #[] 0) := by heap_get
  have t1 : Looks (model prog w) ((h.push emptyDict).push (accObj h.objs.size #[] 0)) (typeOf (.ref (h.objs.size + 1))) (.ref 153) := (Looks.ld hx).andThen .now
  have s1 := self.keeps k
  have i1 := hi.keeps k
  have b1 := (bind_fn (M := model prog w) X (.ref (h.objs.size + 1)) (f := 91) rfl).keeps k
  unfold isInstance callSpecial? specialOf
  repeat (first | with_reducible refine wpAny_call ?_ | lk)
  refine codeAny_mono hq fun r s' z => ?_
  rcases r with e | (v | _ | _ | _) <;> first | exact z | exact z.elim | skip
  obtain ⟨rfl, z⟩ := z
  exact wpAny_pure (wpAny_pure z)
end
end Mine
end
section
open PySem PySem.W PyProof.Rows PySem.Calls Builtin Builtin.ObjectAttr Builtin.Getset_descriptor
namespace Mine
theorem refuse_list (self : Value) : refuseLoop self "__setattr__" [.type "list", .type "object"] = pure () := by kernel_rfl
section
variable {w : World} {A : Around} {E : Value → Shared → Prop} {R : Result → Shared → Prop} {h : Heap} {g : Array GenState} {d : Drawn} {t : Nat} {os : OsState} {prog : Program} {x dx : Addr}
noncomputable abbrev sizeObj (w : World) (k : Nat) (v : Value) : Obj := { cls := .type "dict", data := .dict #[⟨PyData.keyHash w.params "_initial_size", .str "_initial_size" k, v⟩] 1 }
theorem acc_setsize {v : Value} {Q : Unit → Shared → Prop} (X : (hd.heap_1 w.params).In h) (hx : h.get? x = some (accObj dx #[] 0)) (hd : h.get? dx = some emptyDict)
    (hq : ∀ h', h'.get? dx = some (sizeObj w (t + 1) v) → (∀ b o, b ≠ dx → h.get? b = some o → h'.get? b = some o) → Q () ⟨h', g, d, t + 2, os⟩) :
    wpAny (model prog w) A (setAttr (.ref x) "_initial_size" v) Q E ⟨h, g, d, t, os⟩ := by
  have I : InstAt h x (accObj dx #[] 0) 153 (some emptyDict) := ⟨hx, rfl, rfl, hd⟩
  refine set_plain (s := ⟨h, g, d, t, os⟩) X I rfl ?_
  have SF := PySem.F.store_object
  have sub : Looks (model prog w) h (isInstance (.ref x) (.type "object")) true := acc_inst X hx _
  refine codeAny_call_builtin SF.slot.plain SF.entry (@check_slot (model prog w) _ _ ⟨h, g, d, t + 1, os⟩ "object.__setattr__" "object" "__setattr__" (.ref x) _ [] _ SF.kind SF.split sub (SF.args (.ref x) (.str "_initial_size" t) v) ?_)
  have hm : Looks (model prog w) h (mroOf (.ref 153)) [.ref 153, .type "list", .type "object"] := acc_mro X
  have hl : Looks (model prog w) h (typeLookup (.ref 153) "_initial_size") none := looks_findIn X rfl
  rw [osa_eq, refuse_eq]
  refine wpAny_bind (wpAny_bind (I.type.here (wpAny_bind (hm.here ?_))))
  rw [refuseLoop_ref, refuse_list]
  refine wpAny_pure (wpAny_bind (I.type.here (wpAny_bind (hl.here (wpAny_bind (wpAny_pure ?_))))))
  dsimp only
  refine wpAny_bind (wpAny_pure (wpAny_bind (wpAny_bind (wpAny_loadPart hx (wpAny_bind ((looks_clsIn X (C := 153) rfl).here ?_))))))
  refine wpAny_pure (a := some dx) (wpAny_bind (wpAny_pure (wpAny_bind ?_)))
  unfold nsSet
  refine wpAny_bind (wpAny_bind (wpAny_askSetting (wpAny_pure (wpAny_bind (wpAny_mkText (wpAny_bind (wpAny_loadPart hd ?_)))))))
  dsimp only
  rw [aRefKeyMayBeTheName_at, show (!(#[] : Array DictEntry).any (·.key.isStr (Str.ofString "_initial_size")) && (#[] : Array DictEntry).any (·.refKey)) = false from by simp]
  refine wpAny_updatePart hd ?_
  have hd' : (h.update dx (Obj.putName (Str.ofString "_initial_size") (PyData.keyHash w.params (Str.ofString "_initial_size")) (.str (Str.ofString "_initial_size") (t + 1)) v)).get? dx = some (sizeObj w (t + 1) v) := Heap.get?_update_self _ hd rfl
  refine wpAny_bind (wpAny_lookBehind hd' (pastItsLine_dict (by simp [sizeLine_eq])) ?_)
  exact wpAny_pure (hq _ hd' fun b o hb e => (Heap.get?_update_other _ _ (Ne.symm hb)).trans e)
end
theorem type_li : typeOf (.builtin "list.__init__") = pure (.type "wrapper_descriptor") := type_list_init
theorem bound_init (x : Addr) : checkBoundCall "list.__init__" ⟨[.ref x], []⟩ = pure () := by first | kernel_rfl | rfl
section
variable {w : World} {h₀ : Heap} {mg mb : Str → Option Value} {A : Around} {E : Value → Shared → Prop} {R : Result → Shared → Prop} {s : Shared} {x dx : Addr}
theorem acc_init_plain {A : Around} {Q : Fin → Shared → Prop} {prog : Program} (hx : s.heap.get? x = some (accObj dx #[] 0)) (h : Q (.done (.ret .none)) { s with heap := s.heap.update x (Obj.mapSeq fun _ => #[]) }) :
    wpAny (model prog w) A (Builtin.«list.__init__» ⟨[.ref x], []⟩) Q E s := by
  obtain ⟨hp, g, d, tk, os⟩ := s
  unfold Builtin.«list.__init__»
  wp_walk using (wpAny_seqItems hx rfl), (wpAny_updateSeq hx rfl), wpAny_letGo
  all_goals exact h
theorem init_L {k : Int} {tk : Tok} (R0 : GrK w h₀ mg mb) (hs : Stays h₀ s.heap) (hdep : A.depth < recursionLimit) (hx : s.heap.get? x = some (accObj dx #[] 0)) (hdd : s.heap.get? dx = some emptyDict) (h0 : h₀.get? dx = none ∧ h₀.get? x = none)
    (hQ : ∀ h' tk' kk n', h'.get? dx = some (sizeObj w kk (.int k tk)) → h'.get? x = some (accObj dx #[] n') → (∀ b o, b ≠ dx → b ≠ x → s.heap.get? b = some o → h'.get? b = some o) → R (.ok (.ret .none)) { s with heap := h', toks := tk' }) :
    codeAny (model lawP w) A (.call (.ref 91) ⟨[.ref x, .int k tk], []⟩) R s := by
  have X := KIn R0 hs
  obtain ⟨t, h83⟩ : ∃ t, s.heap.get? 83 = some { cls := .type "tuple", data := .seq #[.int 0 t] 0 } := ⟨_, X 83 _ rfl⟩
  refine ks_codeAny_call_defAt (binds := [(("self" : Str), .ref x), (("initial_size" : Str), .int k tk)]) hdep (X 91 _ rfl) rfl (R0.nl.keeps hs) (codeRec_of X rfl) rfl (.of_defaults (T := 83) rfl h83 rfl rfl rfl) (by decide) (fun x hx => by
    rcases List.mem_cons.mp hx with rfl | hx
    · rfl
    · rcases List.mem_cons.mp hx with rfl | hx
      · rfl
      · cases hx) (fun h₁ hns hk₁ => ?_)
  refine ks_wpAt_execs_cons (ks_wpAt_Assign_Attr (wpAt_of_any (wpAny_Name (wpAny_loadName_local rfl rfl hns rfl (wpAny_Name (wpAny_loadName_local rfl rfl hns rfl ?_) (by decide))) (by decide))))
  refine acc_setsize (X.keeps hk₁) (hk₁ _ _ hx) (hk₁ _ _ hdd) fun h₂ hd₂ hk₂ => ?_
  have hdx : dx ≠ x := fun e => by
    rw [e, hx] at hdd
    cases hdd
  have hL : dx ≠ s.heap.objs.size := Nat.ne_of_lt (Heap.lt_size hdd)
  have k2 : ∀ b o, b ≠ dx → s.heap.get? b = some o → h₂.get? b = some o := fun b o hb e => hk₂ b o hb (hk₁ b o e)
  refine ks_wpAt_execs_cons (ks_wpAt_Expr_any (ks_wpAt_MethodCall ?_))
  refine acc_node (s := ⟨h₂, s.gens, s.drawn, _, s.os⟩) R0 (fun b o e => ?_) (k2 _ _ (Ne.symm hdx) hx) (Ns.but hk₂ (Ne.symm hL) hns) (f := 91) (cda := 90) rfl rfl rfl rfl rfl rfl (by decide +kernel) rfl rfl rfl (by decide) rfl rfl rfl rfl (fun h₃ e3 k3 => ?_)
  · exact k2 b o (fun q => by rw [q, h0.1] at e; cases e) (hs b o e)
  have X₃ : (hd.heap_1 w.params).In h₃ := KIn R0 fun b o e => k3 b o (k2 b o (fun q => by rw [q, h0.1] at e; cases e) (hs b o e))
  have hx₃ := k3 _ _ (k2 _ _ (Ne.symm hdx) hx)
  refine super_getMethod X₃ e3 hx₃ (i := "list.__init__") rfl (.inr rfl) (by decide) ?_
  refine mw_call (Heap.get?_push_at rfl rfl) (bound_init x) (Code.quiet_builtin _ (by decide +kernel)) PySem.F.entry_list_init fun A' => ?_
  refine acc_init_plain (Heap.get?_push_of_some _ hx₃) ⟨_, rfl, ?_⟩
  have hx₄ := Heap.get?_push_of_some (mwObj "list.__init__" x) hx₃
  refine wpAt_of_any (wpAny_execs_nil ?_)
  have k4 : ∀ b o, b ≠ dx → s.heap.get? b = some o → (h₃.push (mwObj "list.__init__" x)).get? b = some o := fun b o hb e => Heap.get?_push_of_some _ (k3 b o (k2 b o hb e))
  refine hQ _ _ (s.toks + 2 + 1) 0 ?_ ?_ fun b o e1 e2 e => ?_
  · exact (Heap.get?_update_other _ _ (Ne.symm hdx)).trans (Heap.get?_push_of_some _ (k3 _ _ hd₂))
  · exact Heap.get?_update_self _ hx₄ rfl
  · exact (Heap.get?_update_other _ _ (Ne.symm e2)).trans (k4 b o e1 e)
end
end Mine
end
section
open PySem PySem.W PyProof.Rows PySem.Calls
namespace Mine
theorem sizeKey_ok : (Str.ofString "_initial_size").cps.toList = sizeKey := rfl
theorem size_dict {w : World} {h : Heap} {a : Addr} {kk : Nat} {v : Value} (e : h.get? a = some (sizeObj w kk v)) : h.DictOf (_root_.PySem.strKind lawP w) a [((Str.ofString "_initial_size"), v)] := by
  refine ⟨_, _, _, e, ⟨rfl, rfl, rfl⟩, rfl, fun en he => ?_, ?_, by simp⟩
  · simp only [List.mem_toArray, List.mem_singleton] at he
    subst he
    exact ⟨Str.ofString "_initial_size", by show (Str.ofString "_initial_size" == Str.ofString "_initial_size") = true; exact beq_self_eq_true _, rfl⟩
  · exact .cons (by show (Str.ofString "_initial_size" == Str.ofString "_initial_size") = true; exact beq_self_eq_true _) rfl .nil
section
variable {w : World} {h₀ : Heap} {mg mb : Str → Option Value} {ρ : List Addr} {S : MS} {q : Sta} {env : Env} {A : Around} {E : Value → Shared → Prop} {s : Shared} {Q : Value → Shared → Prop} {k : Int} {t : Tok}
theorem acc_make {n : Nat} (R0 : GrK w h₀ mg mb) (hA : AOk n A) (R : Rel (GK w h₀ mg mb) ρ S q env s.heap)
    (hQ : Post (GK w h₀ mg mb) ρ { S with objs := S.objs ++ [.dict [(sizeKey, .int k)]] ++ [.acc S.objs.length []] } q env s VR (.ref (S.objs.length + 1)) Q) : wpAny (model lawP w) A (call (.ref 153) [.int k t] []) Q E s := by
  have X := KIn R0 R.keep
  obtain ⟨hh, g, d, tk, os⟩ := s
  have hn0 : hh.get? hh.objs.size = none := size_none _
  have hn1 : hh.get? (hh.objs.size + 1) = none := Heap.get?_none_of_le (Nat.le_succ _)
  have up : Stays hh ((hh.push emptyDict).push (accObj hh.objs.size #[] 0)) := fun b o e => push_stays _ _ _ _ (push_stays _ _ _ _ e)
  have hlow : ∀ a, hh.get? a = none → h₀.get? a = none := fun a e => by
    cases hq : h₀.get? a with
    | none => rfl
    | some o => rw [R.keep _ _ hq] at e; cases e
  refine wpAny_call (make_L X (init_L (x := hh.objs.size + 1) (dx := hh.objs.size) R0 (fun b o e => up b o (R.keep b o e)) ?_ ?_ ?_ ⟨hlow _ hn0, hlow _ hn1⟩ fun h' tk' kk n' e1 e2 k' => ⟨rfl, ?_⟩))
  · have hw : (Code.builtin "type.__call__" ⟨[Value.ref 153, Value.int k t], []⟩).weight = 1 := by
      have h1 : ∀ (a : Addr) (l : List Value), (Code.builtin "type.__call__" ⟨Value.ref a :: l, []⟩).weight = 1 := fun a l => by kernel_rfl
      exact h1 _ _
    have := hA.depth
    show A.depth + (Code.builtin "type.__call__" ⟨[Value.ref 153, Value.int k t], []⟩).weight < recursionLimit
    rw [hw]
    exact llt [_, _, _] [.lt (.a (.a (.v 0) (.v 2)) (.n 10)) (.v 1)] [1] (.a (.v 0) (.n 1)) (.v 1) (by exact yes) this
  · have := Heap.get?_push_size (hh.push emptyDict) (o := accObj hh.objs.size #[] 0) rfl
    rwa [Heap.size_push] at this
  · exact Heap.get?_push_of_some _ (Heap.get?_push_size _ rfl)
  have kf : Stays hh h' := fun b o e => k' b o (Nat.ne_of_lt (Heap.lt_size e)) (Nat.ne_of_lt (Nat.lt_succ_of_lt (Heap.lt_size e))) (up b o e)
  show Q _ _
  have R₁ : Rel (GK w h₀ mg mb) (ρ ++ [hh.objs.size]) { S with objs := S.objs ++ [.dict [(sizeKey, .int k)]] } q env (hh.push (sizeObj w kk (.int k t))) :=
    R.new (push_stays _ _) hn0 ⟨_, size_dict (Heap.get?_push_size _ rfl), .cons ⟨sizeKey_ok, .int _ _⟩ .nil⟩
  have kd : Stays (hh.push (sizeObj w kk (.int k t))) h' := fun b o e => by
    rcases Heap.get?_push_cases e with ⟨rfl, rfl⟩ | e
    · exact e1
    · exact kf b o e
  have hnone : (hh.push (sizeObj w kk (.int k t))).get? (hh.objs.size + 1) = none := Heap.get?_none_of_le (by rw [Heap.size_push]; exact Nat.le_refl _)
  have hi : (ρ ++ [hh.objs.size] ++ [hh.objs.size + 1])[S.objs.length]? = some hh.objs.size := by rw [← R.len]; simp
  have R₂ := R₁.new (o := .acc S.objs.length []) kd hnone ⟨#[], n', hh.objs.size, hi, e2, .nil⟩
  refine hQ ⟨h', g, d, tk', os⟩ _ _ R₂ ⟨Pre.trans Pre.app Pre.app, fun a ha => ?_, fun a o e _ _ _ => kf a o e, fun a o e => ⟨o, kf a o e⟩, fun h => h, rfl, rfl⟩ ?_
  · simp only [List.mem_append, List.mem_singleton] at ha
    rcases ha with (ha | rfl) | rfl
    · exact .inl ha
    · exact .inr hn0
    · exact .inr hn1
  · exact .ref (by rw [← R.len]; simp)
end
end Mine
end
section
open PySem PySem.W PyProof.Rows PySem.Calls
namespace Mine
noncomputable def shP (P : Nat → Value → Prop) : Nat → Value → Prop
  | 0, _ => False
  | i + 1, v => P i v
noncomputable def shS (St : Nat → Shared → Prop) : Nat → Shared → Prop
  | 0, _ => False
  | i + 1, s => St i s
noncomputable def shV (z : Int) (val : Nat → Int) : Nat → Int
  | 0 => z
  | i + 1 => val i
theorem shift_walk {prog : Program} {w : World} {A : Around} {I : Addr} {fp wr : List Addr} {G : Array GenState → Array GenState → Prop} {n : Nat} {P : Nat → Value → Prop} {St : Nat → Shared → Prop} (W : WalksS prog w A I fp wr G n P St) :
    WalksS prog w A I fp wr G (n + 1) (shP P) (shS St) where
  sub := W.sub
  grefl := W.grefl
  gtrans := W.gtrans
  frame := fun i s h' tk st ht hk => by
    cases i with
    | zero => exact st.elim
    | succ i => exact W.frame i s h' tk st ht hk
  item := fun i s Q E hi st hQ => by
    cases i with
    | zero => exact st.elim
    | succ i => exact W.item i s Q E (by exact llt [_, _] [.lt (.a (.v 0) (.n 1)) (.a (.v 1) (.n 1))] [1] (.v 0) (.v 1) (by exact yes) hi) st fun v s' h1 h2 h3 => hQ v s' h1 h2 h3
  done := fun s Q E st hQ => W.done s Q E st hQ
  self := fun i s Q E st hQ => by
    cases i with
    | zero => exact st.elim
    | succ i => exact W.self i s Q E st hQ
theorem preSum_shift (z : Int) (val : Nat → Int) : ∀ n, preSum (shV z val) (n + 1) = z + preSum val n
  | 0 => by simp [preSum, shV]
  | n + 1 => by
    rw [preSum, preSum_shift z val n, preSum]
    show z + preSum val n + val n = _
    omega
theorem args_sum2 (a b : Value) : argsOk "sum" ⟨[a, b], []⟩ := by unfold argsOk; kernel_rfl
section
variable {prog : Program} {w : World} {A : Around} {E : Value → Shared → Prop} {s : Shared}
theorem sum_from {x : Value} {z : Int} {tz : Tok} {Q : Value → Shared → Prop}
    (h : wpAny (model prog w) A.in1 (pyIter x) (fun it s₂ => ∃ I fp wr G n P St val, it = .ref I ∧ WalksS prog w A.in1 I fp wr G n P St ∧ St 0 s₂ ∧ (∀ b ∈ fp, b < s₂.heap.objs.size) ∧
      (∀ i v, P i v → ∃ t, v = .int (val i) t) ∧
      ∀ s' t', Moved wr G s₂ s' → Q (.int (z + preSum val n) t') s') E s) :
    wpAny (model prog w) A (call (.builtin "sum") [x, .int z tz]) Q E s := by
  refine call_function_tree F.kind_sum F.plain_sum F.entry_sum (args_sum2 _ _) ?_
  unfold Builtin.«sum»
  simp only [List.length_cons, List.length_nil]
  rw [if_neg (by decide)]
  refine wpAny_bind (wpAny_of_eq (show Builtin.Builtins.bindParams "sum" ["start"] 0 ⟨[.int z tz], []⟩ = pure [some (.int z tz)] from rfl) ?_)
  refine wpAny_bind (wpAny_mono h (fun it s₂ h₂ => ?_) fun _ _ e => e)
  obtain ⟨I, fp, wr, G, n, P, St, val, rfl, W, hst, hfp, hval, hQ⟩ := h₂
  have hSf : ∀ k, s₂.heap.objs.size ≤ k → k ∉ fp := fun k hk hm => Nat.lt_irrefl _ (Nat.lt_of_lt_of_le (hfp _ hm) hk)
  have e0 : preSum (shV z val) 1 = z := by rw [preSum_shift]; simp [preSum]
  have fin : ∀ (t' : Tok) (st : Int) (tk : Nat), s₂.toks ≤ tk → (st = 0 ∨ st = 2) → wpAny (model prog w) A.in1 (newList [.int z t'] >>= fun S => again (.builtin "sum.loop" ⟨[.ref I, S, rawInt st, rawInt 0], []⟩))
      (fun fin s' => match fin with | .done f => (match (Except.ok f : Result) with | .ok (.ret v) => Q v s' | .ok _ => False | .error e => E e s') | .again c' => c'.quiet = true ∧ codeAny (model prog w) A c' (fun r s' => match r with | .ok (.ret v) => Q v s' | .ok _ => False | .error e => E e s') s') E { s₂ with toks := tk } := by
    intro t' st tk htk hst2
    refine wpAny_bind (wpAny_newObj_type ?_)
    refine wpAny_pure ⟨plainId_quiet F.plain_sum_loop _, codeAny_sum_loopAnyS (shift_walk W) (shV z val) (fun i v hv => ?_) s₂.heap.objs.size (hSf _ (Nat.le_refl _)) n 1 _ t' 0 st hst2 (by exact leq [_, _] [.eq (.a (.v 0) (.n 1)) (.a (.v 1) (.n 1))] [1] [-1] (.v 0) (.v 1) (by exact yes) (by exact yes) (Nat.sub_add_cancel (lle [_] [] [] (.n 1) (.a (.v 0) (.n 1)) (by exact yes)))) (by exact lle [_] [] [] (.n 1) (.a (.v 0) (.n 1)) (by exact yes))
      (W.frame 0 s₂ _ _ hst htk fun b _ o e => Heap.get?_push_of_some _ e) (by rw [e0]; exact Heap.get?_push_size _ rfl) fun s' t' hm => ?_⟩
    · cases i with
      | zero => exact hv.elim
      | succ i => exact hval i v hv
    · rw [preSum_shift]
      exact hQ s' t' (hm.drop_new htk)
  dsimp only
  split
  · refine wpAny_bind (wpAny_rule ?_)
    refine wpAny_bind (wpAny_mkInt ?_)
    refine wpAny_bind ?_
    refine wpAny_pure ?_
    simp only [List.forIn_cons, List.forIn_nil]
    refine wpAny_bind (wpAny_bind (wpAny_bind (wpAny_isInstance (T := "int") (b := false) (typeIs_int _ _ _) PySem.sub_int_str ?_)))
    simp only [Bool.false_eq_true, if_false]
    refine wpAny_pure (wpAny_bind (wpAny_bind (wpAny_isInstance (T := "int") (b := false) (typeIs_int _ _ _) PySem.sub_int_bytes ?_)))
    simp only [Bool.false_eq_true, if_false]
    refine wpAny_pure (wpAny_bind (wpAny_bind (wpAny_isInstance (T := "int") (b := false) (typeIs_int _ _ _) PySem.sub_int_bytearray ?_)))
    simp only [Bool.false_eq_true, if_false]
    refine wpAny_pure (wpAny_pure ?_)
    exact fin _ 0 _ (Nat.le_succ _) (.inl rfl)
  · refine wpAny_bind (wpAny_pure ?_)
    simp only [List.forIn_cons, List.forIn_nil]
    refine wpAny_bind (wpAny_bind (wpAny_bind (wpAny_isInstance (T := "int") (b := false) (typeIs_int _ _ _) PySem.sub_int_str ?_)))
    simp only [Bool.false_eq_true, if_false]
    refine wpAny_pure (wpAny_bind (wpAny_bind (wpAny_isInstance (T := "int") (b := false) (typeIs_int _ _ _) PySem.sub_int_bytes ?_)))
    simp only [Bool.false_eq_true, if_false]
    refine wpAny_pure (wpAny_bind (wpAny_bind (wpAny_isInstance (T := "int") (b := false) (typeIs_int _ _ _) PySem.sub_int_bytearray ?_)))
    simp only [Bool.false_eq_true, if_false]
    refine wpAny_pure (wpAny_pure ?_)
    exact fin _ 2 _ (Nat.le_refl _) (.inr rfl)
end
end Mine
end
section
open PySem PySem.W PyProof.Rows PySem.Calls
namespace Mine
/-- what lies in a row, whatever its class -/
noncomputable def SeqAt' (h : Heap) (l : Addr) (items : Array Value) : Prop := ∃ o n, h.get? l = some o ∧ o.data = .seq items n
theorem SeqAt'.but {h h' : Heap} {a b : Addr} {items : Array Value} (x : SeqAt' h a items) (hs : Heap.ExtBut b h h') (hab : a ≠ b) : SeqAt' h' a items :=
  (by obtain ⟨o, n, ho, r⟩ := x; exact ⟨o, n, hs a o hab ho, r⟩)
section
variable {prog : Program} {w : World} {A : Around} {E : Value → Shared → Prop} {s : Shared}
theorem next_item {it l : Addr} {i : Nat} {items : Array Value} {x : Value} {Q : Option Value → Shared → Prop} (hit : s.heap.IsListIter it l i)
    (hl : SeqAt' s.heap l items) (hx : items[i]? = some x) (hQ : ∀ h', h'.IsListIter it l (i + 1) → Heap.SameBut it s.heap h' → Q (some x) { s with heap := h' }) :
    wpAny (model prog w) A (pyNext (.ref it)) Q E s := by
  obtain ⟨o, ho, hc, hd⟩ := id hit
  obtain ⟨ol, nl, hol, hdl⟩ := hl
  unfold pyNext
  refine wpAny_bind (wpAny_attempt (wpAny_callSpecial?_slot (name := Str.ofString "__next__") hit.typeIs slot_listiter_next
    (wpAny_call_entry slot_listiter_next hit.typeIs entry_listiter_next ?_ (args_listiter_next _))))
  show wpAny _ _ (field (.ref it) 0 >>= _) _ _ s
  refine wpAny_bind (wpAny_field ho hd (x := .ref l) rfl ?_)
  show wpAny _ _ (if (Value.ref l == Value.none) = true then _ else _) _ _ s
  rw [if_neg (show ¬ ((Value.ref l == Value.none) = true) from Bool.false_ne_true)]
  show wpAny _ _ (field (.ref it) 1 >>= _) _ _ s
  refine wpAny_bind (wpAny_field ho hd (x := .int i 0) rfl ?_)
  show wpAny _ _ (seqItems? (.ref l) >>= _) _ _ s
  refine wpAny_bind (wpAny_seqItems hol hdl ?_)
  simp only [Int.toNat_natCast, hx]
  refine wpAny_bind (wpAny_setField ho hd (by simp) (wpAny_pure ⟨x, rfl, wpAny_pure (hQ _ ?_ (Heap.SameBut.update ..))⟩))
  exact ⟨_, Heap.get?_update_self _ ho (Obj.isFreed_of_fields (Obj.data_mapFields hd _)), (Obj.cls_mapFields ..).trans hc, by
    rw [Obj.data_mapFields hd]; simp [rawInt]⟩
theorem next_end {it l : Addr} {i : Nat} {items : Array Value} {Q : Option Value → Shared → Prop} (hh : A.handled = none)
    (hit : s.heap.IsListIter it l i) (hl : SeqAt' s.heap l items) (hx : items[i]? = none)
    (hQ : ∀ h', Heap.ExtBut it s.heap h' → Q none { s with heap := h' }) : wpAny (model prog w) A (pyNext (.ref it)) Q E s := by
  obtain ⟨o, ho, hc, hd⟩ := id hit
  obtain ⟨ol, nl, hol, hdl⟩ := hl
  unfold pyNext
  refine wpAny_bind (wpAny_attempt (wpAny_callSpecial?_slot (name := Str.ofString "__next__") hit.typeIs slot_listiter_next
    (wpAny_call_entry slot_listiter_next hit.typeIs entry_listiter_next ?_ (args_listiter_next _))))
  show wpAny _ _ (field (.ref it) 0 >>= _) _ _ s
  refine wpAny_bind (wpAny_field ho hd (x := .ref l) rfl ?_)
  show wpAny _ _ (if (Value.ref l == Value.none) = true then _ else _) _ _ s
  rw [if_neg (show ¬ ((Value.ref l == Value.none) = true) from Bool.false_ne_true)]
  show wpAny _ _ (field (.ref it) 1 >>= _) _ _ s
  refine wpAny_bind (wpAny_field ho hd (x := .int i 0) rfl ?_)
  show wpAny _ _ (seqItems? (.ref l) >>= _) _ _ s
  refine wpAny_bind (wpAny_seqItems hol hdl ?_)
  simp only [Int.toNat_natCast, hx]
  refine wpAny_bind (wpAny_rule (wpAny_bind (wpAny_setField ho hd (by simp) ?_)))
  show wpAny _ _ (newExc (.type "StopIteration") [] >>= _) _ _ _
  refine wpAny_bind ?_
  simp only [newExc, newTuple]
  refine wpAny_bind (wpAny_newObj_type ?_ (by size_fits))
  refine wpAny_bind (m := firstArgMember _ _) (wpAny_of_eq (a := Value.none) (by first | rfl | (simp only [firstArgMember]; rfl)) ?_)
  refine wpAny_newObj_type ?_ (by size_fits)
  simp only [raiseNew]
  refine wpAny_bind (wpAny_handled ?_)
  rw [show A.in1.handled = none from hh]
  refine wpAny_bind (wpAny_pure (wpAny_throw ?_))
  refine wpAny_bind (wpAny_isInstance (T := "StopIteration") (b := true) ⟨_, Heap.get?_push_size _ rfl, rfl⟩ isSubtype_stop ?_)
  exact wpAny_pure (hQ _ (((Heap.SameBut.update ..).extBut.push _).push _))
/-- the walk over a row of tuples, whatever the row's class -/
theorem walk_row (hh : A.handled = none) (I ax : Addr) (hne : ax ≠ I) (items : Array Value) (Ts : Nat → Addr) (vals : Nat → Array Value)
    (hit : ∀ j, j < items.size → items[j]? = some (.ref (Ts j))) (hTI : ∀ j, j < items.size → Ts j ≠ I) :
    WalksU prog w A I (I :: ax :: (List.range items.size).map Ts) [I] items.size (fun j v => v = vals j)
      (fun j h => h.IsListIter I ax j ∧ SeqAt' h ax items ∧ ∀ k, k < items.size → h.IsTuple (Ts k) (vals k))
      (fun j T h => (j < items.size ∧ T = Ts j) ∧ h.IsListIter I ax (j + 1) ∧ SeqAt' h ax items ∧ ∀ k, k < items.size → h.IsTuple (Ts k) (vals k)) where
  sub := fun b hb => by simp at hb; simp [hb]
  frame := fun _ _ _ st hk => ⟨st.1.at fun o e => hk I (by simp) o e, (by obtain ⟨o, n, e, r⟩ := st.2.1; exact ⟨o, n, hk ax (by simp) o e, r⟩),
    fun k hk' => (st.2.2 k hk').at fun o e => hk (Ts k) (List.mem_cons_of_mem _ (List.mem_cons_of_mem _ (List.mem_map.mpr ⟨k, List.mem_range.mpr hk', rfl⟩))) o e⟩
  item := fun i s Q E hi st hQ => by
    refine next_item st.1 st.2.1 (x := .ref (Ts i)) (hit i hi) fun h' hit' hs' => ?_
    have tup : ∀ k, k < items.size → h'.IsTuple (Ts k) (vals k) := fun k hk' => (st.2.2 k hk').extBut hs'.extBut (hTI k hk')
    exact hQ (Ts i) (vals i) h' s.toks rfl (tup i hi) ⟨⟨hi, rfl⟩, hit', st.2.1.but hs'.extBut hne, tup⟩ fun b o hb e => hs'.extBut b o (fun h => hb (by simp [h])) e
  go := fun _ _ _ _ _ s Q _ hm hQ => wpAny_letOwnedTupleGo_listiter hm.2.1 (hQ s.heap hm.2 fun _ _ _ e => e)
  apart := fun j T _ hm hmem => by
    rcases List.mem_cons.mp hmem with e | e
    · exact hTI j hm.1.1 (hm.1.2 ▸ e)
    · cases e
  done := fun s Q E st hQ => next_end hh st.1 st.2.1 (by simp) fun h' he' => hQ h' s.toks fun b o hb e => he' b o (fun h => hb (by simp [h])) e
  self := fun _ _ _ _ st hQ => wpAny_pyIter_listiter st.1 hQ
end
end Mine
end
section
open PySem PySem.W PyProof.Rows PySem.Calls
namespace Mine
section
variable {w : World} {A : Around} {E : Value → Shared → Prop} {s : Shared} {a ad : Addr} {items : Array Value} {n : Nat} {prog : Program}
theorem ns_look {h : Heap} {m : Str → Option Value} {x : Str} {v : Value} (hn : h.Ns ad m) (hm : m x = some v) : ∃ od, h.get? ad = some od ∧ lookIn x od = some (some v) := by
  obtain ⟨o, es, ep, ho, hd, _, hf⟩ := hn
  refine ⟨o, ho, ?_⟩
  rw [← hf] at hm
  unfold nsFind findBy at hm
  unfold lookIn
  rw [hd]
  dsimp only
  rw [← Array.find?_toList] at hm
  generalize hq : List.find? _ es.toList = r at hm
  cases r with
  | none => cases hm
  | some e =>
    cases hm
    rfl
theorem acc_size {m : Str → Option Value} {k : Int} {t : Tok} {ex : Bool} {Q : Value → Shared → Prop} (X : (hd.heap_1 w.params).In s.heap) (ha : s.heap.get? a = some (accObj ad items n)) (hn : s.heap.Ns ad m) (hm : m "_initial_size" = some (.int k t))
    (hQ : Q (.int k t) { s with toks := s.toks + 1 }) : wpAny (model prog w) A (getAttr (.ref a) "_initial_size" ex) Q E s := by
  obtain ⟨hh, g, d, tk, os⟩ := s
  obtain ⟨od, hod, hl⟩ := ns_look hn hm
  have I : InstAt hh a (accObj ad items n) 153 (some od) := ⟨ha, rfl, rfl, hod⟩
  have hf : findObj (hd.heap_1 w.params) 153 (some od) "_initial_size" = some (.value (.int k t)) := by
    have e1 : ∃ cd, clsIn (hd.heap_1 w.params) 153 = some cd ∧ cd.hasDict = true := ⟨_, rfl, rfl⟩
    obtain ⟨cd, e1, e2⟩ := e1
    have e3 : findIn (hd.heap_1 w.params) (.ref 153) "_initial_size" = some none := rfl
    unfold findObj
    rw [e1, e3]
    show ((W.ownOf cd (some od) _).bind _) = _
    unfold W.ownOf
    rw [e2, if_pos rfl]
    dsimp only
    rw [hl]
    rfl
  have L0 := I.type (M := model prog w)
  have L1 := looks_find (M := model prog w) X I hf
  have L2 : Looks (model prog w) hh (typeLookup (.ref 153) "__getattribute__") (some (.builtin "list.__getattribute__")) := looks_findIn X rfl
  have L3 : Looks (model prog w) hh (typeLookup (.ref 153) "__getattr__") none := looks_findIn X rfl
  unfold getAttr getAttrBy
  refine wpAny_bind (wpAny_mkText (wpAny_holding (wpAny_bind (L0.at (wpAny_bind (L2.at ?_))))))
  show wpAny _ _ (getAttrByItsOwn (.ref a) (.str _ tk) (.ref 153) (.builtin "list.__getattribute__") true ex) _ _ _
  unfold getAttrByItsOwn hookBefore callGetattribute boundAndCalled
  refine wpAny_bind (m := if onTheHeap (.ref 153) then typeLookup (.ref 153) "__getattr__" else pure none) ?_
  rw [if_pos (by rfl)]
  refine L3.at ?_
  refine wpAny_bind (wpAny_attempt (wpAny_holding ?_))
  rw [if_neg (show ¬ ((ex && onTheHeap (Value.builtin "list.__getattribute__")) = true) by cases ex <;> exact Bool.false_ne_true)]
  show wpAny _ _ (bindSpecial (.builtin "list.__getattribute__") (.ref a) >>= _) _ _ _
  refine wpAny_bind (wpAny_of_eq (F.slot_list_getattribute.bind _) ?_)
  refine wpAny_mono (Q := fun v s' => v = .int k t ∧ s' = ⟨hh, g, d, tk + 1, os⟩) (E := fun _ _ => False) ?_ (fun v s' hv => ?_) fun _ _ z => z.elim
  · refine acc_builtin (s := ⟨hh, g, d, tk + 1, os⟩) X ha (nm := "__getattribute__") (by decide +kernel) (by decide +kernel) (F.args_list_getattribute_2 _ _) F.slot_list_getattribute.plain F.entry_list_ga ?_
    refine wpAny_bind (wpAny_pure (wpAny_bind (wpAny_pure (wpAny_bind (L0.at (wpAny_bind (L1.at ?_)))))))
    exact wpAny_pure ⟨_, rfl, rfl, rfl⟩
  · obtain ⟨rfl, rfl⟩ := hv
    exact wpAny_pure hQ
theorem len_L {Q : Value → Shared → Prop} (X : (hd.heap_1 w.params).In s.heap) (ha : s.heap.get? a = some (accObj ad items n))
    (h : wpAny (model prog w) A.in1 (call (.ref 120) [.ref a]) (W.LenBack Q) E s) : wpAny (model prog w) A (call (.builtin "len") [.ref a]) Q E s := by
  refine Calls.call_function_entry PySem.kind_len PySem.plain_len PySem.entry_len (PySem.args_len1 _) ?_
  unfold Builtin.«len»
  refine wpAny_bind (m := PySem.oneArg "len" _) (wpAny_pure ?_)
  refine wpAny_bind (m := callSpecial? (.ref a) (Str.ofString "__len__")) ?_
  refine wpAny_bind ((acc_special X ha (r := some (.ref 120)) rfl).here (wpAny_holding (wpAny_bind ((bind_fn X _ (f := 120) rfl).here (wpAny_bind (wpAny_mono h (fun r s' hr => wpAny_pure ?_) fun _ _ z => z))))))
  cases r <;> first | exact hr.elim | skip
  rename_i n u
  obtain ⟨⟨h0, h1⟩, hq⟩ := hr
  refine wpAny_bind (wpAny_holding (wpAny_pure ?_))
  refine wpAny_bind (wpAny_letGo ?_)
  show wpAny _ _ (if n < 0 then _ else _) _ _ _
  rw [if_neg (by omega)]
  show wpAny _ _ (if n ≥ 2 ^ 63 then _ else _) _ _ _
  rw [if_neg (by omega)]
  exact wpAny_bind (wpAny_mkInt (wpAny_pure ⟨_, rfl, hq⟩))
end
end Mine
end
section
open PySem PySem.W PyProof.Rows PySem.Calls
namespace Mine
/-- a piece of the row as it lies in the heap -/
noncomputable def PieceAt (h : Heap) (v : Value) (p : List Nat × List Nat) : Prop := ∃ T x tx y ty, v = .ref T ∧ h.IsTuple T #[.str x tx, .str y ty] ∧ x.cps.toList = p.1 ∧ y.cps.toList = p.2
section
variable {w : World} {h₀ h : Heap} {mg mb : Str → Option Value} {ρ : List Addr} {S : MS} {q : Sta} {env : Env}
theorem pieces_at (R : Rel (GK w h₀ mg mb) ρ S q env h) {vs : List MV} {rs : List Value} {ps : List (List Nat × List Nat)} (h1 : Pieces S.objs vs ps) (h2 : VRs ρ vs rs) : Paired (PieceAt h) rs ps := by
  induction h1 generalizing rs with
  | nil => exact pd_nil (C := fun rs => Paired (PieceAt h) rs []) h2 .nil
  | cons hp ht ih =>
    refine pd_cons (C := fun rs => Paired (PieceAt h) rs _) h2 fun b t hb htt => .cons ?_ (ih htt)
    obtain ⟨i, rfl, ho⟩ := hp
    obtain ⟨a, rfl, ea⟩ := vr_ref hb
    obtain ⟨items, n, e, p⟩ := R.at ho ea
    refine pd_cons (C := fun l => items.toList = l → _) p (fun b1 t1 p1 p2 => pd_one (C := fun l => items.toList = b1 :: l → _) p2 fun b2 p2 hi => ?_) rfl
    obtain ⟨sx, tx, rfl, ex⟩ := vr_str p1
    obtain ⟨sy, ty, rfl, ey⟩ := vr_str p2
    cases (Array.toList_inj.mp hi : items = #[.str sx tx, .str sy ty])
    exact ⟨a, sx, tx, sy, ty, rfl, isTuple_of e, ex, ey⟩
end
theorem cat_len2 : ∀ ps : List (List Nat × List Nat), ((catL ps).length : Int) = (ps.map fun p => ((p.1.length + p.2.length : Nat) : Int)).sum
  | [] => rfl
  | p :: r => by
    rw [List.map_cons, List.sum_cons, ← cat_len2 r, ← List.length_append]
    unfold catL
    rw [List.flatMap_cons, List.length_append]
    rfl
theorem passing_all (n : Nat) : passing (fun _ => true) n 0 = List.range n := by simp [passing]
section
variable {w : World} {A : Around} {E : Value → Shared → Prop} {s : Shared} {a ad : Addr} {items : Array Value} {n : Nat} {prog : Program}
theorem acc_iter {Q : Value → Shared → Prop} (X : (hd.heap_1 w.params).In s.heap) (ha : s.heap.get? a = some (accObj ad items n))
    (hQ : Q (.ref s.heap.objs.size) { s with heap := s.heap.push { cls := .type "list_iterator", data := .fields #[.ref a, .int 0 0] } }) : wpAny (model prog w) A (pyIter (.ref a)) Q E s := by
  have hsp : Looks (model prog w) s.heap (specialOf (.ref a) "__iter__") (some (.builtin "list.__iter__")) := acc_special X ha rfl
  unfold pyIter
  refine wpAny_bind (hsp.here ?_)
  show wpAny _ A (callSpecialIfBoundUnlessNone? (.ref a) "__iter__" _ >>= _) Q E s
  refine wpAny_bind ?_
  simp only [callSpecialIfBoundUnlessNone?, bindSpecialIfBound?]
  refine wpAny_holding (wpAny_bind (wpAny_bind (hsp.here ?_)))
  simp only [slot_list_iter.bind]
  refine wpAny_bind (wpAny_askSetting (wpAny_ite ?_))
  have run : ∀ Q' : Value → Shared → Prop, Q' (.ref s.heap.objs.size) { s with heap := s.heap.push { cls := .type "list_iterator", data := .fields #[.ref a, .int 0 0] } } → wpAny (model prog w) A (call (.builtin "list.__iter__") [.ref a]) Q' E s := fun Q' hq => by
    refine acc_builtin X ha (nm := "__iter__") (by decide +kernel) (by decide +kernel) (args_list_iter _) slot_list_iter.plain entry_list_iter ?_
    show wpAny _ _ (do ret (← newFields "list_iterator" [.ref a, rawInt 0])) _ _ s
    exact wpAny_bind (wpAny_newObj_type (wpAny_pure ⟨_, rfl, hq⟩))
  have fin : ∀ (refuse : Sem Value) (Q' : Option Value → Shared → Prop), Q' (some (.ref s.heap.objs.size)) { s with heap := s.heap.push { cls := .type "list_iterator", data := .fields #[.ref a, .int 0 0] } } →
      wpAny (model prog w) A (if (Value.builtin "list.__iter__" == Value.none) = true then (refuse >>= fun v => pure (some v)) else (call (.builtin "list.__iter__") [.ref a] >>= fun v => pure (some v))) Q' E s := fun refuse Q' hq => by
    simp only [builtin_beq_none, Bool.false_eq_true, if_false]
    exact wpAny_bind (run _ (wpAny_pure hq))
  have hnext : wpAny (model prog w) A (specialOf (.ref s.heap.objs.size) "__next__") (fun r s' => wpAny (model prog w) A (match r with | none => (do rule "iter.non-iterator"; raiseError "TypeError" s!"iter() returned non-iterator of type '{← typeNameOf (.ref s.heap.objs.size)}'") | some _ => pure (.ref s.heap.objs.size)) Q E s') E { s with heap := s.heap.push { cls := .type "list_iterator", data := .fields #[.ref a, .int 0 0] } } :=
    wpAny_specialOf (T := "list_iterator") ⟨_, Heap.get?_push_size _ rfl, rfl⟩ slot_listiter_next.lookup (wpAny_pure hQ)
  split
  · exact wpAny_bind (wpAny_pure (wpAny_pure (fin _ _ (wpAny_bind hnext))))
  · exact wpAny_tryCatch (wpAny_bind (wpAny_pure (wpAny_pure (fin _ _ (wpAny_bind hnext)))))
end
end Mine
end
section
open PySem PySem.W PyProof.Rows PySem.Calls
namespace Mine
section
variable {w : World} {h₀ : Heap} {mg mb : Str → Option Value} {ρ : List Addr} {S : MS} {q : Sta} {envO env : Env} {A : Around} {E : Value → Shared → Prop} {s : Shared} {a ad : Addr} {items : Array Value} {n : Nat}
/-- what a made generator leaves -/
structure GenMade (w : World) (h₀ : Heap) (mg mb : Str → Option Value) (ρ : List Addr) (S : MS) (q : Sta) (envO : Env) (A : Around) (s : Shared) (P : Addr) (N : Nat) (F : Nat → Value → Prop) (g : Addr) (s' : Shared) : Prop where
  made : ∃ fp wr gi St, WalksS lawP w A.in4 g fp wr (GenOnlyQ gi) N F St ∧ St 0 s' ∧ (∀ i s', St i s' → s'.TypeIs (.ref g) "generator") ∧ g ∈ fp ∧ (∀ b ∈ fp, b < s'.heap.objs.size) ∧
    ∀ h'' : Heap, (∀ b o, b ∉ wr → s'.heap.get? b = some o → h''.get? b = some o) → Rel (GK w h₀ mg mb) ρ S q envO h'' ∧ StaysBut P s.heap h'' ∧ ∃ o, h''.get? P = some o
  bare : AllBare s.gens → AllBare s'.gens
  drawn : s'.drawn = s.drawn
  os : s'.os = s.os
theorem gen_row (R0 : GrK w h₀ mg mb) (R : Rel (GK w h₀ mg mb) ρ S q envO s.heap) {f : Addr} {l : Addr × Addr × Str × Pos} (hl : (GK w h₀ mg mb).T.lam f = some l)
    (hcode : env.code = .ref l.1) (hqual : env.qual ++ "<genexpr>" = l.2.2.1) (hglob : env.globals = mainGlobals) (hbu : env.builtins = builtinsNs) (hh : A.handled = none) (hroom : A.depth < recursionLimit)
    (e : s.heap.get? a = some (accObj ad items n)) {Ts : Nat → Addr} {vals : Nat → Array Value} (hit : ∀ j, j < items.size → items[j]? = some (.ref (Ts j))) (htu : ∀ j, j < items.size → s.heap.IsTuple (Ts j) (vals j)) (hpair : ∀ j, ∃ va vb, vals j = #[va, vb])
    {elt iter : Expr} {xa xb : Str} {pa pb pt : Pos} {kt : Nat} {scope : Scope} (hco : scope.isCoroutine = false) (hclos : closureFor scope env = pure []) (hcell : ∀ y ∈ scope.names, y.2 ≠ .cell) (h0 : scope.names.lookup (".0" : Str) = some NameKind.local)
    (hxa : scope.names.lookup xa = some .local) (hxb : scope.names.lookup xb = some .local) (hab : xa ≠ xb) (hkind : scope.kind = .function)
    (F : Nat → Value → Prop) (hiter : ∀ Q' : Value → Shared → Prop, Q' (.ref a) s → wpAny (model lawP w) A (eval iter env) Q' E s)
    (helt : ∀ (C : Addr) (code : Value) (A' : Around) E' i va vb (s₂ : Shared) m₂, A'.handled = none → vals i = #[va, vb] → s₂.heap.Ns C m₂ → m₂ xa = some va → m₂ xb = some vb → Stays h₀ s₂.heap →
      wpAny (model lawP w) A' (eval elt (genEnv scope [] C code builtinsNs env)) (fun y s₃ => F i y ∧ Keeps s₂ s₃) E' s₂)
    (hs : ∀ x, genFold iter env x = pure x) {Q : Value → Shared → Prop} (hQ : ∀ s' g, GenMade w h₀ mg mb ρ S q envO A s l.2.1 items.size F g s' → Q (.ref g) s') :
    wpAny (model lawP w) A (eval (.GeneratorExp elt [⟨.Tuple [.Name xa pa, .Name xb pb] kt pt, iter, [], 0⟩] scope l.2.2.2) env) Q E s := by
  have B := base_ok R0
  have X := KIn R0 R.keep
  obtain ⟨hC, hPx⟩ := B.lam _ _ hl
  obtain ⟨hPx', ps, eP, hps⟩ := R.T.tab _ _ hl
  have hP0 : h₀.get? l.2.1 = none := B.ex _ hPx
  refine wpAny_GeneratorExp_walksQT hh hco hclos hcell h0 hxa hxb hab hkind hroom (hiter _ (acc_iter X e ?_)) hs
  obtain ⟨hp, gens, dr, tk, os⟩ := s
  generalize hI : hp.objs.size = I
  have hIn : hp.get? I = none := hI ▸ size_none _
  have k1 : Stays hp (hp.push { cls := .type "list_iterator", data := .fields #[.ref a, .int 0 0] }) := push_stays _ _
  have hIt : (hp.push { cls := .type "list_iterator", data := .fields #[.ref a, .int 0 0] }).IsListIter I a 0 := ⟨_, hI ▸ Heap.get?_push_size _ rfl, rfl, rfl⟩
  generalize hh2 : hp.push { cls := .type "list_iterator", data := .fields #[.ref a, .int 0 0] } = h₂ at k1 hIt ⊢
  have eP2 := k1 _ _ eP
  have hC2 := hC.keeps fun b o z => k1 b o (R.keep b o z)
  have hPI : l.2.1 ≠ I := fun q => by rw [q, hIn] at eP; cases eP
  have hsz2 : I < h₂.objs.size := by obtain ⟨o, z, _⟩ := hIt; exact Heap.lt_size z
  have hlim0 : hp.NoLimit := R0.nl.keeps R.keep
  refine ⟨hlim0.keeps k1, ?_⟩
  rw [hqual]
  have fin : ∀ (c' : Addr) (h₃ : Heap) (tk' : Nat), StaysBut l.2.1 h₂ h₃ → h₂.objs.size ≤ h₃.objs.size → h₃.get? l.2.1 = some (tabObj #[rawInt l.2.2.2.line, rawInt l.2.2.2.col, .ref c']) → h₃.CodeRec (.ref c') l.2.2.1 → c' ≠ I →
      wpAny (model lawP w) A (builtinsFor env.globals env.builtins) (fun bi s₄ => ∃ I' fp wr n₀ Pt St₀ Mid pz F, (Value.ref I) = .ref I' ∧ (∀ A' : Around, A'.handled = none → WalksU lawP w A' I' fp wr n₀ Pt St₀ Mid) ∧ (∀ i vals, Pt i vals → ∃ va vb, vals = #[va, vb]) ∧ St₀ 0 s₄.heap ∧ (∀ b ∈ fp, b < s₄.heap.objs.size) ∧ s₄.heap.NoLimit ∧ cStatics ∉ wr ∧
          (∀ href : Heap, (∀ b o, s₄.heap.get? b = some o → href.get? b = some o) →
            QuietGenT lawP w (genEnv scope [] s₄.heap.objs.size (.ref c') bi env) xa xb [] elt (List.range s₄.heap.objs.size) wr Pt pz F href) ∧
          (∀ a h₅ tk gs, gs.bare = true → s₄.heap.objs.size < a → h₅.objs.size = a + 1 → (∀ b o, s₄.heap.get? b = some o → h₅.get? b = some o) →
            WalksS lawP w A.in4 a (a :: s₄.heap.objs.size :: List.range s₄.heap.objs.size) (s₄.heap.objs.size :: wr) (GenOnlyQ s₄.gens.size) (passing pz n₀ 0).length
              (fun j y => ∃ i, (passing pz n₀ 0)[j]? = some i ∧ F i y) (GenAt lawP w A.in4 a s₄.gens.size s₄.heap.objs.size (List.range s₄.heap.objs.size) wr pz n₀ F) →
            GenAt lawP w A.in4 a s₄.gens.size s₄.heap.objs.size (List.range s₄.heap.objs.size) wr pz n₀ F 0 { s₄ with gens := s₄.gens.push gs, toks := tk, heap := h₅ } →
            Q (.ref a) { s₄ with gens := s₄.gens.push gs, toks := tk, heap := h₅ })) E ⟨h₃, gens, dr, tk', os⟩ := by
    intro c' h₃ tk' k3 hsz3 eP3 hrec hcI
    have k03 : StaysBut l.2.1 hp h₃ := fun b o hb z => k3 b o hb (k1 b o z)
    have kk : ∀ b o, h₀.get? b = some o → h₃.get? b = some o := fun b o z => k03 b o (fun q => by rw [q, hP0] at z; cases z) (R.keep b o z)
    obtain ⟨bm, ob, b1, b2, b3, b4, b5, b6, b7⟩ := B.bm
    rw [hglob]
    refine wpAny_builtinsFor (B.g.keeps kk) b1 b2 (kk _ _ b4) b5 b6 b7 ?_
    have hIt3 : h₃.IsListIter I a 0 := (by obtain ⟨o, z, r⟩ := hIt; exact ⟨o, k3 _ _ (Ne.symm hPI) z, r⟩)
    have haP : a ≠ l.2.1 := fun q => by rw [q, eP] at e; cases e
    have hI3 : I < h₃.objs.size := Nat.lt_of_lt_of_le hsz2 hsz3
    have haI : a ≠ I := fun q => by rw [q, hIn] at e; cases e
    have hTI : ∀ j, j < items.size → Ts j ≠ I := fun j hj q => by obtain ⟨o, z, _⟩ := htu j hj; rw [q, hIn] at z; cases z
    have hTP : ∀ j, j < items.size → Ts j ≠ l.2.1 := fun j hj q => by obtain ⟨o, z, z2, _⟩ := htu j hj; rw [q, eP] at z; cases z; cases z2
    have hcs : cStatics < hp.objs.size := by obtain ⟨_, hn, _⟩ := hlim0; exact hn.lt
    refine ⟨I, _, _, items.size, _, _, _, fun _ => true, F, rfl, fun A' hA' => walk_row hA' I a haI items Ts vals hit hTI, fun i vs hv => hv ▸ hpair i, ⟨hIt3, ⟨_, _, k03 _ _ haP e, rfl⟩, fun j hj => (by obtain ⟨o, z, r⟩ := htu j hj; exact ⟨o, k03 _ _ (hTP j hj) z, r⟩)⟩, fun b hb => ?_, R0.nl.keeps kk, ?_, fun href hr => ⟨?_, ?_⟩, ?_⟩
    · rcases List.mem_cons.mp hb with rfl | hb
      · exact hI3
      · rcases List.mem_cons.mp hb with rfl | hb
        · exact Heap.lt_size (k03 _ _ haP e)
        · obtain ⟨j, hj, rfl⟩ := List.mem_map.mp hb
          obtain ⟨o, z, _⟩ := htu j (List.mem_range.mp hj)
          exact Heap.lt_size (k03 _ _ (hTP j (List.mem_range.mp hj)) z)
    · intro hm
      have hm := List.mem_singleton.mp hm
      exact absurd hcs (by rw [hI, ← hm]; exact Nat.lt_irrefl _)
    · intro A' E' i va vb s₂ m₂ _ _ _ _ _ _
      exact wpAny_pure ⟨rfl, _, _, rfl, fun _ _ z => z⟩
    · intro A' E' i va vb s₂ m₂ h1 h2 _ h4 h5 h6 h7
      refine helt _ _ A' E' i va vb s₂ m₂ h1 h2.symm h4 h5 h6 fun b o z => ?_
      have z3 := kk b o z
      refine h7 b (List.mem_range.mpr (Heap.lt_size z3)) (fun hm => ?_) o (hr b o z3)
      simp only [List.mem_singleton] at hm
      have := R.keep b o z
      rw [hm, hIn] at this
      cases this
    · intro g h₅ tk5 gs hgs hag hsz5 k5 W hat
      rw [passing_all, List.length_range] at W
      have hW : WalksS lawP w A.in4 g (g :: h₃.objs.size :: List.range h₃.objs.size) (h₃.objs.size :: [I]) (GenOnlyQ gens.size) items.size F (GenAt lawP w A.in4 g gens.size h₃.objs.size (List.range h₃.objs.size) [I] (fun _ => true) items.size F) :=
        { sub := W.sub, grefl := W.grefl, gtrans := W.gtrans, frame := W.frame, done := W.done, self := W.self
          item := fun i s Q E hi st hQ => W.item i s Q E hi st fun v s' hv => hQ v s' (by
            obtain ⟨j, h1, h2⟩ := hv
            obtain ⟨_, h3⟩ := List.getElem?_eq_some_iff.mp h1
            simp at h3
            exact h3 ▸ h2) }
      refine hQ ⟨h₅, gens.push gs, dr, tk5, os⟩ g ⟨⟨_, _, _, _, hW, hat, fun i s' st => st.1.typeIs, List.mem_cons_self, fun b hb => ?_, fun h'' k'' => ?_⟩, fun hb => hb.push hgs, rfl, rfl⟩
      · show b < h₅.objs.size
        rw [hsz5]
        rcases List.mem_cons.mp hb with rfl | hb
        · exact Nat.lt_succ_self _
        · rcases List.mem_cons.mp hb with rfl | hb
          · exact Nat.lt_succ_of_lt hag
          · exact Nat.lt_succ_of_lt (Nat.lt_trans (List.mem_range.mp hb) hag)
      · have kf : ∀ b o, b ≠ I → h₃.get? b = some o → h''.get? b = some o := fun b o hb z => by
          refine k'' b o (fun hm => ?_) (k5 b o z)
          rcases List.mem_cons.mp hm with rfl | hm
          · exact Nat.lt_irrefl _ (Heap.lt_size z)
          · simp only [List.mem_singleton] at hm
            exact hb hm
        have kb : StaysBut l.2.1 hp h'' := fun b o hb z => kf b o (fun q => by rw [q, hIn] at z; cases z) (k03 b o hb z)
        have eP4 := kf _ _ hPI eP3
        refine ⟨R.tabSet B hl kb (codeRec_off kb eP fun vs hv => ?_) ⟨hPx', _, eP4, .inr ⟨c', rfl, ?_⟩⟩, kb, _, eP4⟩
        · cases hv
          intro q t
          rcases hps with rfl | ⟨c, rfl, _⟩ <;> simp [rawInt]
        · obtain ⟨c, o, vs, t, e1, e2, r⟩ := hrec
          cases e1
          exact ⟨c', o, vs, t, rfl, kf _ _ hcI e2, r⟩
  rcases hps with rfl | ⟨c', rfl, hrec⟩
  · refine wpAny_genexprCodeX hcode (hC2.code eP2 trivial) (hC2.tab eP2) rfl fun c' h₃ tk₃ hx₃ hge hlt _ hrec htab _ => ?_
    refine fin c' h₃ tk₃ hx₃ (Nat.le_trans hge (Nat.le_of_lt hlt)) ?_ hrec (Nat.ne_of_gt (Nat.lt_of_lt_of_le hsz2 hge))
    have := htab.2
    simpa using this
  · have hf : codeAmong l.2.2.2 (#[rawInt l.2.2.2.line, rawInt l.2.2.2.col, Value.ref c'] : Array Value).toList = some (.ref c') := by
      have := codeAmong_snoc (pos := l.2.2.2) (c := .ref c') [] trivial rfl
      simpa using this
    have htr : TriplesOk (#[rawInt l.2.2.2.line, rawInt l.2.2.2.col, Value.ref c'] : Array Value).toList := by simp [TriplesOk, rawInt]
    refine wpAny_genexprCode_hit hcode (hC2.code eP2 htr) hf ?_
    refine fin c' h₂ tk (fun b o _ z => z) (Nat.le_refl _) eP2 (hrec.keeps k1) fun q => ?_
    obtain ⟨c, o, vs, t, e1, e2, r⟩ := hrec
    cases e1
    have e2 : hp.get? c' = some o := e2
    rw [q, hIn] at e2
    cases e2
end
end Mine
end
section
open PySem PySem.W PyProof.Rows PySem.Calls
namespace Mine
section
variable {w : World} {h₀ h : Heap} {mg mb : Str → Option Value} {ρ : List Addr} {S S' : MS} {q : Sta} {env : Env} {A : Around} {E : Value → Shared → Prop} {s : Shared} {a ad : Addr} {items : Array Value} {n : Nat}
/-- the pieces, told by choice -/
theorem pieces_choice {ps : List (List Nat × List Nat)} (p : Paired (PieceAt h) items.toList ps) : ∃ (Ts : Nat → Addr) (xs ys : Nat → Str) (us vs : Nat → Tok), ps.length = items.size ∧ (∀ j, j < items.size → items[j]? = some (.ref (Ts j))) ∧
    (∀ j, j < items.size → h.IsTuple (Ts j) #[.str (xs j) (us j), .str (ys j) (vs j)]) ∧ ∀ j, (xs j).cps.toList = (ps.getD j ([], [])).1 ∧ (ys j).cps.toList = (ps.getD j ([], [])).2 := by
  have key : ∀ j, ∃ T x u y v, (j < items.size → items[j]? = some (.ref T)) ∧ (j < items.size → h.IsTuple T #[.str x u, .str y v]) ∧ x.cps.toList = (ps.getD j ([], [])).1 ∧ y.cps.toList = (ps.getD j ([], [])).2 := by
    intro j
    by_cases hj : j < items.size
    · obtain ⟨b, hb, T, x, u, y, v, e, ht, e1, e2⟩ := pd_get p (i := j) (a := items[j]) (by simp [hj])
      refine ⟨T, x, u, y, v, fun _ => ?_, fun _ => ht, ?_, ?_⟩
      · rw [Array.getElem?_eq_getElem hj, e]
      · rw [List.getD_eq_getElem?_getD, hb]; exact e1
      · rw [List.getD_eq_getElem?_getD, hb]; exact e2
    · have hl : ps.length = items.size := (pd_len p).symm.trans (by simp)
      refine ⟨0, "", 0, "", 0, fun h => absurd h hj, fun h => absurd h hj, ?_, ?_⟩ <;> (rw [List.getD_eq_getElem?_getD, List.getElem?_eq_none (by omega)]; rfl)
  obtain ⟨Ts, key⟩ := Classical.skolem.mp key
  obtain ⟨xs, key⟩ := Classical.skolem.mp key
  obtain ⟨us, key⟩ := Classical.skolem.mp key
  obtain ⟨ys, key⟩ := Classical.skolem.mp key
  obtain ⟨vs, key⟩ := Classical.skolem.mp key
  exact ⟨Ts, xs, ys, us, vs, (pd_len p).symm.trans (by simp), fun j => (key j).1, fun j => (key j).2.1, fun j => (key j).2.2⟩
theorem getD_map {α : Type} (f : α → Int) (d : α) (hd : f d = 0) (l : List α) (j : Nat) : (l.map f).getD j 0 = f (l.getD j d) := by
  rw [List.getD_eq_getElem?_getD, List.getD_eq_getElem?_getD, List.getElem?_map]
  cases l[j]? with
  | none => exact hd.symm
  | some x => rfl
theorem getD_le_sum {α : Type} (f : α → Int) (d : α) (hd : f d = 0) (hf : ∀ x, 0 ≤ f x) : ∀ (l : List α) (j : Nat), f (l.getD j d) ≤ (l.map f).sum
  | [], j => by simp [hd]
  | x :: l, 0 => by
    have : ∀ l : List α, 0 ≤ (l.map f).sum := fun l => by
      induction l with
      | nil => simp
      | cons y l ih => rw [List.map_cons, List.sum_cons]; have := hf y; omega
    have := this l
    rw [List.map_cons, List.sum_cons]
    show f x ≤ _
    omega
  | x :: l, j + 1 => by
    have h1 := getD_le_sum f d hd hf l j
    have h2 := hf x
    rw [List.map_cons, List.sum_cons]
    show f (l.getD j d) ≤ _
    omega
/-- the generator is used up -/
theorem GenMade.done {envO : Env} {A : Around} {P : Addr} {N : Nat} {F : Nat → Value → Prop} {g gi : Nat} {s₀ s₂ s'' : Shared} {wr : List Addr} (hP : P ∈ (GK w h₀ mg mb).Ex) (k0 : Stays s₀.heap s.heap) (hg : s.gens = s₀.gens) (hdr : s.drawn = s₀.drawn) (hos : s.os = s₀.os)
    (G : GenMade w h₀ mg mb ρ S q envO A s P N F g s₂)
    (made : ∀ h'' : Heap, (∀ b o, b ∉ wr → s₂.heap.get? b = some o → h''.get? b = some o) → Rel (GK w h₀ mg mb) ρ S q envO h'' ∧ StaysBut P s.heap h'' ∧ ∃ o, h''.get? P = some o) {tk : Nat}
    (hm : Moved wr (GenOnlyQ gi) { s₂ with toks := tk } s'') (L : Addr) : Rel (GK w h₀ mg mb) ρ S q envO s''.heap ∧ Ext (GK w h₀ mg mb) ρ ρ L s₀ s'' := by
  obtain ⟨R, k, o, e⟩ := made s''.heap hm.heap
  refine ⟨R, Pre.refl, fun a h => .inl h, fun b o' e' _ _ h3 => k b o' (fun q => h3 (q ▸ hP)) (k0 _ _ e'), fun b o' e' => ?_, fun hb => ?_, ?_, ?_⟩
  · by_cases hb : b = P
    · exact ⟨o, hb ▸ e⟩
    · exact ⟨o', k b o' hb (k0 _ _ e')⟩
  · exact (G.bare (hg ▸ hb)).moved hm.gens
  · exact (hm.drawn.trans G.drawn).trans hdr
  · exact (hm.os.trans G.os).trans hos
theorem acc_len (R0 : GrK w h₀ mg mb) : AccLen (GK w h₀ mg mb) := by
  intro ρ S q env n A E s Q a i d vs n0 ps hA hob hd hps hc R ea hQ
  obtain ⟨items, sz, ad, ed, e, p⟩ := R.at hob ea
  obtain ⟨kvs', hdo, hp⟩ := R.at hd ed
  obtain ⟨m, t0, hns0, hm0, _⟩ := ns_init hdo hp
  have hsum := cat_len2 ps
  obtain ⟨Ts, xs, ys, us, ws, hpl, hit, htu, hxy⟩ := pieces_choice (pieces_at R hps p)
  have X := KIn R0 R.keep
  refine len_L X e (wpAny_call (codeAny_call_def (binds := [(("self" : Str), .ref a)]) (by have := hA.depth; show A.depth < _; exact llt [_, _, _] [.lt (.a (.a (.v 0) (.v 2)) (.n 10)) (.v 1)] [1] (.v 0) (.v 1) (by exact yes) this) (X 120 _ rfl) rfl (R0.nl.keeps R.keep) (codeRec_of X rfl) rfl (BindsTo.of_eq rfl) (by decide) (fun x hx => by
    rcases List.mem_cons.mp hx with rfl | hx
    · rfl
    · cases hx) (fun h₁ hns hk₁ => ?_)))
  have R₁ := R.keeps hk₁
  refine wpAny_execs_cons (wpAny_Return_some (wpAny_Call_NameR (wpAny_Name (ks_loadName_global rfl rfl (loadGlobal_builtin (v := .builtin "sum") (R0.g.keeps R₁.keep) (mg_none_of R0.X R0.g rfl) (R0.b.keeps R₁.keep) (by rw [R0.bs _ (by decide)]; rfl) ?_)) (by decide))))
  refine callWith_builtin rfl (Calls.evalArgs_plain (Calls.spliced_cons ?_))
  have hf : ∀ x : List Nat × List Nat, 0 ≤ ((x.1.length + x.2.length : Nat) : Int) := fun x => by exact Int.natCast_nonneg _
  have hle : ∀ j, (((ps.getD j ([], [])).1.length + (ps.getD j ([], [])).2.length : Nat) : Int) ≤ 1000000 := fun j => by
    have := getD_le_sum (fun p : List Nat × List Nat => ((p.1.length + p.2.length : Nat) : Int)) ([], []) rfl hf ps j
    omega
  refine gen_row (f := 120) (l := lam120) R0 R₁ rfl rfl rfl rfl rfl (by exact hA.handled) (by have := hA.depth; show A.depth + 1 < _; exact llt [_, _, _] [.lt (.a (.a (.v 0) (.v 2)) (.n 10)) (.v 1)] [1] (.a (.v 0) (.n 1)) (.v 1) (by exact yes) this) (hk₁ _ _ e) hit (fun j hj => (by obtain ⟨o, z, r⟩ := htu j hj; exact ⟨o, hk₁ _ _ z, r⟩)) (fun j => ⟨_, _, rfl⟩)
    rfl rfl (by decide) rfl rfl rfl (by decide) rfl (fun j y => ∃ t, y = .int ((ps.map fun p => ((p.1.length + p.2.length : Nat) : Int)).getD j 0) t) (fun Q' hq => wpAny_Name (wpAny_loadName_local rfl rfl hns rfl hq) (by decide)) ?_ (fun _ => rfl) fun s₂ g G => ?_
  · intro C code A' E' j va vb s₃ m₂ hh' hv hn3 ha hb hk3
    have hv := congrArg Array.toList hv
    simp only [List.cons.injEq, and_true] at hv
    obtain ⟨rfl, rfl⟩ := hv
    have hl := hle j
    rw [← (hxy j).1, ← (hxy j).2] at hl
    refine wpAny_BinOp (wpAny_Call_NameR (wpAny_Name (ks_loadName_global rfl rfl (loadGlobal_builtin (v := .builtin "len") (R0.g.keeps hk3) (mg_none_of R0.X R0.g rfl) (R0.b.keeps hk3) (by rw [R0.bs _ (by decide)]; rfl) ?_)) (by decide)))
    refine callWith_builtin rfl (Calls.evalArgs_plain (Calls.spliced_cons (wpAny_Name (wpAny_loadName_local rfl rfl hn3 ha (Calls.spliced_nil (P.len_str ?_ ?_))) (by decide))))
    · rw [len_cps]; omega
    refine wpAny_Call_NameR (wpAny_Name (ks_loadName_global rfl rfl (loadGlobal_builtin (v := .builtin "len") (R0.g.keeps hk3) (mg_none_of R0.X R0.g rfl) (R0.b.keeps hk3) (by rw [R0.bs _ (by decide)]; rfl) ?_)) (by decide))
    refine callWith_builtin rfl (Calls.evalArgs_plain (Calls.spliced_cons (wpAny_Name (wpAny_loadName_local rfl rfl hn3 hb (Calls.spliced_nil (P.len_str ?_ ?_))) (by decide))))
    · rw [len_cps]; omega
    have hval : ((xs j).length : Int) + ((ys j).length : Int) = (ps.map fun p => ((p.1.length + p.2.length : Nat) : Int)).getD j 0 := by
      rw [getD_map (fun p : List Nat × List Nat => ((p.1.length + p.2.length : Nat) : Int)) ([], []) rfl, ← (hxy j).1, ← (hxy j).2, len_cps, len_cps]
      omega
    exact wpAny_add_int ⟨⟨_, by rw [hval]⟩, _, _, rfl, fun _ _ z => z⟩
  · obtain ⟨fp, wr, gi, St, W, hst, hT, hg, hfp, made⟩ := G.made
    obtain ⟨R₂, k2, _⟩ := made s₂.heap fun _ _ _ e => e
    obtain ⟨items2, n2, ad2, ed2, e2, _⟩ := R₂.at hob ea
    rw [ed] at ed2
    cases ed2
    obtain ⟨kvs2, hdo2, hp2⟩ := R₂.at hd ed
    obtain ⟨m2, t2, hns2, hm2, _⟩ := ns_init hdo2 hp2
    have hLP : s.heap.objs.size ≠ lam120.2.1 := fun q => by
      obtain ⟨o, z⟩ := R.T.exl lam120.2.1 (by show (115 : Nat) ∈ ([115, 122, 225, 246] : List Nat); decide)
      rw [← q] at z
      exact absurd (Heap.lt_size z) (Nat.lt_irrefl _)
    have hnsL : s₂.heap.Ns s.heap.objs.size _ := Ns.but k2 hLP hns
    refine Calls.spliced_cons ?_
    rw [arm_eval_Attribute, attributeBase_not rfl]
    refine wpAny_bind (wpAny_Name (wpAny_loadName_local rfl rfl hnsL rfl ?_) (by decide))
    refine wpAny_bind (wpAny_standAt (wpAny_bind (wpAny_holding (acc_size (KIn R0 R₂.keep) e2 hns2 hm2 ?_))))
    refine wpAny_bind (wpAny_letTemporaryGo (wpAny_pure ?_))
    refine Calls.spliced_nil ?_
    have hst' : St 0 { s₂ with toks := s₂.toks + 1 } := W.frame 0 s₂ _ _ hst (Nat.le_succ _) fun _ _ _ z => z
    refine sum_from (W.in4_1.self 0 _ _ _ hst' ⟨g, fp, wr, _, _, _, St, fun j => (ps.map fun p => ((p.1.length + p.2.length : Nat) : Int)).getD j 0, rfl, W.in4_1, hst', hfp, fun i v hv => hv, fun s' t' hm => ?_⟩)
    rw [preSum_getD, ← hpl, List.take_of_length_le (by simp), ← hsum]
    obtain ⟨R₃, X₃⟩ := GenMade.done (s := ⟨h₁, s.gens, s.drawn, s.toks + 1, s.os⟩) (s₀ := s) (P := lam120.2.1) (by show (115 : Nat) ∈ ([115, 122, 225, 246] : List Nat); decide) hk₁ rfl rfl rfl G made hm env.locals
    have hk0 : (0 : Int) ≤ (catL ps).length := by rw [hsum]; exact Int.le_trans (hf (ps.getD 0 ([], []))) (getD_le_sum (fun p : List Nat × List Nat => ((p.1.length + p.2.length : Nat) : Int)) ([], []) rfl hf ps 0)
    exact ⟨⟨by omega, by omega⟩, hQ { s' with toks := s'.toks + 1 } ρ _ R₃ (X₃.trans Ext.toks) (.int _ _)⟩
end
end Mine
end
section
open PySem PySem.W PyProof.Rows PySem.Calls
namespace Mine
theorem joinL_nil : ∀ l : List (List Nat), joinL [] l = l.flatten
  | [] => rfl
  | [x] => by simp [joinL]
  | x :: y :: r => by
    have := joinL_nil (y :: r)
    show x ++ [] ++ joinL [] (y :: r) = _
    rw [this, List.append_nil, List.flatten_cons, List.flatten_cons, List.flatten_cons]
theorem join_cps (l : List Str) : (Txt.join "" l).cps.toList = (l.map fun p => p.cps.toList).flatten := by
  rw [← joinL_nil]
  exact glued_list "" l
theorem sum_flat : ∀ l : List Str, (l.map (·.length)).sum = ((l.map fun p => p.cps.toList).flatten).length
  | [] => rfl
  | x :: r => by
    rw [List.map_cons, List.sum_cons, List.map_cons, List.flatten_cons, List.length_append, sum_flat r]
    rfl
section
variable {M : Model} {env : Env} {A : Around} {E : Value → Shared → Prop} {s : Shared}
theorem meth1 {o : Expr} {name : Str} {apos pos : Pos} {args : List Expr} {pl : Sem Bool} {Q : Value → Shared → Prop}
    (h : wpAny M A (eval o env) (fun ov s₁ => wpAny M A (getMethod ov name pl) (fun fx s₂ => wpAny M A (callWith pos fx.1 fx.2 (backTo pos (starEach args env)) []) Q E s₂) E s₁) E s)
    (he : eval (.Call (.Attribute o name apos) args [] pos) env = (do
      let ov ← eval o env
      standAt apos.atName
      let (f, first) ← holding [ov] (getMethod ov name pl)
      callWith pos f first (backTo pos (starEach args env)) []) := by rfl) :
    wpAny M A (eval (.Call (.Attribute o name apos) args [] pos) env) Q E s := by
  rw [he]
  exact wpAny_bind (wpAny_mono h (fun ov s₁ h₁ => wpAny_bind (wpAny_standAt (wpAny_bind (wpAny_holding h₁)))) fun _ _ z => z)
end
section
variable {w : World} {h₀ h : Heap} {mg mb : Str → Option Value} {ρ : List Addr} {S S' : MS} {q : Sta} {env : Env} {A : Around} {E : Value → Shared → Prop} {s : Shared} {a ad : Addr} {items : Array Value} {n : Nat}
theorem empty_join {t : Tok} {T : Addr} {x y : Str} {tx ty : Tok} {k : Nat} {Q : Value → Shared → Prop} {prog : Program} (hT : s.heap.get? T = some { cls := .type "tuple", data := .seq #[.str x tx, .str y ty] k }) (hl : x.length + y.length ≤ 100000)
    (h : ∀ z u tk, z.cps.toList = x.cps.toList ++ y.cps.toList → Q (.str z u) { s with toks := tk }) : wpAny (model prog w) A (call (.builtin "str.join") [.str "" t, .ref T]) Q E s := by
  refine join_tuple (ys := [x, y]) ⟨_, hT, rfl, _, rfl⟩ (.cons _ _ (.cons _ _ .nil)) (by show [x.length, y.length].sum + 2 * 0 ≤ _; simp; exact lle [_, _] [.le (.a (.v 0) (.v 1)) (.n 100000)] [1] (.a (.v 0) (.v 1)) (.n 16777216) (by exact yes) hl) fun t' k => h _ _ _ ?_
  rw [join_cps]
  simp
theorem acc_str (R0 : GrK w h₀ mg mb) : ∀ {n : Nat} {ρ : List Addr} {S : MS} {q : Sta} {env : Env} {A : Around} {E : Value → Shared → Prop} {s : Shared} {Q : Value → Shared → Prop} {i d : Nat} {a : Addr} {vs : List MV} {ps : List Pc}, AOk n A → Rel (GK w h₀ mg mb) ρ S q env s.heap →
    S.objs[i]? = some (.acc d vs) → ρ[i]? = some a → Pieces S.objs vs ps → (catL ps).length ≤ stopLen → vs.length ≤ stopLen → Post (GK w h₀ mg mb) ρ S q env s VR (.str (catL ps)) Q → wpAny (model lawP w) A (call (.type "str") [.ref a] []) Q E s := by
  intro n ρ S q env A E s Q i d a vs ps hA R hob ea hps hlt hlv hQ
  have hst : stopLen = 4096 := rfl
  obtain ⟨items, sz, ad, ed, e, p⟩ := R.at hob ea
  obtain ⟨od, hod⟩ := R.T.lt ad (List.mem_of_getElem? ed)
  obtain ⟨Ts, xs, ys, us, ws, hpl, hit, htu, hxy⟩ := pieces_choice (pieces_at R hps p)
  have X := KIn R0 R.keep
  have I : InstAt s.heap a (accObj ad items sz) 153 (some od) := ⟨e, rfl, rfl, hod⟩
  have hu := hA.units
  refine kso_call (by show A.units + 1 + 1 < _; exact llt [_, _, _] [.lt (.a (.a (.v 0) (.m 8 (.v 2))) (.n 40)) (.v 1)] [1] (.a (.a (.v 0) (.n 1)) (.n 1)) (.v 1) (by exact yes) hu) X I (f := 127) rfl rfl (wpAny_call (codeAny_call_def (binds := [(("self" : Str), .ref a)]) (by have := hA.depth; show A.depth < _; exact llt [_, _, _] [.lt (.a (.a (.v 0) (.v 2)) (.n 10)) (.v 1)] [1] (.v 0) (.v 1) (by exact yes) this) (X 127 _ rfl) rfl (R0.nl.keeps R.keep) (codeRec_of X rfl) rfl (BindsTo.of_eq rfl) (by decide) (fun x hx => by
    rcases List.mem_cons.mp hx with rfl | hx
    · rfl
    · cases hx) (fun h₁ hns hk₁ => ?_)))
  have R₁ := R.keeps hk₁
  obtain ⟨te, hE⟩ : ∃ te, mg "EMPTYSTRING" = some (.str "" te) := ⟨_, mg_of R0.X R0.g rfl⟩
  refine wpAny_execs_cons (wpAny_Return_some (meth1 (wpAny_Name (ks_loadName_global rfl rfl (loadGlobal_global (R0.g.keeps R₁.keep) hE ?_)) (by decide))))
  refine getMethod_builtin (typeIs_str _ _ _) F.plainAttrs_str F.slot_str_join F.type_str_join (fun a e => nomatch e) ?_
  refine callWith_builtin rfl (Calls.evalArgs_plain (Calls.spliced_cons ?_))
  have hlen := cat_len2 ps
  have hle : ∀ j, (xs j).length + (ys j).length ≤ 4096 := fun j => by
    have h1 := getD_le_sum (fun p : List Nat × List Nat => ((p.1.length + p.2.length : Nat) : Int)) ([], []) rfl (fun x => by exact Int.natCast_nonneg _) ps j
    rw [← hlen] at h1
    have h1 : (((ps.getD j ([], [])).1.length + (ps.getD j ([], [])).2.length : Nat) : Int) ≤ ((catL ps).length : Int) := h1
    rw [← (hxy j).1, ← (hxy j).2] at h1
    rw [len_cps, len_cps]
    omega
  refine gen_row (f := 127) (l := lam127) R0 R₁ rfl rfl rfl rfl rfl (by exact hA.handled) (by have := hA.depth; show A.depth + 1 < _; exact llt [_, _, _] [.lt (.a (.a (.v 0) (.v 2)) (.n 10)) (.v 1)] [1] (.a (.v 0) (.n 1)) (.v 1) (by exact yes) this) (hk₁ _ _ e) hit (fun j hj => (by obtain ⟨o, z, r⟩ := htu j hj; exact ⟨o, hk₁ _ _ z, r⟩)) (fun j => ⟨_, _, rfl⟩)
    rfl rfl (by decide) rfl rfl rfl (by decide) rfl (fun j y => ∃ z t, y = .str z t ∧ z.cps.toList = (ps.getD j ([], [])).1 ++ (ps.getD j ([], [])).2) (fun Q' hq => wpAny_Name (wpAny_loadName_local rfl rfl hns rfl hq) (by decide)) ?_ (fun _ => rfl) fun s₂ g G => ?_
  · intro C code A' E' j va vb s₃ m₂ hh' hv hn3 ha hb hk3
    have hv := congrArg Array.toList hv
    simp only [List.cons.injEq, and_true] at hv
    obtain ⟨rfl, rfl⟩ := hv
    refine meth1 (wpAny_Name (ks_loadName_global rfl rfl (loadGlobal_global (R0.g.keeps hk3) hE ?_)) (by decide))
    refine getMethod_builtin (typeIs_str _ _ _) F.plainAttrs_str F.slot_str_join F.type_str_join (fun a e => nomatch e) ?_
    refine callWith_builtin rfl (Calls.evalArgs_plain (Calls.spliced_cons (wpAny_Tuple (k := 0) ?_)))
    refine Calls.spliced_cons (wpAny_Name (wpAny_loadName_local rfl rfl hn3 ha ?_) (by decide))
    refine Calls.spliced_cons (wpAny_Name (wpAny_loadName_local rfl rfl hn3 hb ?_) (by decide))
    refine Calls.spliced_nil ⟨(show 2 ≤ sizeLine by decide), Calls.spliced_nil ?_⟩
    refine empty_join (Heap.get?_push_size _ rfl) (by have := hle j; exact lle [_, _] [.le (.a (.v 0) (.v 1)) (.n 4096)] [1] (.a (.v 0) (.v 1)) (.n 100000) (by exact yes) this) fun z u tk hz => ⟨⟨z, u, rfl, ?_⟩, _, _, rfl, push_stays _ _⟩
    rw [hz, (hxy j).1, (hxy j).2]
  · obtain ⟨fp, wr, gi, St, W, hst, hT, hg, hfp, made⟩ := G.made
    refine Calls.spliced_nil ?_
    have hsz : vs.length = items.size := pd_len p
    have hn4 : items.size ≤ sizeLine := Nat.le_trans (by exact lle [_, _, _] [.le (.v 1) (.v 2), .eq (.v 2) (.n 4096), .eq (.v 1) (.v 0)] [1, 1, -1] (.v 0) (.n 4096) (by exact yes) hlv (‹stopLen = 4096›) hsz : items.size ≤ 4096) (by decide)
    refine SC.joinGen W.in4_2 hT hst hfp hg (fun i v ⟨z, t, hv, _⟩ => ⟨z, t, hv⟩) (fun s' l hm hacc => ?_) hn4
    have hcat : (l.map fun p => p.1.cps.toList) = ps.map fun p => p.1 ++ p.2 := by
      have hl : l.length = ps.length := by
        have := hacc.1
        simp only [strValues, List.size_toArray, List.length_map] at this
        omega
      refine List.ext_getElem (by simp [hl]) fun j h1 h2 => ?_
      simp only [List.length_map] at h1 h2
      obtain ⟨z, u, hv, hz⟩ := hacc.2 j (.str l[j].1 l[j].2) (by simp [strValues, List.getElem?_eq_getElem h1])
      cases hv
      rw [List.getElem_map, List.getElem_map, hz, List.getD_eq_getElem?_getD, List.getElem?_eq_getElem h2]
      rfl
    obtain ⟨R₃, X₃⟩ := GenMade.done (s := ⟨h₁, s.gens, s.drawn, s.toks + 1, s.os⟩) (s₀ := s) (P := lam127.2.1) (tk := s₂.toks) (by show (122 : Nat) ∈ ([115, 122, 225, 246] : List Nat); decide) hk₁ rfl rfl rfl G made hm env.locals
    have hjt : (Txt.join "" (l.map (·.1))).cps.toList = catL ps := by
      rw [join_cps, List.map_map, catL, List.flatMap_def]
      exact congrArg _ hcat
    have hsum : ((l.map (·.1)).map (·.length)).sum = (catL ps).length := by rw [sum_flat, ← join_cps, hjt]
    refine ⟨joinOk_of ?_, fun t' k => ?_⟩
    · rw [hsum]
      show (catL ps).length + (l.map (·.1)).length * 0 ≤ _
      exact lle [_, _, _] [.le (.v 0) (.v 2), .eq (.v 2) (.n 4096)] [1, 1] (.a (.v 0) (.w (.v 1) 0)) (.n 16777216) (by exact yes) hlt (‹stopLen = 4096›)
    · show Q _ _
      exact hQ { s' with toks := k } ρ _ R₃ (X₃.trans Ext.toks) (by rw [← hjt]; exact .str _ _)
end
end Mine
end
section
open PySem PySem.W PyProof.Rows
namespace Mine
/-- the pattern's words -/
noncomputable def reC : Array Nat := #[14, 8, 1, 2, 4294967295, 1, 1, 46, 0, 16, 46, 24, 9, 1, 4294967295, 13, 4, 8, 0, 0, 1, 6, 5, 1]
/-- a state of the engine -/
noncomputable def reM (t : Array Nat) (s pc pos handed : Nat) (om : Bool) (fs : List Sre.Frame) (w : Nat) (a : Option Bool) (sn : Sre.Seen) : Sre.M :=
  { code := reC, text := t, lim := t.size, start := s, lastStart := t.size, pc := pc, pos := pos, handed := handed, outermost := om, marks := #[], frames := fs, weight := w, answer := a, seen := sn }
noncomputable def reF0 (pos : Nat) (om : Bool) : Sre.Frame := { wait := .nextStart, pc := 9, pos := pos, outermost := om }
noncomputable def reF1 (pos : Nat) (om : Bool) (n : Int) : Sre.Frame := { wait := .giveBack, pc := 11, pos := pos, outermost := om, count := n }
section
variable {t : Array Nat} {s pos hd w : Nat} {om : Bool} {fs : List Sre.Frame} {sn : Sre.Seen}
theorem re_lit_no (h : ¬ (pos < t.size ∧ t.getD pos 0 = 46)) : ∃ sn', (reM t s 9 pos hd om fs w none sn).step = reM t s 9 pos hd om fs w (some false) sn' := by
  by_cases hp : pos < t.size
  · have hc : (t.getD pos 0 == 46) = false := by
      rw [beq_eq_false_iff_ne]
      exact fun e => h ⟨hp, e⟩
    refine ⟨(sn.add 16), ?_⟩
    show (if pos ≥ t.size then _ else _) = _
    rw [if_neg (by exact fun hz => lif [_, _] [.le (.v 0) (.v 1), .lt (.v 1) (.v 0)] [1, 1] (by exact yes) hz hp)]
    show (match (Except.ok (t.getD pos 0 == 46, sn.add 16) : Except String (Bool × Sre.Seen)) with | .error why => _ | .ok (false, seen) => _ | .ok (true, seen) => _) = _
    rw [hc]
    rfl
  · refine ⟨(sn.add 16), ?_⟩
    show (if pos ≥ t.size then _ else _) = _
    rw [if_pos (by exact lle [_, _] [.le (.v 0) (.v 1)] [1] (.v 0) (.v 1) (by exact yes) (Nat.le_of_not_lt hp))]
    rfl
theorem re_lit_yes (hp : pos < t.size) (hc : t.getD pos 0 = 46) : ∃ sn', (reM t s 9 pos hd om fs w none sn).step = reM t s 11 (pos + 1) hd om fs w none sn' := by
  refine ⟨(sn.add 16), ?_⟩
  show (if pos ≥ t.size then _ else _) = _
  rw [if_neg (by exact fun hz => lif [_, _] [.le (.v 0) (.v 1), .lt (.v 1) (.v 0)] [1, 1] (by exact yes) hz hp)]
  show (match (Except.ok (t.getD pos 0 == 46, sn.add 16) : Except String (Bool × Sre.Seen)) with | .error why => _ | .ok (false, seen) => _ | .ok (true, seen) => _) = _
  rw [hc]
  rfl
theorem acc15 (c : Nat) (sn : Sre.Seen) : ∃ sn', Sre.accepts reC 15 c sn = .ok (Sre.isDigit c, sn') := by
  cases h : Sre.isDigit c with
  | true =>
    refine ⟨(sn.add 8).add 55, ?_⟩
    show (do if ← (Except.ok (Sre.isDigit c != false) : Except String Bool) then pure _ else _) = _
    rw [h]; rfl
  | false =>
    refine ⟨((sn.add 8).add 55).add 0, ?_⟩
    show (do if ← (Except.ok (Sre.isDigit c != false) : Except String Bool) then _ else _) = _
    rw [h]; rfl
noncomputable def nd (t : Array Nat) : Nat → Nat → Nat
  | 0, _ => 0
  | n + 1, p => if Sre.isDigit (t.getD p 0) = true then nd t n (p + 1) + 1 else 0
theorem run15 : ∀ (n p found : Nat) (sn : Sre.Seen), ∃ sn', Sre.run reC t 15 n p found sn = .ok (found + nd t n p, sn')
  | 0, _, _, sn => ⟨sn, rfl⟩
  | n + 1, p, found, sn => by
    obtain ⟨s1, h1⟩ := acc15 (t.getD p 0) sn
    unfold Sre.run nd
    rw [h1]
    by_cases h : Sre.isDigit (t.getD p 0) = true
    · obtain ⟨s2, h2⟩ := run15 n (p + 1) (found + 1) s1
      refine ⟨s2, ?_⟩
      show (if Sre.isDigit (t.getD p 0) = true then _ else _) = _
      rw [if_pos h, if_pos h, h2]
      congr 2
      exact leq [_, _] [] [] [] (.a (.a (.v 0) (.n 1)) (.v 1)) (.a (.v 0) (.a (.v 1) (.n 1))) (by exact yes) (by exact yes)
    · refine ⟨s1, ?_⟩
      show (if Sre.isDigit (t.getD p 0) = true then _ else _) = _
      rw [if_neg h, if_neg h]
      rfl
theorem re_min (hz : t.size ≤ 4096) : min 4294967295 ((t.size : Int) - pos).toNat = t.size - pos := by
  rw [Int.toNat_sub]; exact Nat.min_eq_right (Nat.le_trans (Nat.sub_le _ _) (Nat.le_trans hz (by decide)))
theorem re_rep_no (hz : t.size ≤ 4096) (h : nd t (t.size - pos) pos = 0) : ∃ sn', (reM t s 11 pos hd om fs w none sn).step = reM t s 11 pos hd om fs w (some false) sn' := by
  by_cases hr : ((1 : Nat) : Int) > (t.size : Int) - pos
  · refine ⟨sn.add 24, ?_⟩
    show (if ((1 : Nat) : Int) > (t.size : Int) - pos then _ else _) = _
    rw [if_pos hr]
    rfl
  · obtain ⟨s2, h2⟩ := run15 (t := t) (min 4294967295 ((t.size : Int) - pos).toNat) pos 0 ((sn.add 24).add 13)
    have hm := re_min (pos := pos) hz
    rw [hm, h] at h2
    refine ⟨s2, ?_⟩
    show (if ((1 : Nat) : Int) > (t.size : Int) - pos then _ else match Sre.run reC t 15 (min 4294967295 ((t.size : Int) - pos).toNat) pos 0 ((sn.add 24).add 13) with | .error why => _ | .ok (n, seen) => _) = _
    rw [if_neg hr, hm, h2]
    rfl
theorem re_rep_yes (hz : t.size ≤ 4096) {n : Nat} (h : nd t (t.size - pos) pos = n + 1) (hp : pos < t.size) (hw : w ≤ 1000) : ∃ sn', (reM t s 11 pos hd om fs w none sn).step = reM t s 21 (pos + (n + 1)) (pos + (n + 1)) om (reF1 (pos + (n + 1)) om ((n + 1 : Nat) : Int) :: fs) (w + 1) none sn' := by
  have hr : ¬ ((1 : Nat) : Int) > (t.size : Int) - pos := by omega
  obtain ⟨s2, h2⟩ := run15 (t := t) (min 4294967295 ((t.size : Int) - pos).toNat) pos 0 ((sn.add 24).add 13)
  have hm := re_min (pos := pos) hz
  rw [hm, h, Nat.zero_add] at h2
  refine ⟨s2, ?_⟩
  show (if ((1 : Nat) : Int) > (t.size : Int) - pos then _ else match Sre.run reC t 15 (min 4294967295 ((t.size : Int) - pos).toNat) pos 0 ((sn.add 24).add 13) with | .error why => _ | .ok (n, seen) => _) = _
  rw [if_neg hr, hm, h2]
  show (if n + 1 < 1 then _ else _) = _
  rw [if_neg (by exact fun hz => lif [_] [.lt (.a (.v 0) (.n 1)) (.n 1)] [1] (by exact yes) hz)]
  show (if w + 1 + 0 > 16777216 then _ else _) = _
  rw [if_neg (by exact fun hz => lif [_] [.lt (.n 16777216) (.a (.a (.v 0) (.n 1)) (.n 0)), .le (.v 0) (.n 1000)] [1, 1] (by exact yes) hz hw)]
  rfl
theorem re_at (yes : Bool) (h : (pos == t.size || (pos + 1 == t.size && t.getD pos 0 == 10)) = yes) : ∃ sn', (reM t s 21 pos hd om fs w none sn).step = if yes = true then reM t s 23 pos hd om fs w none sn' else reM t s 21 pos hd om fs w (some false) sn' := by
  refine ⟨(sn.add 6).add 48, ?_⟩
  show (match (Except.ok (pos == t.size || (pos + 1 == t.size && t.getD pos 0 == 10)) : Except String Bool) with
    | .error why => Sre.M.stick (reM t s 21 pos hd om fs w none (sn.add 6)) why
    | .ok yes => if yes = true then { reM t s 21 pos hd om fs w none ((sn.add 6).add 48) with pc := 23 } else Sre.M.say (reM t s 21 pos hd om fs w none ((sn.add 6).add 48)) false) = _
  rw [h]
  cases yes <;> rfl
theorem re_succ : ∃ sn', (reM t s 23 pos hd om fs w none sn).step = reM t s 23 pos pos om fs w (some true) sn' := by
  refine ⟨sn.add 1, ?_⟩
  cases om <;> rfl
theorem re_r1_yes {p q : Nat} {o : Bool} {n : Int} : (reM t s q pos hd om (reF1 p o n :: fs) (w + 1) (some true) sn).step = reM t s 11 p hd o fs w (some true) sn := rfl
theorem re_r1_end {p q : Nat} {o : Bool} {n : Int} (h : n - 1 < 1) : (reM t s q pos hd om (reF1 p o n :: fs) (w + 1) (some false) sn).step = reM t s 11 p hd o fs w (some false) sn := by
  show (if n - 1 < 1 then _ else _) = _
  rw [if_pos h]
  rfl
theorem re_r1_more {p q : Nat} {o : Bool} {n : Int} (h : ¬ n - 1 < 1) (hw : w ≤ 1000) : (reM t s q pos hd om (reF1 p o n :: fs) (w + 1) (some false) sn).step = reM t s 21 (p - 1) (p - 1) o (reF1 (p - 1) o (n - 1) :: fs) (w + 1) none sn := by
  show (if n - 1 < 1 then _ else _) = _
  rw [if_neg h]
  show (if w + 1 + 0 > 16777216 then _ else _) = _
  rw [if_neg (by exact fun hz => lif [_] [.lt (.n 16777216) (.a (.a (.v 0) (.n 1)) (.n 0)), .le (.v 0) (.n 1000)] [1, 1] (by exact yes) hz hw)]
  rfl
theorem re_r0_yes {p q : Nat} {o : Bool} : (reM t s q pos hd om (reF0 p o :: fs) (w + 1) (some true) sn).step = reM t s 9 p hd o fs w (some true) sn := rfl
theorem re_r0_end {p q : Nat} {o : Bool} (h : ¬ p < t.size) : (reM t s q pos hd om (reF0 p o :: fs) (w + 1) (some false) sn).step = reM t s 9 p hd o fs w (some false) sn := by
  show (if p < t.size then _ else _) = _
  rw [if_neg h]
  rfl
theorem re_r0_more {p q : Nat} {o : Bool} (h : p < t.size) (hw : w ≤ 1000) : (reM t s q pos hd om (reF0 p o :: fs) (w + 1) (some false) sn).step = reM t (p + 1) 9 (p + 1) (p + 1) false (reF0 (p + 1) false :: fs) (w + 1) none sn := by
  show (if p < t.size then _ else _) = _
  rw [if_pos h]
  show (if w + 1 + 0 > 16777216 then _ else _) = _
  rw [if_neg (by exact fun hz => lif [_] [.lt (.n 16777216) (.a (.a (.v 0) (.n 1)) (.n 0)), .le (.v 0) (.n 1000)] [1, 1] (by exact yes) hz hw)]
  rfl
end
end Mine
end
section
open PySem PySem.W PyProof.Rows
namespace Mine
noncomputable def Goes (B : Nat) (m : Sre.M) (o : Bool) : Prop := ∃ n, n ≤ B ∧ (m.runFor n).outcome = some (if o = true then .matched else .failed)
theorem Goes.le {B B' : Nat} {m : Sre.M} {o : Bool} (h : Goes B m o) (l : B ≤ B') : Goes B' m o := (by obtain ⟨n, h1, h2⟩ := h; exact ⟨n, Nat.le_trans h1 l, h2⟩)
theorem Goes.one {B : Nat} {m m' : Sre.M} {o : Bool} (hm : m.outcome = none) (hs : m.step = m') (h : Goes B m' o) : Goes (B + 1) m o := by
  obtain ⟨n, h1, h2⟩ := h
  refine ⟨n + 1, by exact lle [_, _] [.le (.v 0) (.v 1)] [1] (.a (.v 0) (.n 1)) (.a (.v 1) (.n 1)) (by exact yes) h1, ?_⟩
  unfold Sre.M.runFor
  rw [hm, hs]
  exact h2
section
variable {t : Array Nat} {s pos hd w : Nat} {om : Bool} {fs : List Sre.Frame} {sn : Sre.Seen}
theorem goes_end (q : Nat) (o : Bool) : Goes 1 (reM t s q pos hd om [] w (some o) sn) o := by
  refine ⟨1, Nat.le_refl _, ?_⟩
  cases o <;> rfl
noncomputable def atEnd (t : Array Nat) (pos : Nat) : Bool := pos == t.size || (pos + 1 == t.size && t.getD pos 0 == 10)
theorem goes_back {B p0 : Nat} {o : Bool} (hw : w ≤ 1000) (h : ∀ q pos hd sn', Goes B (reM t s q pos hd om fs w (some false) sn') o) : ∀ (k : Nat) {hd : Nat} {sn : Sre.Seen}, (∀ j, 1 ≤ j → j ≤ k + 1 → atEnd t (p0 + j) = false) →
    Goes (B + 2 * (k + 1)) (reM t s 21 (p0 + (k + 1)) hd om (reF1 (p0 + (k + 1)) om ((k + 1 : Nat) : Int) :: fs) (w + 1) none sn) o
  | 0, hd, sn, ha => by
    obtain ⟨s1, h1⟩ := re_at (s := s) (hd := hd) (om := om) (w := w + 1) (fs := reF1 (p0 + 1) om ((1 : Nat) : Int) :: fs) (sn := sn) false (ha 1 (Nat.le_refl _) (Nat.le_refl _))
    refine Goes.one (B := B + 1) rfl h1 ?_
    rw [if_neg (by decide)]
    exact Goes.one rfl (re_r1_end (by omega)) (h ..)
  | k + 1, hd, sn, ha => by
    obtain ⟨s1, h1⟩ := re_at (s := s) (hd := hd) (om := om) (w := w + 1) (fs := reF1 (p0 + (k + 1 + 1)) om ((k + 1 + 1 : Nat) : Int) :: fs) (sn := sn) false (ha (k + 1 + 1) (by exact lle [_] [] [] (.n 1) (.a (.a (.v 0) (.n 1)) (.n 1)) (by exact yes)) (by exact lle [_] [] [] (.a (.a (.v 0) (.n 1)) (.n 1)) (.a (.a (.v 0) (.n 1)) (.n 1)) (by exact yes)))
    refine Goes.one (B := B + 2 * (k + 1) + 1) rfl h1 ?_
    rw [if_neg (by decide)]
    refine Goes.one rfl (re_r1_more (by omega) hw) ?_
    have := goes_back (B := B) hw h k (hd := p0 + (k + 1)) (sn := s1) fun j h1 h2 => ha j h1 (by exact lle [_, _] [.le (.v 0) (.a (.v 1) (.n 1))] [1] (.v 0) (.a (.a (.v 1) (.n 1)) (.n 1)) (by exact yes) h2)
    rw [show p0 + (k + 1 + 1) - 1 = p0 + (k + 1) by exact leq [_, _, _] [.eq (.a (.v 0) (.n 1)) (.a (.v 1) (.a (.a (.v 2) (.n 1)) (.n 1)))] [1] [-1] (.v 0) (.a (.v 1) (.a (.v 2) (.n 1))) (by exact yes) (by exact yes) (Nat.sub_add_cancel (lle [_, _] [] [] (.n 1) (.a (.v 0) (.a (.a (.v 1) (.n 1)) (.n 1))) (by exact yes))), show (((k + 1 + 1 : Nat) : Int) - 1) = ((k + 1 : Nat) : Int) by omega]
    exact this
theorem nd_at : ∀ (n p j : Nat), j < nd t n p → Sre.isDigit (t.getD (p + j) 0) = true
  | 0, p, j, h => by unfold nd at h; exact (lif [_] [.lt (.v 0) (.n 0)] [1] (by exact yes) h).elim
  | n + 1, p, j, h => by
    unfold nd at h
    split at h
    · rename_i hd
      cases j with
      | zero => exact hd
      | succ j => rw [show p + (j + 1) = p + 1 + j by exact leq [_, _] [] [] [] (.a (.v 0) (.a (.v 1) (.n 1))) (.a (.a (.v 0) (.n 1)) (.v 1)) (by exact yes) (by exact yes)]; exact nd_at n (p + 1) j (by exact llt [_, _] [.lt (.a (.v 0) (.n 1)) (.a (.v 1) (.n 1))] [1] (.v 0) (.v 1) (by exact yes) h)
    · exact (lif [_] [.lt (.v 0) (.n 0)] [1] (by exact yes) h).elim
theorem nd_le : ∀ (n p : Nat), nd t n p ≤ n
  | 0, _ => Nat.le_refl _
  | n + 1, p => by unfold nd; split <;> have := nd_le n (p + 1) <;> omega
theorem dig_not_end {p : Nat} (hp : p < t.size) (h : Sre.isDigit (t.getD p 0) = true) : atEnd t p = false := by
  unfold atEnd
  unfold Sre.isDigit at h
  rw [Bool.and_eq_true, decide_eq_true_iff, decide_eq_true_iff] at h
  rw [Bool.or_eq_false_iff, Bool.and_eq_false_iff, beq_eq_false_iff_ne, beq_eq_false_iff_ne, beq_eq_false_iff_ne]
  exact ⟨by exact fun hz => lif [_, _] [.eq (.v 0) (.v 1), .lt (.v 0) (.v 1)] [-1, 1] (by exact yes) hz hp, .inr (by exact fun hz => lif [_] [.eq (.v 0) (.n 10), .le (.n 48) (.v 0)] [1, 1] (by exact yes) hz h.1)⟩
/-- a dot at this place, figures behind it, the end -/
noncomputable def hitAt (t : Array Nat) (s : Nat) : Bool := decide (s < t.size) && (t.getD s 0 == 46 && (decide (0 < nd t (t.size - (s + 1)) (s + 1)) && atEnd t (s + 1 + nd t (t.size - (s + 1)) (s + 1))))
theorem goes_try {B : Nat} {o : Bool} (hz : t.size ≤ 4096) (hit : hitAt t s = true → o = true) (miss : hitAt t s = false → ∀ q pos hd sn' om', Goes B (reM t s q pos hd om' [reF0 s om] 1 (some false) sn') o) (hB : 4 ≤ B) :
    Goes (B + 9000) (reM t s 9 s s om [reF0 s om] 1 none sn) o := by
  by_cases h1 : s < t.size ∧ t.getD s 0 = 46
  · obtain ⟨s1, e1⟩ := re_lit_yes (s := s) (hd := s) (om := om) (w := 1) (fs := [reF0 s om]) (sn := sn) h1.1 h1.2
    refine Goes.le (Goes.one (B := B + 8998) rfl e1 ?_) (by exact lle [_] [] [] (.a (.a (.v 0) (.n 8998)) (.n 1)) (.a (.v 0) (.n 9000)) (by exact yes))
    cases hn : nd t (t.size - (s + 1)) (s + 1) with
    | zero =>
      obtain ⟨s2, e2⟩ := re_rep_no (s := s) (hd := s) (om := om) (w := 1) (fs := [reF0 s om]) (sn := s1) hz hn
      refine Goes.le (Goes.one (B := B) rfl e2 (miss ?_ ..)) (by exact lle [_] [] [] (.a (.v 0) (.n 1)) (.a (.v 0) (.n 8998)) (by exact yes))
      unfold hitAt
      rw [hn]
      simp
    | succ n =>
      have hle := nd_le (t := t) (t.size - (s + 1)) (s + 1)
      rw [hn] at hle
      obtain ⟨s2, e2⟩ := re_rep_yes (s := s) (hd := s) (om := om) (w := 1) (fs := [reF0 s om]) (sn := s1) hz hn (by omega) (by decide)
      refine Goes.le (Goes.one (B := B + 8997) rfl e2 ?_) (by exact lle [_] [] [] (.a (.a (.v 0) (.n 8997)) (.n 1)) (.a (.v 0) (.n 8998)) (by exact yes))
      cases hE : atEnd t (s + 1 + (n + 1)) with
      | true =>
        obtain ⟨s3, e3⟩ := re_at (s := s) (hd := s + 1 + (n + 1)) (om := om) (w := 2) (fs := reF1 (s + 1 + (n + 1)) om ((n + 1 : Nat) : Int) :: [reF0 s om]) (sn := s2) true hE
        refine Goes.le (Goes.one (B := 4) rfl e3 ?_) (by exact lle [_] [] [] (.n 5) (.a (.v 0) (.n 8997)) (by exact yes))
        rw [if_pos rfl]
        obtain ⟨s4, e4⟩ := re_succ (t := t) (s := s) (pos := s + 1 + (n + 1)) (hd := s + 1 + (n + 1)) (om := om) (w := 2) (fs := reF1 (s + 1 + (n + 1)) om ((n + 1 : Nat) : Int) :: [reF0 s om]) (sn := s3)
        refine Goes.one (B := 3) rfl e4 (Goes.one (B := 2) rfl re_r1_yes (Goes.one (B := 1) rfl re_r0_yes ?_))
        have : o = true := hit (by
          unfold hitAt
          rw [hn, hE, decide_eq_true h1.1, h1.2]
          simp)
        rw [this]
        exact goes_end _ _
      | false =>
        have hm : hitAt t s = false := by
          unfold hitAt
          rw [hn, hE]
          simp
        refine Goes.le (goes_back (B := B) (p0 := s + 1) (by decide) (fun q pos hd sn' => miss hm q pos hd sn' om) n fun j g1 g2 => ?_) (by exact lle [_, _, _, _] [.le (.v 2) (.n 4096), .le (.a (.v 1) (.n 1)) (.v 3), .le (.v 3) (.v 2)] [2, 2, 2] (.a (.v 0) (.m 2 (.a (.v 1) (.n 1)))) (.a (.v 0) (.n 8997)) (by exact yes) hz hle (Nat.sub_le _ _))
        by_cases hj : j = n + 1
        · rw [hj]; exact hE
        · exact dig_not_end (by omega) (nd_at _ _ j (by rw [hn]; exact llt [_, _] [.lt (.v 0) (.a (.v 1) (.n 1))] [1] (.v 0) (.a (.v 1) (.n 1)) (by exact yes) (Nat.lt_of_le_of_ne (g2) hj)))
  · obtain ⟨s1, e1⟩ := re_lit_no (s := s) (hd := s) (om := om) (w := 1) (fs := [reF0 s om]) (sn := sn) h1
    refine Goes.le (Goes.one (B := B) rfl e1 (miss ?_ ..)) (by exact lle [_] [] [] (.a (.v 0) (.n 1)) (.a (.v 0) (.n 9000)) (by exact yes))
    unfold hitAt
    rw [Bool.and_eq_false_iff, Bool.and_eq_false_iff, decide_eq_false_iff_not, beq_eq_false_iff_ne]
    by_cases hp : s < t.size
    · exact .inr (.inl fun e => h1 ⟨hp, e⟩)
    · exact .inl hp
end
end Mine
end
section
open PySem PySem.W PyProof.Rows
namespace Mine
section
variable {t : Array Nat} {s : Nat} {om : Bool} {sn : Sre.Seen}
theorem drop_at {p : Nat} (hp : p < t.size) : t.toList.drop p = t.getD p 0 :: t.toList.drop (p + 1) := by
  rw [List.drop_eq_getElem_cons (by simpa using hp)]
  congr 1
  rw [Array.getD_eq_getD_getElem?, Array.getElem?_eq_getElem hp]
  rfl
theorem drop_nil {p : Nat} (hp : t.size ≤ p) : t.toList.drop p = [] := List.drop_of_length_le (by simpa using hp)
theorem figs0_at : ∀ (n p : Nat), p + n = t.size → figs0 (t.toList.drop p) = atEnd t (p + nd t n p)
  | 0, p, h => by
    rw [drop_nil (by exact lle [_, _] [.eq (.a (.v 1) (.n 0)) (.v 0)] [-1] (.v 0) (.v 1) (by exact yes) h)]
    unfold nd atEnd figs0
    simp; omega
  | n + 1, p, h => by
    rw [drop_at (by exact llt [_, _, _] [.eq (.a (.v 0) (.a (.v 2) (.n 1))) (.v 1)] [1] (.v 0) (.v 1) (by exact yes) h)]
    unfold figs0 nd
    have ih := figs0_at n (p + 1) (by exact leq [_, _, _] [.eq (.a (.v 0) (.a (.v 1) (.n 1))) (.v 2)] [1] [-1] (.a (.a (.v 0) (.n 1)) (.v 1)) (.v 2) (by exact yes) (by exact yes) h)
    by_cases hd : Sre.isDigit (t.getD p 0) = true
    · rw [if_pos hd, ih]
      have hd' := hd
      unfold Sre.isDigit at hd'
      rw [hd', Bool.true_and]
      rw [Bool.and_eq_true, decide_eq_true_iff, decide_eq_true_iff] at hd'
      have : (t.getD p 0 == 10) = false := by rw [beq_eq_false_iff_ne]; exact fun hz => lif [_] [.eq (.v 0) (.n 10), .le (.n 48) (.v 0)] [1, 1] (by exact yes) hz hd'.1
      rw [this, Bool.false_and, Bool.false_or]
      congr 1
      exact leq [_, _] [] [] [] (.a (.a (.v 0) (.n 1)) (.v 1)) (.a (.v 0) (.a (.v 1) (.n 1))) (by exact yes) (by exact yes)
    · rw [if_neg hd]
      have hd' : (decide (48 ≤ t.getD p 0) && decide (t.getD p 0 ≤ 57)) = false := by simpa [Sre.isDigit] using hd
      rw [hd', Bool.false_and, Bool.or_false]
      unfold atEnd
      have h1 : (p + 0 == t.size) = false := by rw [beq_eq_false_iff_ne]; exact fun hz => lif [_, _, _] [.eq (.a (.v 0) (.n 0)) (.v 1), .eq (.a (.v 0) (.a (.v 2) (.n 1))) (.v 1)] [-1, 1] (by exact yes) hz h
      rw [h1, Bool.false_or, Nat.add_zero]
      by_cases hn : n = 0
      · rw [drop_nil (by exact lle [_, _, _] [.eq (.a (.v 1) (.a (.v 2) (.n 1))) (.v 0), .eq (.v 2) (.n 0)] [-1, 1] (.v 0) (.a (.v 1) (.n 1)) (by exact yes) h hn), show (p + 1 == t.size) = true by rw [beq_iff_eq]; exact leq [_, _, _] [.eq (.a (.v 0) (.a (.v 2) (.n 1))) (.v 1), .eq (.v 2) (.n 0)] [1, 0] [-1, 1] (.a (.v 0) (.n 1)) (.v 1) (by exact yes) (by exact yes) h hn]
        simp
      · rw [drop_at (by exact llt [_, _, _] [.eq (.a (.v 0) (.a (.v 2) (.n 1))) (.v 1), .lt (.n 0) (.v 2)] [1, 1] (.a (.v 0) (.n 1)) (.v 1) (by exact yes) h (Nat.pos_of_ne_zero hn)), show (p + 1 == t.size) = false by rw [beq_eq_false_iff_ne]; exact fun hz => lif [_, _, _] [.eq (.a (.v 0) (.n 1)) (.v 1), .eq (.a (.v 0) (.a (.v 2) (.n 1))) (.v 1), .lt (.n 0) (.v 2)] [-1, 1, 1] (by exact yes) hz h (Nat.pos_of_ne_zero hn)]
        simp
theorem figs_cons (c : Nat) (r : List Nat) : figs (c :: r) = (decide (48 ≤ c) && decide (c ≤ 57) && figs0 r) := rfl
theorem ip_cons (c : Nat) (r : List Nat) : ipAt (c :: r) = ((c == 46 && figs r) || ipAt r) := rfl
theorem figs_at (n p : Nat) (h : p + n = t.size) : figs (t.toList.drop p) = (decide (0 < nd t n p) && atEnd t (p + nd t n p)) := by
  cases n with
  | zero =>
    rw [drop_nil (by exact lle [_, _] [.eq (.a (.v 1) (.n 0)) (.v 0)] [-1] (.v 0) (.v 1) (by exact yes) h)]
    rfl
  | succ n =>
    rw [drop_at (by exact llt [_, _, _] [.eq (.a (.v 0) (.a (.v 2) (.n 1))) (.v 1)] [1] (.v 0) (.v 1) (by exact yes) h), figs_cons]
    unfold nd
    by_cases hd : Sre.isDigit (t.getD p 0) = true
    · rw [if_pos hd]
      have hd' := hd
      unfold Sre.isDigit at hd'
      rw [hd', Bool.true_and, figs0_at n (p + 1) (by exact leq [_, _, _] [.eq (.a (.v 0) (.a (.v 1) (.n 1))) (.v 2)] [1] [-1] (.a (.a (.v 0) (.n 1)) (.v 1)) (.v 2) (by exact yes) (by exact yes) h), decide_eq_true (by exact llt [_] [] [] (.n 0) (.a (.v 0) (.n 1)) (by exact yes)), Bool.true_and]
      congr 1
      exact leq [_, _] [] [] [] (.a (.a (.v 0) (.n 1)) (.v 1)) (.a (.v 0) (.a (.v 1) (.n 1))) (by exact yes) (by exact yes)
    · rw [if_neg hd]
      have hd' : (decide (48 ≤ t.getD p 0) && decide (t.getD p 0 ≤ 57)) = false := by simpa [Sre.isDigit] using hd
      rw [hd']
      rfl
theorem ip_at {p : Nat} (hp : p < t.size) : ipAt (t.toList.drop p) = (hitAt t p || ipAt (t.toList.drop (p + 1))) := by
  rw [drop_at hp, ip_cons]
  unfold hitAt
  rw [figs_at (t.size - (p + 1)) (p + 1) (by exact leq [_, _, _] [.eq (.a (.v 1) (.a (.v 0) (.n 1))) (.v 2)] [1] [-1] (.a (.a (.v 0) (.n 1)) (.v 1)) (.v 2) (by exact yes) (by exact yes) (Nat.sub_add_cancel (lle [_, _] [.lt (.v 0) (.v 1)] [1] (.a (.v 0) (.n 1)) (.v 1) (by exact yes) hp))), decide_eq_true hp, Bool.true_and]
theorem goes_search (hz : t.size ≤ 4096) : ∀ (k s : Nat) (om : Bool) (sn : Sre.Seen), s + k = t.size → Goes ((k + 1) * 9001 + 10) (reM t s 9 s s om [reF0 s om] 1 none sn) (ipAt (t.toList.drop s))
  | 0, s, om, sn, h => by
    have hf : hitAt t s = false := by
      unfold hitAt
      rw [decide_eq_false (by exact fun hz => lif [_, _] [.lt (.v 0) (.v 1), .eq (.a (.v 0) (.n 0)) (.v 1)] [1, -1] (by exact yes) hz h), Bool.false_and]
    refine Goes.le (goes_try (B := 10) hz (fun e => ?_) (fun _ q pos hd sn' om' => ?_) (by exact lle [] [] [] (.n 4) (.n 10) (by exact yes))) (by exact lle [] [] [] (.n 9010) (.n 9011) (by exact yes))
    · rw [hf] at e; cases e
    · rw [drop_nil (by exact lle [_, _] [.eq (.a (.v 1) (.n 0)) (.v 0)] [-1] (.v 0) (.v 1) (by exact yes) h)]
      exact Goes.le (Goes.one (B := 1) rfl (re_r0_end (by exact fun hz => lif [_, _] [.lt (.v 0) (.v 1), .eq (.a (.v 0) (.n 0)) (.v 1)] [1, -1] (by exact yes) hz h)) (goes_end _ _)) (by exact lle [] [] [] (.n 2) (.n 10) (by exact yes))
  | k + 1, s, om, sn, h => by
    rw [ip_at (by exact llt [_, _, _] [.eq (.a (.v 0) (.a (.v 2) (.n 1))) (.v 1)] [1] (.v 0) (.v 1) (by exact yes) h)]
    refine Goes.le (goes_try (B := (k + 1) * 9001 + 11) hz (fun e => ?_) (fun e q pos hd sn' om' => ?_) (by exact lle [_] [] [] (.n 4) (.a (.w (.a (.v 0) (.n 1)) 9001) (.n 11)) (by exact yes))) (by exact lle [_] [] [] (.a (.a (.w (.a (.v 0) (.n 1)) 9001) (.n 11)) (.n 9000)) (.a (.w (.a (.a (.v 0) (.n 1)) (.n 1)) 9001) (.n 10)) (by exact yes))
    · rw [e, Bool.true_or]
    · rw [e, Bool.false_or]
      exact Goes.one rfl (re_r0_more (w := 0) (by exact llt [_, _, _] [.eq (.a (.v 0) (.a (.v 2) (.n 1))) (.v 1)] [1] (.v 0) (.v 1) (by exact yes) h) (by decide)) (goes_search hz k (s + 1) false sn' (by exact leq [_, _, _] [.eq (.a (.v 0) (.a (.v 1) (.n 1))) (.v 2)] [1] [-1] (.a (.a (.v 0) (.n 1)) (.v 1)) (.v 2) (by exact yes) (by exact yes) h))
theorem goes_all (hz : t.size ≤ 4096) : Goes 40000000 (Sre.forSearch reC t 0 0 t.size false) (ipAt t.toList) := by
  by_cases h : t.size < 2
  · have e : Sre.forSearch reC t 0 0 t.size false = { reM t 0 9 0 0 true [] 0 (some false) (({} : Sre.Seen).add 14) with lastStart := 0 } := by
      show (if (decide (0 > t.size) || decide (t.size - 0 < 2)) = true then _ else _) = _
      rw [if_pos (by simp; exact h)]
      rfl
    rw [e]
    have hi : ipAt t.toList = false := by
      have h0 : t.toList.drop 0 = t.toList := rfl
      rw [← h0]
      by_cases hp : 0 < t.size
      · rw [ip_at hp, drop_nil (by exact lle [_] [.lt (.v 0) (.n 2)] [1] (.v 0) (.n 1) (by exact yes) h)]
        have : nd t (t.size - (0 + 1)) (0 + 1) = 0 := by
          rw [show t.size - (0 + 1) = 0 by exact leq [_] [.eq (.v 0) (.n 0)] [1] [0] (.v 0) (.n 0) (by exact yes) (by exact yes) (Nat.sub_eq_zero_of_le (lle [_] [.lt (.v 0) (.n 2)] [1] (.v 0) (.n 1) (by exact yes) h))]
          rfl
        unfold hitAt
        rw [this]
        simp [ipAt]
      · rw [drop_nil (by exact lle [_] [.le (.v 0) (.n 0)] [1] (.v 0) (.n 0) (by exact yes) (Nat.le_of_not_lt hp))]
        rfl
    rw [hi]
    exact ⟨1, by exact lle [] [] [] (.n 1) (.n 40000000) (by exact yes), rfl⟩
  · have e : Sre.forSearch reC t 0 0 t.size false = reM t 0 9 0 0 true [reF0 0 true] 1 none (({} : Sre.Seen).add 14) := by
      show (if (decide (0 > t.size) || decide (t.size - 0 < 2)) = true then _ else _) = _
      rw [if_neg (by simp; exact lle [_] [.le (.n 2) (.v 0)] [1] (.n 2) (.v 0) (by exact yes) (Nat.le_of_not_lt h))]
      rfl
    rw [e]
    exact Goes.le (goes_search hz t.size 0 true _ (by exact leq [_] [] [] [] (.a (.n 0) (.v 0)) (.v 0) (by exact yes) (by exact yes))) (by exact lle [_] [.le (.v 0) (.n 4096)] [9001] (.a (.w (.a (.v 0) (.n 1)) 9001) (.n 10)) (.n 40000000) (by exact yes) hz)
end
end Mine
end
section
open PySem PySem.W PyProof.Rows PySem.Calls
namespace Mine
section
variable {w : World} {M : Model} {A : Around} {E : Value → Shared → Prop} {s : Shared} {prog : Program}
theorem runFor_end : ∀ (n : Nat) (m : Sre.M), m.outcome.isSome = true → m.runFor n = m
  | 0, _, _ => rfl
  | n + 1, m, h => by unfold Sre.M.runFor; rw [if_pos h]
theorem runFor_add : ∀ (a b : Nat) (m : Sre.M), m.runFor (a + b) = (m.runFor a).runFor b
  | 0, b, m => by rw [Nat.zero_add]; rfl
  | a + 1, b, m => by
    rw [show a + 1 + b = (a + b) + 1 by exact leq [_, _] [] [] [] (.a (.a (.v 0) (.n 1)) (.v 1)) (.a (.a (.v 0) (.v 1)) (.n 1)) (by exact yes) (by exact yes)]
    show (if m.outcome.isSome = true then m else Sre.M.runFor (a + b) m.step) = (if m.outcome.isSome = true then m else Sre.M.runFor a m.step).runFor b
    by_cases h : m.outcome.isSome = true
    · rw [if_pos h, if_pos h, runFor_end b m h]
    · rw [if_neg h, if_neg h, runFor_add a b]
theorem drive {Q : Sre.M → Shared → Prop} : ∀ (turns n : Nat) (m : Sre.M), n ≤ 4 * turns → (m.runFor n).outcome.isSome = true → 0 < turns → Q (m.runFor n) s → wpAny M A (Builtin.Re.reDrive turns m) Q E s
  | 0, _, _, _, _, h, _ => by exact (lif [] [.lt (.n 0) (.n 0)] [1] (by exact yes) h).elim
  | turns + 1, n, m, hn, ho, _, hq => by
    unfold Builtin.Re.reDrive
    dsimp only
    by_cases h4 : (m.runFor 4).outcome.isSome = true
    · have e : m.runFor 4 = m.runFor n := by
        rcases Nat.le_total n 4 with h | h
        · rw [show (4 : Nat) = n + (4 - n) by exact leq [_, _] [.eq (.a (.v 1) (.v 0)) (.n 4)] [-1] [1] (.n 4) (.a (.v 0) (.v 1)) (by exact yes) (by exact yes) (Nat.sub_add_cancel (h)), runFor_add, runFor_end _ _ ho]
        · obtain ⟨j, rfl⟩ := Nat.exists_eq_add_of_le h
          rw [runFor_add, runFor_end j _ h4]
      show wpAny M A (if (m.runFor 4).outcome.isSome = true then _ else _) Q E s
      rw [if_pos h4]
      rw [← e] at hq
      exact wpAny_pure hq
    · show wpAny M A (if (m.runFor 4).outcome.isSome = true then _ else _) Q E s
      rw [if_neg h4]
      have hge : 4 ≤ n := by
        rcases Nat.lt_or_ge n 4 with h | h
        · exfalso
          apply h4
          rw [show (4 : Nat) = n + (4 - n) by exact leq [_, _] [.eq (.a (.v 1) (.v 0)) (.n 4)] [-1] [1] (.n 4) (.a (.v 0) (.v 1)) (by exact yes) (by exact yes) (Nat.sub_add_cancel (lle [_] [.lt (.v 0) (.n 4)] [1] (.v 0) (.n 4) (by exact yes) h)), runFor_add, runFor_end _ _ ho]
          exact ho
        · exact h
      obtain ⟨j, rfl⟩ := Nat.exists_eq_add_of_le hge
      rw [runFor_add] at ho hq
      refine wpAny_bind (wpAny_rule ?_)
      have h0 : 0 < turns := by
        rcases Nat.eq_zero_or_pos turns with h | h
        · subst h
          have : j = 0 := by exact leq [_] [.le (.a (.n 4) (.v 0)) (.n 4)] [1] [0] (.v 0) (.n 0) (by exact yes) (by exact yes) hn
          subst this
          exact absurd ho h4
        · exact h
      exact drive turns j _ (by exact lle [_, _] [.le (.a (.n 4) (.v 0)) (.m 4 (.a (.v 1) (.n 1)))] [1] (.v 0) (.m 4 (.v 1)) (by exact yes) hn) ho h0 hq
theorem rules {α : Type} {f : α → Sem (ForInStep PUnit)} (hf : ∀ x, (f x = pure (.yield ⟨⟩)) ∨ ∃ r, f x = rule r >>= fun _ => pure (.yield ⟨⟩)) {Q : PUnit → Shared → Prop} : ∀ (l : List α), Q ⟨⟩ s → wpAny M A (forIn l PUnit.unit fun x _ => f x) Q E s
  | [], h => by rw [List.forIn_nil]; exact wpAny_pure h
  | x :: l, h => by
    rw [List.forIn_cons]
    rcases hf x with e | ⟨r, e⟩
    · rw [e]
      exact wpAny_bind (wpAny_pure (rules hf l h))
    · rw [e]
      exact wpAny_bind (wpAny_bind (wpAny_rule (wpAny_pure (rules hf l h))))
end
end Mine
end
section
open PySem PySem.W PyProof.Rows PySem.Calls
namespace Mine
section
variable {w : World} {M : Model} {A : Around} {E : Value → Shared → Prop} {s : Shared} {prog : Program}
theorem search_run {pa ca : Addr} {pv fl : Value} {t0 t1 tk : Tok} {items : Array Value} {n : Nat} {x : Str} {Q : Fin → Shared → Prop} (hp : s.heap.get? pa = some ⟨.type "re.Pattern", none, .fields #[pv, fl, .int 0 t0, .none, .none, .ref ca, .int 0 t1], #[]⟩)
    (hc : s.heap.get? ca = some { cls := .type "tuple", data := .seq items n }) (hi : (items.map Builtin.Re.reRawOf).map (·.toNat) = reC) (hz : x.cps.size ≤ 4096)
    (h1 : ipAt x.cps.toList = false → Q (.done (.ret .none)) s)
    (h2 : ipAt x.cps.toList = true → ∀ h' m, Stays s.heap h' → (∃ o, h'.get? m = some o ∧ o.cls = .type "re.Match") → Q (.done (.ret (.ref m))) { s with heap := h' }) :
    wpAny M A (Builtin.«re.Pattern.search» ⟨[.ref pa, .str x tk], []⟩) Q E s := by
  unfold Builtin.«re.Pattern.search» Builtin.Re.reTarget
  dsimp only
  refine wpAny_bind (wpAny_bind (wpAny_of_eq (a := [some (.str x tk), none, none]) (by first | rfl | kernel_rfl) ?_))
  dsimp only
  refine wpAny_bind (m := fieldsOf (.ref pa)) ?_
  unfold fieldsOf
  refine wpAny_bind (wpAny_load hp (wpAny_pure ?_))
  refine wpAny_bind (wpAny_of_eq (a := (x.cps, 0)) (by first | rfl | kernel_rfl) ?_)
  dsimp only
  have g6 : Builtin.Re.reRawNat ((#[pv, fl, .int 0 t0, .none, .none, .ref ca, .int 0 t1] : Array Value).getD 6 .none) = 0 := rfl
  have g2 : Builtin.Re.reRawNat ((#[pv, fl, .int 0 t0, .none, .none, .ref ca, .int 0 t1] : Array Value).getD 2 .none) = 0 := rfl
  have g5 : (#[pv, fl, .int 0 t0, .none, .none, .ref ca, .int 0 t1] : Array Value).getD 5 .none = .ref ca := rfl
  rw [g6, g2, g5]
  rw [if_neg (by decide), if_neg (by decide)]
  refine wpAny_bind (wpAny_of_eq (a := ()) (by first | rfl | kernel_rfl) ?_)
  refine wpAny_bind (m := Builtin.Re.reRawItems (.ref ca)) ?_
  unfold Builtin.Re.reRawItems
  refine wpAny_bind (wpAny_seqItems hc rfl (wpAny_pure (wpAny_pure ?_)))
  dsimp only [Option.getD_some]
  rw [hi]
  have e1 : min (Int.toNat 0) x.cps.size = 0 := by simp
  have e2 : min ((2 ^ 63 - 1 : Int)).toNat x.cps.size = x.cps.size := by
    have : ((2 ^ 63 - 1 : Int)).toNat = 9223372036854775807 := by decide
    exact leq [_, _] [.eq (.v 0) (.v 1)] [1] [-1] (.v 0) (.v 1) (by exact yes) (by exact yes) (Nat.min_eq_right (lle [_, _] [.le (.v 0) (.n 4096), .eq (.v 1) (.n 9223372036854775807)] [1, -1] (.v 0) (.v 1) (by exact yes) hz this))
  rw [e1, e2]
  show wpAny M A (Builtin.Re.reAnswer { pattern := .ref pa, string := .str x tk, code := reC, text := x.cps, kind := 0, groups := 0, pos := 0, lim := x.cps.size } (Sre.forSearch reC x.cps 0 0 x.cps.size false)) Q E s
  obtain ⟨n, hn, ho⟩ := goes_all hz
  generalize Sre.forSearch reC x.cps 0 0 x.cps.size false = m at ho
  unfold Builtin.Re.reAnswer
  refine wpAny_bind (m := Builtin.Re.reRunToEnd _) ?_
  unfold Builtin.Re.reRunToEnd
  refine wpAny_bind (drive (2 ^ 64) n _ (Nat.le_trans hn (by decide)) (by rw [ho]; rfl) (by decide) ?_)
  generalize m.runFor n = m' at ho
  refine wpAny_bind (rules (fun i => ?_) _ ?_)
  · split
    · exact .inr ⟨_, rfl⟩
    · exact .inl rfl
  rw [ho]
  cases hip : ipAt x.cps.toList with
  | false =>
    exact wpAny_pure (wpAny_pure (h1 hip))
  | true =>
    rw [if_pos rfl]
    refine wpAny_pure ?_
    dsimp only
    refine wpAny_bind (m := Builtin.Re.reNewMatch _ _ _ _ _ _) ?_
    unfold Builtin.Re.reNewMatch
    simp only [List.range_zero, List.any_nil, Bool.false_eq_true, if_false, List.flatMap_nil]
    refine wpAny_bind (m := newTuple _) ?_
    unfold newTuple
    refine wpAny_newObj_type ?_ (show (2 : Nat) ≤ sizeLine by decide)
    unfold newFields
    refine wpAny_newObj_type (wpAny_pure (h2 hip _ _ (fun b o h => Heap.get?_push_of_some _ (Heap.get?_push_of_some _ h)) ⟨_, Heap.get?_push_size _ rfl, rfl⟩))
end
end Mine
end
section
open PySem PySem.W PyProof.Rows PySem.Calls
namespace Mine
theorem slot_re_search : Slot "re.Pattern" "search" "re.Pattern.search" := .of (owner := "re.Pattern") (n := "search") (by rw [typeLookup_type, builtinLookup_eq_fast]; kernel_rfl) (by decide +kernel) (by decide +kernel) (by decide +kernel)
  (by first | exact .inl (by decide +kernel) | exact .inr (by decide +kernel)) (by rw [isSubtype_type]; kernel_rfl)
theorem entry_re_search : entryFor table "re.Pattern.search" = some Builtin.«re.Pattern.search» := entryFor_of_tree (by kernel_rfl)
theorem type_re_search : typeOf (.builtin "re.Pattern.search") = pure (.type "method_descriptor") := by kernel_rfl
theorem args_re_search (a b : Value) : argsOk "re.Pattern.search" ⟨[a, b], []⟩ := by unfold argsOk; kernel_rfl
theorem plainAttrs_re : PlainAttrs "re.Pattern" :=
  ⟨⟨"object.__getattribute__", by rw [typeLookup_type, builtinLookup_eq_fast]; kernel_rfl, by decide +kernel⟩, by rw [typeLookup_type, builtinLookup_eq_fast]; kernel_rfl⟩
theorem match_bool : typeLookup (.type "re.Match") "__bool__" = pure none := by rw [typeLookup_type, builtinLookup_eq_fast]; kernel_rfl
theorem match_len : typeLookup (.type "re.Match") "__len__" = pure none := by rw [typeLookup_type, builtinLookup_eq_fast]; kernel_rfl
section
variable {w : World} {h₀ : Heap} {mg mb : Str → Option Value} {A : Around} {E : Value → Shared → Prop}
theorem truthy_match {M : Model} {m : Addr} {s : Shared} {Q : Bool → Shared → Prop} (hm : ∃ o, s.heap.get? m = some o ∧ o.cls = .type "re.Match") (h : Q true s) : wpAny M A (truthy (.ref m)) Q E s := by
  have hT : s.TypeIs (.ref m) "re.Match" := hm
  unfold truthy
  dsimp only
  refine wpAny_bind (m := callSpecial? _ _) ?_
  unfold callSpecial?
  refine wpAny_bind (wpAny_specialOf hT match_bool ?_)
  refine wpAny_pure ?_
  refine wpAny_bind (wpAny_specialOf hT match_len ?_)
  exact wpAny_pure h
theorem search_call {x : Str} {tk : Tok} {s : Shared} {Q : Value → Shared → Prop} (X : (hd.heap_1 w.params).In s.heap) (hz : x.cps.size ≤ 4096)
    (h1 : ipAt x.cps.toList = false → Q .none s)
    (h2 : ipAt x.cps.toList = true → ∀ h' m, Stays s.heap h' → (∃ o, h'.get? m = some o ∧ o.cls = .type "re.Match") → Q (.ref m) { s with heap := h' }) :
    wpAny (model lawP w) A (call (.builtin "re.Pattern.search") [.ref 162, .str x tk]) Q E s := by
  obtain ⟨n, items, hc, hi⟩ : ∃ n items, s.heap.get? 161 = some { cls := .type "tuple", data := .seq items n } ∧ (items.map Builtin.Re.reRawOf).map (·.toNat) = reC := ⟨_, _, X 161 _ rfl, by decide +kernel⟩
  refine wpAny_call_entry slot_re_search ⟨_, X 162 _ rfl, rfl⟩ entry_re_search ?_ (args_re_search _ _)
  exact search_run (X 162 _ rfl) hc hi hz (fun h => ⟨_, rfl, h1 h⟩) (fun h h' m k o => ⟨_, rfl, h2 h h' m k o⟩)
end
end Mine
end
section
open PySem PySem.W PyProof.Rows PySem.Calls
namespace Mine
noncomputable abbrev QE := MV → MS → Prop
noncomputable abbrev QF := MFlow → MS → Prop
noncomputable abbrev QB := Bool → MS → Prop
noncomputable abbrev QU := Unit → MS → Prop
/-- what behind a step must hold -/
noncomputable abbrev Go (G : Gd) (ρ : List Addr) (q : Sta) (env : Env) (s : Shared) {α β : Type} (V : List Addr → β → α → Prop) (Q : β → MS → Prop) (Qv : α → Shared → Prop) : Prop :=
  ∀ v S' s' ρ' a, Q v S' → Rel G ρ' S' q env s'.heap → Ext G ρ ρ' env.locals s s' → V ρ' v a → Qv a s'
noncomputable def VB (_ : List Addr) (x y : Bool) : Prop := x = y
noncomputable def VU (_ : List Addr) (_ _ : Unit) : Prop := True
/-- what a flow of statements tells -/
inductive FR (ρ : List Addr) : MFlow → Flow → Prop
  | next : FR ρ .next .next
  | ret {v : MV} {rv : Value} (h : VR ρ v rv) : FR ρ (.ret v) (.ret rv)
theorem fr_next {ρ : List Addr} {f : Flow} {C : Flow → Prop} (h : FR ρ .next f) (k : C .next) : C f := by cases h; exact k
theorem fr_ret {ρ : List Addr} {v : MV} {f : Flow} {C : Flow → Prop} (h : FR ρ (.ret v) f) (k : ∀ rv, VR ρ v rv → C (.ret rv)) : C f := by cases h; exact k _ (by assumption)
section
variable {G : Gd} {ρ ρ₁ : List Addr} {S' : MS} {q : Sta} {env : Env} {s s₁ : Shared} {α β : Type} {V : List Addr → β → α → Prop} {Q Q' : β → MS → Prop} {Qv : α → Shared → Prop} {v : β}
theorem Go.at (k : Go G ρ q env s V Q Qv) (h : Q v S') : Post G ρ S' q env s V v Qv := fun s' ρ' a => k v S' s' ρ' a h
theorem Go.after (k : Go G ρ q env s V Q Qv) (X : Ext G ρ ρ₁ env.locals s s₁) : Go G ρ₁ q env s₁ V Q Qv := fun v S' s' ρ' a h R X' => k v S' s' ρ' a h R (X.trans X')
theorem Go.mono (k : Go G ρ q env s V Q Qv) (h : ∀ v S, Q' v S → Q v S) : Go G ρ q env s V Q' Qv := fun v S' s' ρ' a x => k v S' s' ρ' a (h v S' x)
end
section
variable (G : Gd) (n : Nat) (q : Sta)
/-- the run of an expression, from a store on -/
structure WE (e : Expr) (S : MS) (Q : QE) : Prop where
  w : ∀ {env A E s ρ Qv}, Rel G ρ S q env s.heap → AOk n A → Go G ρ q env s VR Q Qv → wpAny (model G.prog G.w) A (eval e env) Qv E s
  c : ∀ {elt t iter ifs sc pos}, e = .ListComp elt [⟨t, iter, ifs, 0⟩] sc pos → ∀ {use env A E s ρ Qv}, Rel G ρ S q env s.heap → AOk n A →
    (∀ v S' s' ρ' rv C m, Q v S' → Rel G ρ' S' q env s'.heap → Ext G ρ ρ' env.locals s s' → VR ρ' v rv → Off G ρ' env.locals C → s'.heap.Ns C m → s.heap.get? C = none → compPost (model G.prog G.w) A E use Qv rv C (.ok .next) s') →
    wpAny (model G.prog G.w) A (comprehension e sc env (firstIterPos [⟨t, iter, ifs, 0⟩] pos) (newList []) false (eval iter env) use) Qv E s
noncomputable def VL (k : Nat) (ρ : List Addr) (vs : List MV) (rs : List Value) : Prop := VRs ρ vs rs ∧ rs.length = k
/-- of a test, a statement, a block, a target, a call, a row of expressions .. -/
structure WT (e : Expr) (S : MS) (Q : QB) : Prop where
  w : ∀ {env A E s ρ Qv}, Rel G ρ S q env s.heap → AOk n A → Go G ρ q env s VB Q Qv → wpAny (model G.prog G.w) A (isTrue e env (eval e env)) Qv E s
structure WX (st : Stmt) (S : MS) (Q : QF) : Prop where
  w : ∀ {env A E s ρ Qv}, Rel G ρ S q env s.heap → AOk n A → Go G ρ q env s FR Q Qv → wpAny (model G.prog G.w) A (exec st env) Qv E s
structure WB (b : List Stmt) (S : MS) (Q : QF) : Prop where
  w : ∀ {env A E s ρ Qv}, Rel G ρ S q env s.heap → AOk n A → Go G ρ q env s FR Q Qv → wpAny (model G.prog G.w) A (execs b env) Qv E s
structure WA (t : Expr) (v : MV) (S : MS) (Q : QU) : Prop where
  w : ∀ {env A E s ρ Qv rv}, Rel G ρ S q env s.heap → AOk n A → VR ρ v rv → Go G ρ q env s VU Q Qv → wpAny (model G.prog G.w) A (assign t env rv) Qv E s
  star : notStar t = true
  tup : isTupleE t = true → ∃ i, v = .ref i
structure WC (f : MV) (pos : List MV) (kw : List (Str × MV)) (S : MS) (Q : QE) : Prop where
  w : ∀ {q env A E s ρ Qv rf rp rk}, Rel G ρ S q env s.heap → AOk n A → VR ρ f rf → VRs ρ pos rp → KW ρ kw rk → Go G ρ q env s VR Q Qv → KeepOk G s.heap rf ∧ wpAny (model G.prog G.w) A (call rf rp rk) Qv E s
structure WL (es : List Expr) (S : MS) (Q : List MV → MS → Prop) : Prop where
  w : ∀ {env A E s ρ Qv p}, es.all notStar = true → Rel G ρ S q env s.heap → AOk n A → Go G ρ q env s (VL es.length) Q Qv → wpAny (model G.prog G.w) A (spliced (backTo p (starEach es env))) Qv E s
  nil : es = [] → Q [] S
/-- words and what they stand for -/
noncomputable def VK (ks : List Str) (ρ : List Addr) (kw : List (Str × MV)) (rs : List Value) : Prop := KW ρ kw (ks.zip rs)
structure WK (ks : List Keyword) (S : MS) (Q : List (Str × MV) → MS → Prop) : Prop where
  w : ∀ {env A E s ρ Qv p}, Rel G ρ S q env s.heap → AOk n A → Go G ρ q env s (VK ((backToKw p (keywordEach ks env)).filterMap (·.1))) Q Qv → wpAny (model G.prog G.w) A (evalAll ((backToKw p (keywordEach ks env)).map (·.2))) Qv E s
structure WO (e : Option Expr) (S : MS) (Q : QE) : Prop where
  w : ∀ {env A E s ρ Qv}, Rel G ρ S q env s.heap → AOk n A → Go G ρ q env s VR Q Qv → wpAny (model G.prog G.w) A (evalPart e env) Qv E s
end
/-- what kind of thing has a method here -/
inductive KindAt (S : MS) : MV → MK → Prop
  | str (x : List Nat) : KindAt S (.str x) .str
  | list {j : Nat} {vs : List MV} (e : S.objs[j]? = some (.list vs)) : KindAt S (.ref j) .list
  | acc {j d : Nat} {n0 : Int} {vs : List MV} (e : S.objs[j]? = some (.acc d vs)) (ed : S.objs[d]? = some (.dict [(sizeKey, .int n0)])) : KindAt S (.ref j) .acc
structure PK (v : MV) (S : MS) (Q : MK → MS → Prop) : Prop where
  w : ∃ k, KindAt S v k ∧ Q k S
structure PN (k : MK) (name : Str) (S : MS) (Q : MN → MS → Prop) : Prop where
  w : ∃ m, methName k name = some m ∧ Q m S
structure PT (G : Gd) (v : MV) (S : MS) (Q : QB) : Prop where
  w : ∃ b, Q b S ∧ ∀ {ρ rv A E s Qv}, VR ρ v rv → Qv b s → wpAny (model G.prog G.w) A (truthy rv) Qv E s
structure PC (G : Gd) (op : CmpOp) (a b : MV) (S : MS) (Q : QB) : Prop where
  w : ∃ r, Q r S ∧ ∀ {q env A E s ρ ra rb} {Qv : Value → Shared → Prop}, AOk 0 A → Rel G ρ S q env s.heap → VR ρ a ra → VR ρ b rb → Qv (.bool r) s → wpAny (model G.prog G.w) A (compareOp op ra rb) Qv E s
section
variable (G : Gd)
structure PQ (c : Const) (S : MS) (Q : QE) : Prop where
  w : ∀ {q env A E s ρ Qv k p}, Rel G ρ S q env s.heap → Go G ρ q env s VR Q Qv → wpAny (model G.prog G.w) A (eval (.Constant c k p) env) Qv E s
structure PM (m : MN) (ov : MV) (vs : List MV) (S : MS) (Q : QE) : Prop where
  w : ∀ {q env A E s ρ Qv ro rs f}, AOk 0 A → Rel G ρ S q env s.heap → VR ρ ov ro → VRs ρ vs rs → methFn G m = some f → Go G ρ q env s VR Q Qv → wpAny (model G.prog G.w) A (call f (ro :: rs)) Qv E s
structure PB (op : Operator) (a b : MV) (S : MS) (Q : QE) : Prop where
  w : ∀ {q env A E s ρ Qv ra rb}, Rel G ρ S q env s.heap → VR ρ a ra → VR ρ b rb → Go G ρ q env s VR Q Qv → wpAny (model G.prog G.w) A (binaryOp op ra rb) Qv E s
structure PG (o i : MV) (S : MS) (Q : QE) : Prop where
  w : ∀ {q env A E s ρ Qv ro ri}, Rel G ρ S q env s.heap → VR ρ o ro → VR ρ i ri → Go G ρ q env s VR Q Qv → Gip G s ro ∧ wpAny (model G.prog G.w) A (getItem ro ri) Qv E s
structure PS (o l u st : MV) (S : MS) (Q : QE) : Prop where
  w : ∀ {q env A E s ρ Qv ro rl ru rs sl}, Rel G ρ S q env s.heap → VR ρ o ro → VR ρ l rl → VR ρ u ru → VR ρ st rs → s.heap.IsSliceOf sl rl ru rs → Go G ρ q env s VR Q Qv → Gip G s ro ∧ wpAny (model G.prog G.w) A (getItem ro (.ref sl)) Qv E s
structure PI (o i v : MV) (S : MS) (Q : QU) : Prop where
  w : ∀ {q env A E s ρ Qv ro ri rv}, Rel G ρ S q env s.heap → VR ρ o ro → VR ρ i ri → VR ρ v rv → Go G ρ q env s VU Q Qv → wpAny (model G.prog G.w) A (setItem ro ri rv) Qv E s
structure PL (v : MV) (S : MS) (Q : QE) : Prop where
  w : ∀ {q env A E s ρ Qv ro}, AOk 0 A → Rel G ρ S q env s.heap → VR ρ v ro → Go G ρ q env s VR Q Qv → wpAny (model G.prog G.w) A (call (.builtin "len") [ro]) Qv E s
end
section
variable (G : Gd) (n : Nat) (q : Sta)
noncomputable abbrev KL2 (Q : List MV → MS → Prop) (b : MV) : List MV → MS → Prop := fun bs S₂ => Q (b :: bs) S₂
noncomputable abbrev KL1 (r : List Expr) (Q : List MV → MS → Prop) : QE := fun b S₁ => WL G n q r S₁ (KL2 Q b)
noncomputable abbrev KK2 (x : Str) (Q : List (Str × MV) → MS → Prop) (b : MV) : List (Str × MV) → MS → Prop := fun bs S₂ => Q ((x, b) :: bs) S₂
noncomputable abbrev KK1 (x : Str) (r : List Keyword) (Q : List (Str × MV) → MS → Prop) : QE := fun b S₁ => WK G n q r S₁ (KK2 x Q b)
noncomputable abbrev KS (r : List Stmt) (Q : QF) : QF := fun f S' => match f with | .next => WB G n q r S' Q | .ret v => Q (.ret v) S'
noncomputable abbrev KR (Q : QF) : QE := fun v S' => Q (.ret v) S'
noncomputable abbrev KI (b o : List Stmt) (Q : QF) : QB := fun c S' => if c then WB G n q b S' Q else WB G n q o S' Q
noncomputable abbrev KA2 (Q : QF) : QU := fun _ S'' => Q .next S''
noncomputable abbrev KA1 (t : Expr) (Q : QF) : QE := fun v S' => WA G n q t v S' (KA2 Q)
noncomputable abbrev KX (Q : QF) : QE := fun v S' => v = .none ∧ Q .next S'
noncomputable abbrev KC2 (op : CmpOp) (Q : QB) (a : MV) : QE := fun b S₂ => PC G op a b S₂ Q
noncomputable abbrev KC1 (op : CmpOp) (r : Expr) (Q : QB) : QE := fun a S₁ => WE G n q r S₁ (KC2 G op Q a)
noncomputable abbrev KCm (Q : QE) : QB := fun c S₃ => Q (.bool c) S₃
noncomputable abbrev KN (Q : QB) : QB := fun b S' => Q (!b) S'
noncomputable abbrev KAn (y : Expr) (Q : QB) : QB := fun b S' => if b then WT G n q y S' Q else Q false S'
noncomputable abbrev KOr (y : Expr) (Q : QB) : QB := fun b S' => if b then Q true S' else WT G n q y S' Q
noncomputable abbrev KO3 (y z : Expr) (Q : QB) : QB := fun b S' => if b then Q true S' else WT G n q y S' (KOr G n q z Q)
noncomputable abbrev KT (Q : QB) : QE := fun v S' => PT G v S' Q
noncomputable abbrev KB2 (op : Operator) (Q : QE) (a : MV) : QE := fun b S₂ => PB G op a b S₂ Q
noncomputable abbrev KB1 (op : Operator) (r : Expr) (Q : QE) : QE := fun a S₁ => WE G n q r S₁ (KB2 G op Q a)
noncomputable abbrev KIf (b o : Expr) (Q : QE) : QB := fun c S₁ => if c then WE G n q b S₁ Q else WE G n q o S₁ Q
noncomputable abbrev KLi (Q : QE) : List MV → MS → Prop := fun vs S₁ => Q (.ref S₁.objs.length) { S₁ with objs := S₁.objs ++ [.list vs] }
noncomputable abbrev KTu (Q : QE) : List MV → MS → Prop := fun vs S₁ => Q (.ref S₁.objs.length) { S₁ with objs := S₁.objs ++ [.tup vs] }
noncomputable abbrev KG2 (Q : QE) (ov : MV) : QE := fun iv S₂ => PG G ov iv S₂ Q
noncomputable abbrev KG1 (i : Expr) (Q : QE) : QE := fun ov S₁ => WE G n q i S₁ (KG2 G Q ov)
noncomputable abbrev KM4 (Q : QE) (ov : MV) (m : MN) : List MV → MS → Prop := fun vs S₄ => PM G m ov vs S₄ Q
noncomputable abbrev KM3 (args : List Expr) (Q : QE) (ov : MV) : MN → MS → Prop := fun m S₃ => WL G n q args S₃ (KM4 G Q ov m)
noncomputable abbrev KM2 (name : Str) (args : List Expr) (Q : QE) (ov : MV) : MK → MS → Prop := fun k S₂ => PN k name S₂ (KM3 G n q args Q ov)
noncomputable abbrev KM1 (name : Str) (args : List Expr) (Q : QE) : QE := fun ov S₁ => PK ov S₁ (KM2 G n q name args Q ov)
noncomputable abbrev KF3 (Q : QE) (fv : MV) (vs : List MV) : List (Str × MV) → MS → Prop := fun ks S₃ => WC G n fv vs ks S₃ Q
noncomputable abbrev KF2 (kws : List Keyword) (Q : QE) (fv : MV) : List MV → MS → Prop := fun vs S₂ => WK G n q kws S₂ (KF3 G n Q fv vs)
noncomputable abbrev KF1 (args : List Expr) (kws : List Keyword) (Q : QE) : QE := fun fv S₁ => WL G n q args S₁ (KF2 G n q kws Q fv)
noncomputable abbrev KW2 (a b : Str) (Q : QF) (v : MV) : QE := fun u S₂ => Q .next { objs := S₂.objs ++ [.tup [v, u]], loc := upd (upd S₂.loc b u) a v, cel := S₂.cel }
noncomputable abbrev KW1 (a b : Str) (y : Expr) (Q : QF) : QE := fun v S₁ => WE G n q y S₁ (KW2 a b Q v)
noncomputable abbrev KS3 (o l u : MV) (Q : QE) : QE := fun sv S₄ => PS G o l u sv S₄ Q
noncomputable abbrev KS2 (st : Option Expr) (o l : MV) (Q : QE) : QE := fun uv S₃ => WO G n q st S₃ (KS3 G o l uv Q)
noncomputable abbrev KS1 (u st : Option Expr) (o : MV) (Q : QE) : QE := fun lv S₂ => WO G n q u S₂ (KS2 G n q st o lv Q)
noncomputable abbrev KS0 (l u st : Option Expr) (Q : QE) : QE := fun ov S₁ => WO G n q l S₁ (KS1 G n q u st ov Q)
end
section
variable (P : PP)
theorem PP.B : Base (TK P) := base_ok P.R0
theorem PP.AC : AccOK (TK P) := accOK_ok P.R0
theorem PP.AS : AccSlice (TK P) := accSlice_ok P.R0
theorem PP.AM : AccMeth (TK P) := accMeth_ok P.R0
theorem PP.AL : AccLen (TK P) := acc_len P.R0
end
section
variable {G : Gd} {n : Nat} {q : Sta} {S : MS}
theorem WE.mk' {e : Expr} {Q : QE} (h : notComp e = true) (w : ∀ {env A E s ρ Qv}, Rel G ρ S q env s.heap → AOk n A → Go G ρ q env s VR Q Qv → wpAny (model G.prog G.w) A (eval e env) Qv E s) : WE G n q e S Q :=
  ⟨w, fun he => by subst he; cases h⟩
theorem WE_post {e : Expr} {Q Q' : QE} (h : WE G n q e S Q') (k : ∀ v S', Q' v S' → Q v S') : WE G n q e S Q :=
  ⟨fun R hA g => h.w R hA (g.mono k), fun he => fun R hA g => h.c he R hA fun v S' s' ρ' rv C m x => g v S' s' ρ' rv C m (k v S' x)⟩
theorem WT_post {e : Expr} {Q Q' : QB} (h : WT G n q e S Q') (k : ∀ v S', Q' v S' → Q v S') : WT G n q e S Q := ⟨fun R hA g => h.w R hA (g.mono k)⟩
/-- a branch -/
theorem B_if {b : Bool} {P Q : Prop} (h1 : b = true → P) (h2 : b = false → Q) : (if b = true then P else Q) := by
  cases b with
  | true => rw [if_pos rfl]; exact h1 rfl
  | false => rw [if_neg (by decide)]; exact h2 rfl
theorem B_true {P Q : Prop} (h : P) : (if true = true then P else Q) := (if_pos rfl).mpr h
theorem B_false {P Q : Prop} (h : Q) : (if false = true then P else Q) := (if_neg nofun).mpr h
end
end Mine
end
section
open PySem PySem.W PyProof.Rows PySem.Calls
namespace Mine
theorem str_beq (a b : Str) : (a == b) = (a.cps.toList == b.cps.toList) := by
  rw [Bool.eq_iff_iff, beq_iff_eq, beq_iff_eq]
  exact ⟨fun e => by rw [e], fun e => by cases a; cases b; exact congrArg _ (Array.toList_inj.mp e)⟩
theorem short_ok {n : Nat} (h : n ≤ 100000) : Builtin.Str.tooLong n = false := decide_eq_false (Nat.not_lt.mpr (Nat.le_trans h (by decide)))
theorem le_line {n : Nat} (h : n ≤ stopLen) : n ≤ sizeLine := Nat.le_trans h (by decide)
section
variable {G : Gd} {S : MS} {n : Nat}
theorem Q_int {i : Int} {Q : QE} (h : Q (.int i) S) : PQ G (.int i) S Q := ⟨fun R k => wpAny_Constant_int (same_done R (.int _ _) (k.at h))⟩
theorem Q_bool {b : Bool} {Q : QE} (h : Q (.bool b) S) : PQ G (.bool b) S Q := ⟨fun R k => fun _ _ _ => here_done R (.bool _) (k.at h)⟩
theorem Q_none {Q : QE} (h : Q .none S) : PQ G .none S Q := ⟨fun R k => fun _ _ _ => here_done R .none (k.at h)⟩
theorem Q_str {x : Str} {l : List Nat} {Q : QE} (e : x.cps.toList = l) (h : Q (.str l) S) : PQ G (.str x) S Q := ⟨fun R k => Constant_str (same_done R (vr_mk e) (k.at h))⟩
theorem V_bool {b : Bool} {Q : QB} (h : Q b S) : PT G (.bool b) S Q := ⟨b, h, fun hv hq => vr_bool hv ▸ wpAny_truthy_bool hq⟩
theorem K_str {x : List Nat} {Q : MK → MS → Prop} (h : Q .str S) : PK (.str x) S Q := ⟨_, .str x, h⟩
theorem K_list {j : Nat} {vs : List MV} {Q : MK → MS → Prop} (e : S.objs[j]? = some (.list vs)) (h : Q .list S) : PK (.ref j) S Q := ⟨_, .list e, h⟩
theorem K_acc {j d : Nat} {n0 : Int} {vs : List MV} {Q : MK → MS → Prop} (e : S.objs[j]? = some (.acc d vs)) (ed : S.objs[d]? = some (.dict [(sizeKey, .int n0)])) (h : Q .acc S) : PK (.ref j) S Q := ⟨_, .acc e ed, h⟩
theorem N_some {k : MK} {name : Str} {m : MN} {Q : MN → MS → Prop} (e : methName k name = some m) (h : Q m S) : PN k name S Q := ⟨m, e, h⟩
section
variable {x y : Int}
theorem B_add {Q : QE} (h : Q (.int (x + y)) S) : PB G .Add (.int x) (.int y) S Q := ⟨fun R ha hb k => vr_intE ha fun _ => vr_intE hb fun _ => add_int (same_done R (.int _ _) (k.at h))⟩
theorem B_sub {Q : QE} (h : Q (.int (x - y)) S) : PB G .Sub (.int x) (.int y) S Q := ⟨fun R ha hb k => vr_intE ha fun _ => vr_intE hb fun _ => sub_int (same_done R (.int _ _) (k.at h))⟩
theorem B_mul {Q : QE} (hx : x.natAbs < 2 ^ 60 ∧ y.natAbs < 2 ^ 60) (h : Q (.int (x * y)) S) : PB G .Mult (.int x) (.int y) S Q := ⟨fun R ha hb k => vr_intE ha fun _ => vr_intE hb fun _ =>
  mul_int (same_done R (.int _ _) (k.at h)) (IntMulOk.of_left (intBits_le_64 (by omega) (by omega)))⟩
theorem B_mod {Q : QE} (hy : ¬ y = 0) (h : Q (.int (x.fmod y)) S) : PB G .Mod (.int x) (.int y) S Q := ⟨fun R ha hb k => vr_intE ha fun _ => vr_intE hb fun _ => mod_int' hy (same_done R (.int _ _) (k.at h))⟩
theorem B_div {Q : QE} (hy : ¬ (y = 0 ∨ 1000 < y.natAbs)) (h : Q (.int (x.fdiv y)) S) : PB G .FloorDiv (.int x) (.int y) S Q := ⟨fun R ha hb k => vr_intE ha fun _ => vr_intE hb fun _ =>
  floordiv_int (fun e => hy (.inl e)) (same_done R (.int _ _) (k.at h)) (.inl (PyProof.noPylong_small (by omega)))⟩
theorem B_half {Q : QE} (h : Q (.int (x.fdiv 2)) S) : PB G .FloorDiv (.int x) (.int 2) S Q := B_div (by decide) h
end
theorem B_xorI {x y : Int} {Q : QE} (h : Q (.int (Builtin.bitXor x y)) S) : PB G .BitXor (.int x) (.int y) S Q := ⟨fun R ha hb k => vr_intE ha fun _ => vr_intE hb fun _ => xor_int (same_done R (.int _ _) (k.at h))⟩
theorem B_adds {x y : List Nat} {Q : QE} (hl : (x ++ y).length ≤ stopLen) (h : Q (.str (x ++ y)) S) : PB G .Add (.str x) (.str y) S Q := ⟨fun R ha hb k => by
  obtain ⟨sx, tx, rfl, rfl⟩ := vr_str ha
  obtain ⟨sy, ty, rfl, rfl⟩ := vr_str hb
  exact add_str (fun t' tk => same_done R (vr_mk Array.toList_append) (k.at h)) (by rw [len_cps, len_cps, ← List.length_append]; exact le_line hl)⟩
theorem rep_toList {α : Type} (xs : Array α) (c : α) (hx : xs.toList = [c]) : ∀ (k : Nat) (acc : Array α), ((List.replicate k xs).foldl (· ++ ·) acc).toList = acc.toList ++ List.replicate k c
  | 0, acc => (List.append_nil _).symm
  | k + 1, acc => by
    rw [List.replicate_succ, List.foldl_cons, rep_toList xs c hx k, Array.toList_append, hx, List.replicate_succ, List.append_assoc]; rfl
theorem B_rep {c : Nat} {n : Int} {Q : QE} (hn : 0 ≤ n ∧ n ≤ 64) (h : Q (.str (List.replicate n.toNat c)) S) : PB G .Mult (.str [c]) (.int n) S Q := ⟨fun R ha hb k => by
  obtain ⟨sx, tx, rfl, hx⟩ := vr_str ha
  obtain ⟨tn, rfl⟩ := vr_int hb
  have hl : sx.length = 1 := by rw [len_cps, hx]; rfl
  refine SB.mul (n := n) ⟨?_, fun h1 h2 => ?_, fun h1 h2 => ?_⟩ (fun t' tk => same_done R (vr_mk ?_) (k.at h))
  · simp only [Bool.or_eq_false_iff, decide_eq_false_iff_not]; omega
  · rw [hl]
    have h3 : (1 : Int) ≤ (2 ^ 63 - 1) / n := Int.le_ediv_of_mul_le (by omega) (by omega)
    omega
  · rw [hl]
    refine decide_eq_false (Nat.not_lt.mpr ?_)
    rw [sizeLine_eq]
    omega
  · unfold Txt.mul
    split
    · rename_i h0
      cases (show n = 0 by omega)
      rfl
    · split
      · rename_i h1
        rw [hl] at h1
        simp at h1
        subst h1
        rw [hx]; rfl
      · rw [rep_toList _ c hx]; rfl⟩
theorem B_nones {j : Nat} {n : Int} {Q : QE} (e : S.objs[j]? = some (.list [.none])) (hn : 0 ≤ n ∧ n ≤ 4096) (h : Q (.ref S.objs.length) { S with objs := S.objs ++ [.list (List.replicate n.toNat .none)] }) : PB G .Mult (.ref j) (.int n) S Q := ⟨fun R ha hb k => by
  obtain ⟨a, rfl, ea⟩ := vr_ref ha
  obtain ⟨tn, rfl⟩ := vr_int hb
  obtain ⟨items, ⟨kk, eo⟩, p⟩ := R.at e ea
  obtain ⟨m, hns, hm⟩ := R.ns
  have hit : items = #[.none] := Array.toList_inj.mp (pd_one (C := fun l => l = [.none]) p fun b hb => by rw [vr_none hb])
  subst hit
  refine mul_list (fr_full hns) news_full eo (by omega) (by omega) (by show 1 * n.toNat ≤ _; rw [Nat.one_mul]; exact Nat.le_trans (by omega : n.toNat ≤ 4096) (by decide)) (fun h' F N => made_done (o := .list _) R hns hm F N ⟨_, ⟨0, (N _ (.head _)).1⟩, ?_⟩ (k.at h))
  simp only [List.isEmpty_toArray, List.isEmpty_cons, Bool.false_eq_true, if_false]
  rw [rep_toList #[Value.none] Value.none rfl]
  exact pd_rep VR.none n.toNat⟩
theorem B_cat {i j : Nat} {xs ys : List MV} {Q : QE} (e1 : S.objs[i]? = some (.list xs)) (e2 : S.objs[j]? = some (.list ys)) (hl : (xs ++ ys).length ≤ stopLen) (h : Q (.ref S.objs.length) { S with objs := S.objs ++ [.list (xs ++ ys)] }) : PB G .Add (.ref i) (.ref j) S Q := ⟨fun R ha hb k => by
  obtain ⟨a, rfl, ea⟩ := vr_ref ha
  obtain ⟨b, rfl, eb⟩ := vr_ref hb
  obtain ⟨items, ⟨kk, eo⟩, p⟩ := R.at e1 ea
  obtain ⟨items2, ⟨k2, eo2⟩, p2⟩ := R.at e2 eb
  obtain ⟨m, hns, hm⟩ := R.ns
  refine add_arrays (fr_full hns) news_full ⟨_, eo, rfl, _, rfl⟩ ⟨_, eo2, rfl, _, rfl⟩ (fun h' F N => made_done (o := .list _) R hns hm F N ⟨_, ⟨0, (N _ (.head _)).1⟩, VRs.pre .app (pd_app p p2)⟩ (k.at h)) ?_
  rw [← pd_size p, ← pd_size p2, ← List.length_append]
  exact le_line hl⟩
theorem C_ge {x y : Int} {Q : QB} (h : Q (decide (x ≥ y)) S) : PC G .GtE (.int x) (.int y) S Q := ⟨_, h, fun _ _ ha hb hq => vr_intE ha fun _ => vr_intE hb fun _ => P.ge_int hq⟩
theorem C_lt {x y : Int} {Q : QB} (h : Q (decide (x < y)) S) : PC G .Lt (.int x) (.int y) S Q := ⟨_, h, fun _ _ ha hb hq => vr_intE ha fun _ => vr_intE hb fun _ => P.lt_int hq⟩
theorem C_eqi {x y : Int} {Q : QB} (h : Q (x == y) S) : PC G .Eq (.int x) (.int y) S Q := ⟨_, h, fun _ _ ha hb hq => vr_intE ha fun _ => vr_intE hb fun _ => P.eq_int hq⟩
theorem C_nei {x y : Int} {Q : QB} (h : Q (!(x == y)) S) : PC G .NotEq (.int x) (.int y) S Q := ⟨_, h, fun _ _ ha hb hq => vr_intE ha fun _ => vr_intE hb fun _ => P.ne_int hq⟩
theorem C_lts {x y : List Nat} {Q : QB} (h : Q (decide (x < y)) S) : PC G .Lt (.str x) (.str y) S Q := ⟨_, h, fun _ _ ha hb => by
  obtain ⟨sx, tx, rfl, rfl⟩ := vr_str ha
  obtain ⟨sy, ty, rfl, rfl⟩ := vr_str hb
  exact fun hq => P.lt_str hq⟩
theorem C_eqs {x y : List Nat} {Q : QB} (h : Q (x == y) S) : PC G .Eq (.str x) (.str y) S Q := ⟨_, h, fun _ _ ha hb => by
  obtain ⟨sx, tx, rfl, rfl⟩ := vr_str ha
  obtain ⟨sy, ty, rfl, rfl⟩ := vr_str hb
  exact fun hq => P.eq_str hq⟩
theorem C_nes {x y : List Nat} {Q : QB} (h : Q (!(x == y)) S) : PC G .NotEq (.str x) (.str y) S Q := ⟨_, h, fun _ _ ha hb => by
  obtain ⟨sx, tx, rfl, rfl⟩ := vr_str ha
  obtain ⟨sy, ty, rfl, rfl⟩ := vr_str hb
  exact fun hq => P.ne_str hq⟩
theorem C_isB {x y : Bool} {Q : QB} (h : Q (x == y) S) : PC G .Is (.bool x) (.bool y) S Q := ⟨_, h, fun _ _ ha hb hq => by
  cases vr_bool ha; cases vr_bool hb
  exact wpAny_is_plain rfl (by cases x <;> cases y <;> exact hq)⟩
theorem C_isNotB {x y : Bool} {Q : QB} (h : Q (!(x == y)) S) : PC G .IsNot (.bool x) (.bool y) S Q := ⟨_, h, fun _ _ ha hb hq => by
  cases vr_bool ha; cases vr_bool hb
  exact wpAny_isNot_plain rfl (by cases x <;> cases y <;> exact hq)⟩
theorem C_is {a : MV} {r : Bool} {Q : QB} (e : isNone a = some r) (h : Q r S) : PC G .Is a .none S Q := ⟨r, h, fun {q env A E s ρ ra rb Qv} _ _ ha hb hq => by
  cases vr_none hb
  cases ha with
  | none => cases e; exact wpAny_is_self rfl hq
  | glob => cases ra <;> first | (cases e; done) | (cases e; exact wpAny_is_other rfl nofun hq)
  | _ => cases e; exact wpAny_is_other rfl nofun hq⟩
theorem intsAre_of {ρ : List Addr} {ns : List Int} : ∀ {rs : List Value}, VRs ρ (ns.map .int) rs → IntsAre rs ns := by
  induction ns with
  | nil => exact fun p => pd_nil (C := fun l => IntsAre l []) p .nil
  | cons i ns ih => exact fun p => pd_cons (C := fun l => IntsAre l (i :: ns)) p fun b t hb ht => vr_intE (C := fun b => IntsAre (b :: t) (i :: ns)) hb fun _ => .cons _ _ (ih ht)
/-- numbers as values -/
noncomputable def natL (l : List Nat) : List MV := l.map fun (k : Nat) => MV.int (k : Int)
theorem in_any (x : Nat) : ∀ l : List Nat, (l.map fun (k : Nat) => (k : Int)).any (· == (x : Int)) = l.contains x
  | [] => rfl
  | a :: l => by
    rw [List.map_cons, List.any_cons, in_any x l, List.contains_cons]
    congr 1
    rw [Bool.eq_iff_iff, beq_iff_eq, beq_iff_eq]
    exact ⟨fun h => (Int.ofNat.inj h).symm, fun h => congrArg _ h.symm⟩
theorem ints_nat {ρ : List Addr} {l : List Nat} {rs : List Value} (p : VRs ρ (natL l) rs) : IntsAre rs (l.map fun (k : Nat) => (k : Int)) := intsAre_of (by rw [List.map_map]; exact p)
theorem C_in {x j : Nat} {l : List Nat} {Q : QB} (e : S.objs[j]? = some (.list (natL l))) (h : Q (l.contains x) S) : PC G .In (.int x) (.ref j) S Q := ⟨_, h, fun _ R ha hb hq => vr_intE ha fun _ => by
  obtain ⟨a, rfl, ea⟩ := vr_ref hb
  obtain ⟨items, e, p⟩ := R.at e ea
  exact in_list_ints (show _root_.PySem.Heap.IsList _ a items.toList.toArray from e.isList) (ints_nat p) (by rw [in_any]; exact hq)⟩
theorem C_notIn {x j : Nat} {l : List Nat} {Q : QB} (e : S.objs[j]? = some (.list (natL l))) (h : Q (!l.contains x) S) : PC G .NotIn (.int x) (.ref j) S Q := ⟨_, h, fun _ R ha hb hq => vr_intE ha fun _ => by
  obtain ⟨a, rfl, ea⟩ := vr_ref hb
  obtain ⟨items, e, p⟩ := R.at e ea
  exact notin_list_ints (show _root_.PySem.Heap.IsList _ a items.toList.toArray from e.isList) (ints_nat p) (by rw [in_any]; exact hq)⟩
end
end Mine
end
section
open PySem PySem.W PyProof.Rows PySem.Calls
namespace Mine
theorem seqIndex_pos {k : Int} {n : Nat} (h0 : 0 ≤ k) (h1 : k.toNat < n) : seqIndex? k n = some k.toNat := by
  unfold seqIndex?
  have e : ¬ k < 0 := Int.not_lt.mpr h0
  simp only [if_neg e]
  rw [if_pos]
  simp only [Bool.and_eq_true, decide_eq_true_eq]
  omega
theorem seqIndex_last {n : Nat} (h1 : 0 < n) : seqIndex? (-1) n = some (n - 1) := by
  unfold seqIndex?
  simp only [if_pos (show (-1 : Int) < 0 by decide)]
  rw [if_pos]
  · rw [Int.add_comm, show ((n : Int) + -1).toNat = n - 1 from Int.toNat_sub n 1]
  · simp only [Bool.and_eq_true, decide_eq_true_eq]; omega
theorem gip_type {G : Gd} {s : Shared} {o : Value} {T id : String} (hT : s.TypeIs o T) (hl : typeLookup (.type T) "__getitem__" = pure (some (.builtin id))) : Gip G s o := fun A E Q h => by
  rw [getitemInPython_of_ne hT.not_modules]
  exact wpAny_bind (wpAny_specialOf hT hl (wpAny_pure h))
theorem str_inj {a b : Str} (h : a.cps.toList = b.cps.toList) : a = b := by
  cases a; cases b; exact congrArg _ (Array.toList_inj.mp h)
theorem er_key {ρ : List Addr} {x : Str} {a : List Nat × MV} {b : Str × Value} (h : ER ρ a b) : (a.1 = x.cps.toList) = (b.1 = x) := propext ⟨fun e => str_inj (h.1.trans e), fun e => h.1.symm.trans (e ▸ rfl)⟩
theorem dict_at {ρ : List Addr} {kvs : List (List Nat × MV)} {kvs' : List (Str × Value)} (p : Paired (ER ρ) kvs kvs') (x : Str) {v : MV} (h : atKeyM kvs x.cps.toList = some v) : ∃ rv, valueAt kvs' x = some rv ∧ VR ρ v rv := by
  unfold atKeyM at h
  unfold valueAt
  induction p with
  | nil => cases h
  | @cons a b l r h1 t ih =>
    rw [List.find?_cons] at h ⊢
    simp only [er_key h1] at h
    by_cases hb : b.1 = x
    · rw [decide_eq_true hb] at h ⊢
      cases h; exact ⟨_, rfl, h1.2⟩
    · rw [decide_eq_false hb] at h ⊢
      exact ih h
theorem put_paired {ρ : List Addr} {kvs : List (List Nat × MV)} {kvs' : List (Str × Value)} (p : Paired (ER ρ) kvs kvs') (x : Str) {v : MV} {rv : Value} (hv : VR ρ v rv) :
    Paired (ER ρ) (putKey kvs x.cps.toList v) (stored kvs' x rv) := by
  have ha : kvs.any (fun kv => kv.1 = x.cps.toList) = kvs'.any (fun kv => kv.1 = x) := by
    induction p with
    | nil => rfl
    | cons h1 t ih => simp only [List.any_cons, er_key h1, ih]
  have hm : Paired (ER ρ) (kvs.map fun kv => if kv.1 = x.cps.toList then (kv.1, v) else kv) (kvs'.map fun kv => if kv.1 = x then (kv.1, rv) else kv) := by
    clear ha
    induction p with
    | nil => exact .nil
    | @cons a b l r h1 t ih =>
      refine .cons ?_ ih
      dsimp only
      simp only [er_key h1]
      by_cases hb : b.1 = x
      · rw [if_pos hb, if_pos hb]; exact ⟨h1.1, hv⟩
      · rw [if_neg hb, if_neg hb]; exact h1
  unfold putKey stored
  rw [ha]
  split
  · exact hm
  · exact pd_app p (.cons ⟨rfl, hv⟩ .nil)
section
variable {G : Gd} {S : MS} {n : Nat}
theorem strIdx {x : List Nat} {k : Int} {j c : Nat} {Q : QE} (hl : x.length ≤ stopLen) (hk : seqIndex? k x.length = some j) (hk1 : -1 ≤ k) (hk2 : k ≤ 4096) (hj : x[j]? = some c) (h : Q (.str [c]) S) : PG G (.str x) (.int k) S Q := ⟨fun R ha hb kk => by
  obtain ⟨sx, tx, rfl, rfl⟩ := vr_str ha
  obtain ⟨tk, rfl⟩ := vr_int hb
  refine ⟨gip_type (typeIs_str _ _ _) F.slot_str_getitem.lookup, P.getItem_str (i := k) (c := c) ?_ ?_ (same_done R (vr_mk rfl) (kk.at h))⟩
  · simp only [Bool.or_eq_false_iff, decide_eq_false_iff_not]; omega
  · rw [len_cps, hk, Option.bind_some, ← Array.getElem?_toList, hj]⟩
theorem G_strIdx {x : List Nat} {k : Int} {c : Nat} {Q : QE} (hl : x.length ≤ stopLen) (h0 : 0 ≤ k) (hc : x[k.toNat]? = some c) (h : Q (.str [c]) S) : PG G (.str x) (.int k) S Q :=
  have hi := (List.getElem?_eq_some_iff.mp hc).1
  have hs : stopLen = 4096 := rfl
  strIdx hl (seqIndex_pos h0 hi) (by omega) (by omega) hc h
theorem G_strLast {x : List Nat} {c : Nat} {Q : QE} (hl : x.length ≤ stopLen) (hc : x[x.length - 1]? = some c) (h : Q (.str [c]) S) : PG G (.str x) (.int (-1)) S Q :=
  strIdx hl (seqIndex_last (Nat.lt_of_le_of_lt (Nat.zero_le _) (List.getElem?_eq_some_iff.mp hc).1)) (by decide) (by decide) hc h
section
variable {j d : Nat} {k : Int} {vs : List MV} {v : MV} {Q : QE}
theorem G_tup (h0 : 0 ≤ k ∧ k ≤ 4096) (e : S.objs[j]? = some (.tup vs)) (e2 : vs[k.toNat]? = some v) (h : Q v S) : PG G (.ref j) (.int k) S Q := ⟨fun R ha hb kk => by
  obtain ⟨a, rfl, ea⟩ := vr_ref ha
  obtain ⟨tk, rfl⟩ := vr_int hb
  obtain ⟨items, n, e, p⟩ := R.at e ea
  obtain ⟨rv, e1, e3⟩ := pd_get p e2
  refine ⟨gip_type (isTuple_of e).typeIs F.slot_tuple_getitem.lookup, PyProof.Rows.getItem_tuple (isTuple_of e) (Int.le_trans (by decide) h0.1) (Int.lt_of_le_of_lt h0.2 (by decide)) (seqIndex_pos h0.1 ?_) ((Array.getElem?_toList ..).symm.trans e1) (here_done R e3 (kk.at h))⟩
  exact (List.getElem?_eq_some_iff.mp e1).1⟩
theorem getList {q : Sta} {env : Env} {A : Around} {E : Value → Shared → Prop} {s : Shared} {ρ : List Addr} {Qv : Value → Shared → Prop} {a : Addr} {items : Array Value} {t : Tok} (h0 : 0 ≤ k ∧ k ≤ 4096) (e : s.heap.IsList a items) (p : VRs ρ vs items.toList) (e2 : vs[k.toNat]? = some v) (R : Rel G ρ S q env s.heap) (hQ : Post G ρ S q env s VR v Qv) :
    Gip G s (.ref a) ∧ wpAny (model G.prog G.w) A (getItem (.ref a) (.int k t)) Qv E s :=
  (pd_get p e2).elim fun _ z => ⟨gip_type e.typeIs slot_list_getitem.lookup, wpAny_getItem_list e h0.1 (Int.lt_of_le_of_lt h0.2 (by decide)) ((Array.getElem?_toList ..).symm.trans z.1) (here_done R z.2 hQ)⟩
theorem G_list (h0 : 0 ≤ k ∧ k ≤ 4096) (e : S.objs[j]? = some (.list vs)) (e2 : vs[k.toNat]? = some v) (h : Q v S) : PG G (.ref j) (.int k) S Q := ⟨fun R ha hb kk => by
  obtain ⟨a, rfl, ea⟩ := vr_ref ha
  obtain ⟨tk, rfl⟩ := vr_int hb
  obtain ⟨items, e, p⟩ := R.at e ea
  exact getList h0 e.isList p e2 R (kk.at h)⟩
theorem G_ro (h0 : 0 ≤ k ∧ k ≤ 4096) (e : S.objs[j]? = some (.ro vs)) (e2 : vs[k.toNat]? = some v) (h : Q v S) : PG G (.ref j) (.int k) S Q := ⟨fun R ha hb kk => by
  obtain ⟨a, rfl, ea⟩ := vr_ref ha
  obtain ⟨tk, rfl⟩ := vr_int hb
  obtain ⟨items, e, p⟩ := R.at e ea
  exact getList h0 e p e2 R (kk.at h)⟩
theorem G_acc {P : PP} (h0 : 0 ≤ k ∧ k ≤ 4096) (e : S.objs[j]? = some (.acc d vs)) (e2 : vs[k.toNat]? = some v) (h : Q v S) : PG (TK P) (.ref j) (.int k) S Q := ⟨fun R ha hb kk => by
  obtain ⟨a, rfl, ea⟩ := vr_ref ha
  obtain ⟨tk, rfl⟩ := vr_int hb
  obtain ⟨items, n, ad, _, e, p⟩ := R.at e ea
  obtain ⟨rv, e1, e3⟩ := pd_get p e2
  exact ⟨P.AC.noPy R.keep e, P.AC.getItem R.keep e h0.1 h0.2 ((Array.getElem?_toList ..).symm.trans e1) (here_done R e3 (kk.at h))⟩⟩
end
theorem key_of (x : Str) (t : Tok) : Value.isStrOf x (.str x t) = true := beq_self_eq_true x
theorem G_dict {j : Nat} {x : List Nat} {kvs : List (List Nat × MV)} {v : MV} {Q : QE} (e : S.objs[j]? = some (.dict kvs)) (e2 : atKeyM kvs x = some v) (h : Q v S) : PG G (.ref j) (.str x) S Q := ⟨fun R ha hb kk => by
  obtain ⟨a, rfl, ea⟩ := vr_ref ha
  obtain ⟨sx, tx, rfl, rfl⟩ := vr_str hb
  obtain ⟨kvs', e, p⟩ := R.at e ea
  obtain ⟨rv, e1, e3⟩ := dict_at p sx e2
  exact ⟨gip_type e.typeIs slot_dict_getitem.lookup, wpAny_getItem_of (key_of sx tx) e.mapOf e1 (same_done R e3 (kk.at h))⟩⟩
theorem I_list {j : Nat} {k : Int} {v : MV} {vs : List MV} {Q : QU} (e : S.objs[j]? = some (.list vs)) (hk : 0 ≤ k ∧ k ≤ 4096 ∧ k.toNat < vs.length) (h : Q () { S with objs := S.objs.set j (.list (vs.set k.toNat v)) }) : PI G (.ref j) (.int k) v S Q := ⟨fun {q env A E s ρ Qv ro ri rv} R ha hb hv kk => by
  obtain ⟨a, rfl, ea⟩ := vr_ref ha
  obtain ⟨tk, rfl⟩ := vr_int hb
  obtain ⟨items, ⟨n, eo⟩, p⟩ := R.at e ea
  have ke : StaysBut a s.heap (s.heap.update a (Obj.mapSeq (·.setIfInBounds k.toNat rv))) := fun b o hb e => ((Heap.SameBut.update ..).2 b hb).trans e
  obtain ⟨n', hn⟩ : ∃ n', (s.heap.update a (Obj.mapSeq (·.setIfInBounds k.toNat rv))).get? a = some { cls := .type "list", data := .seq (items.setIfInBounds k.toNat rv) n' } := ⟨_, Heap.get?_update_self _ eo rfl⟩
  exact ki_setAt eo hk.1 (Int.lt_of_le_of_lt hk.2.1 (by decide)) (by have := pd_size p; omega) (kk.at h { s with heap := s.heap.update a (Obj.mapSeq (·.setIfInBounds k.toNat rv)) } ρ ()
    (R.set (o := .list _) ea ke (codeRec_but ke eo fun _ => nofun) ⟨_, ⟨n', hn⟩, by rw [Array.toList_setIfInBounds]; exact pd_set hv _ p⟩ fun vs e' => by rw [e] at e'; cases e') (Ext.but (t := s.toks) (.inl (List.mem_of_getElem? ea)) ke ⟨_, hn⟩) trivial)⟩
theorem I_dict {j : Nat} {k : List Nat} {v : MV} {kvs : List (List Nat × MV)} {Q : QU} (e : S.objs[j]? = some (.dict kvs)) (hk : kvs.length < 64) (h : Q () { S with objs := S.objs.set j (.dict (putKey kvs k v)) }) : PI G (.ref j) (.str k) v S Q := ⟨fun {q env A E s ρ Qv ro ri rv} R ha hb hv kk => by
  obtain ⟨a, rfl, ea⟩ := vr_ref ha
  obtain ⟨sx, tx, rfl, rfl⟩ := vr_str hb
  obtain ⟨kvs', ed, p⟩ := R.at e ea
  obtain ⟨oa, es, ep, e0, _, edd, _⟩ := id ed
  refine wpAny_setItem_pairs (k := sx) (key_of sx tx) ed (fun h' hd hs => ?_) (by rw [← pd_len p]; exact Nat.le_trans (Nat.le_of_lt hk) (by decide))
  have ke : StaysBut a s.heap h' := fun b o hb e => (hs.2 b hb).trans e
  exact kk.at h { s with heap := h', toks := s.toks + 1 } ρ () (R.set (o := .dict _) ea ke (codeRec_but ke e0 fun vs hx => by rw [edd] at hx; cases hx) ⟨_, hd, put_paired p sx hv⟩ fun vs e' => by rw [e] at e'; cases e')
    (Ext.but (t := s.toks + 1) (.inl (List.mem_of_getElem? ea)) ke (hd.elim fun o x => x.elim fun _ x => x.elim fun _ x => ⟨o, x.1⟩)) trivial⟩
theorem S_from {x : List Nat} {a : Int} {Q : QE} (h0 : 0 ≤ a ∧ a.toNat ≤ x.length ∧ x.length ≤ stopLen) (h : Q (.str (x.drop a.toNat)) S) : PS G (.str x) (.int a) .none .none S Q := ⟨fun R hx ha hu hst hs kk => by
  obtain ⟨sx, tx, rfl, rfl⟩ := vr_str hx
  obtain ⟨u, rfl⟩ := vr_int ha
  cases vr_none hu; cases vr_none hst
  refine ⟨gip_type (typeIs_str _ _ _) F.slot_str_getitem.lookup, ?_⟩
  refine wpAny_getItem_str_slice (l := some (a, u)) (u := none) (st := none) hs rfl ?_
  obtain ⟨k, rfl⟩ := Int.eq_ofNat_of_zero_le h0.1
  have h1 : k ≤ sx.length := h0.2.1
  have e1 : slicePicked sx (some ((k : Int), u)) none none = (List.range (sx.length - k)).map (fun j => k + j) := by
    show Builtin.Str.strSliceIndices (some (k : Int)) none 1 sx.length = _
    rw [StrLaws.sliceIdx_none_hi]
    exact StrLaws.strSliceIndices_plain h1 (Nat.le_refl _)
  have e2 : (slicePicked sx (some ((k : Int), u)) none none).filterMap (sx.cps[·]?) = sx.cps.toList.drop k := by
    show (Builtin.Str.strSliceIndices (some (k : Int)) none 1 sx.length).filterMap (sx.cps[·]?) = _
    rw [StrLaws.sliceIdx_none_hi, StrLaws.sliced_plain (b := sx.length) sx h1 (Nat.le_refl _)]
    exact List.take_of_length_le (by rw [List.length_drop]; exact Nat.le_refl _)
  unfold sliceMade
  split
  · rename_i hw
    simp only [e1, List.length_map, List.length_range, Bool.and_eq_true, beq_iff_eq] at hw
    refine here_done R (vr_mk ?_) (kk.at h)
    have hl : sx.length = sx.cps.toList.length := rfl
    by_cases hk0 : k = 0
    · rw [hk0]; rfl
    · rw [List.eq_nil_of_length_eq_zero (l := sx.cps.toList) (Nat.eq_zero_of_not_pos fun hp => Nat.ne_of_lt (Nat.sub_lt hp (Nat.pos_of_ne_zero hk0)) hw.2)]; exact List.drop_nil.symm
  · rw [e2]
    exact ⟨Nat.le_trans (show (sx.cps.toList.drop k).toArray.size ≤ stopLen by rw [List.size_toArray, List.length_drop]; exact Nat.le_trans (Nat.sub_le _ _) h0.2.2) (by decide), same_done R (vr_mk (by simp)) (kk.at h)⟩⟩
section
variable {q : Sta} {env : Env} {A : Around} {E : Value → Shared → Prop} {s : Shared} {ρ : List Addr} {Qv : Value → Shared → Prop}
theorem push_list {vs : List MV} {items : Array Value} (R : Rel G ρ S q env s.heap) (p : VRs ρ vs items.toList) (hQ : Post G ρ { S with objs := S.objs ++ [.list vs] } q env s VR (.ref S.objs.length) Qv) :
    Qv (.ref s.heap.objs.size) { s with heap := s.heap.push { cls := .type "list", data := .seq items } } :=
  new_done (t := s.toks) (o := .list vs) R (push_stays _ _) (size_none _) ⟨items, ⟨0, Heap.get?_push_size _ rfl⟩, p.pre .app⟩ hQ
end
theorem S_run {P : PP} {j d : Nat} {a b : Nat} {vs : List MV} {Q : QE} (e : S.objs[j]? = some (.acc d vs)) (h0 : a ≤ b ∧ b ≤ vs.length ∧ vs.length ≤ stopLen) (h : Q (.ref S.objs.length) { S with objs := S.objs ++ [.list ((vs.drop a).take (b - a))] }) : PS (TK P) (.ref j) (.int a) (.int b) .none S Q := ⟨fun R hx ha hb hst hs kk => by
  obtain ⟨x, rfl, ex⟩ := vr_ref hx
  obtain ⟨ta, rfl⟩ := vr_int ha
  obtain ⟨tb, rfl⟩ := vr_int hb
  cases vr_none hst
  obtain ⟨items, n, ad, _, e, p⟩ := R.at e ex
  refine ⟨P.AC.noPy R.keep e, P.AS R.keep e hs (le_line (pd_size p ▸ h0.2.2)) (push_list R ?_ (kk.at h))⟩
  rw [slicePick_run items a b (pd_size p ▸ h0.2.1) h0.1]
  exact pd_take _ (pd_drop _ p)⟩
theorem S_rev {j : Nat} {vs : List MV} {Q : QE} (e : S.objs[j]? = some (.list vs)) (hl : vs.length ≤ stopLen) (h : Q (.ref S.objs.length) { S with objs := S.objs ++ [.list vs.reverse] }) : PS G (.ref j) .none .none (.int (-1)) S Q := ⟨fun R hx ha hb hst hs kk => by
  obtain ⟨x, rfl, ex⟩ := vr_ref hx
  cases vr_none ha; cases vr_none hb
  obtain ⟨tc, rfl⟩ := vr_int hst
  obtain ⟨items, e, p⟩ := R.at e ex
  exact ⟨gip_type e.isList.typeIs slot_list_getitem.lookup, wpAny_getItem_list_slice (lo := none) (hi := none) (st := some (-1)) e.isList hs .none .none (.int _ _) (by decide) (push_list R (by rw [krv_pick]; exact pd_rev p) (kk.at h)) (le_line (pd_size p ▸ hl))⟩⟩
theorem lt_big {n : Nat} (h : n ≤ stopLen) : (n : Int) < 2 ^ 63 := by have : stopLen = 4096 := rfl; omega
section
variable {j d : Nat} {vs : List MV} {Q : QE}
theorem lenL {q : Sta} {env : Env} {A : Around} {E : Value → Shared → Prop} {s : Shared} {ρ : List Addr} {Qv : Value → Shared → Prop} {a : Addr} {items : Array Value} (e : s.heap.IsList a items) (p : VRs ρ vs items.toList) (hl : vs.length ≤ stopLen) (R : Rel G ρ S q env s.heap) (hQ : Post G ρ S q env s VR (.int vs.length) Qv) :
    wpAny (model G.prog G.w) A (call (.builtin "len") [.ref a]) Qv E s :=
  PyProof.Rows.len_list e (lt_big (pd_size p ▸ hl)) (same_done R (.int _ _) (pd_size p ▸ hQ))
theorem L_list (e : S.objs[j]? = some (.list vs)) (hl : vs.length ≤ stopLen) (h : Q (.int vs.length) S) : PL G (.ref j) S Q := ⟨fun hA R hx kk => by
  obtain ⟨a, rfl, ea⟩ := vr_ref hx
  obtain ⟨items, e, p⟩ := R.at e ea
  exact lenL e.isList p hl R (kk.at h)⟩
theorem L_ro (e : S.objs[j]? = some (.ro vs)) (hl : vs.length ≤ stopLen) (h : Q (.int vs.length) S) : PL G (.ref j) S Q := ⟨fun hA R hx kk => by
  obtain ⟨a, rfl, ea⟩ := vr_ref hx
  obtain ⟨items, e, p⟩ := R.at e ea
  exact lenL e p hl R (kk.at h)⟩
theorem L_tup (e : S.objs[j]? = some (.tup vs)) (hl : vs.length ≤ stopLen) (h : Q (.int vs.length) S) : PL G (.ref j) S Q := ⟨fun hA R hx kk => by
  obtain ⟨a, rfl, ea⟩ := vr_ref hx
  obtain ⟨items, n, e, p⟩ := R.at e ea
  exact P.len_tuple e (Int.not_le.mpr <| lt_big (pd_size p ▸ hl)) (same_done R (.int _ _) (pd_size p ▸ kk.at h))⟩
theorem L_str {x : List Nat} (hl : x.length ≤ stopLen) (h : Q (.int x.length) S) : PL G (.str x) S Q := ⟨fun hA R hx kk => by
  obtain ⟨sx, tx, rfl, rfl⟩ := vr_str hx
  exact P.len_str (Int.not_le.mpr <| lt_big hl) (same_done R (.int _ _) (kk.at h))⟩
theorem L_acc {P : PP} {n0 : Int} {l : List Pc} (e : S.objs[j]? = some (.acc d vs)) (e2 : S.objs[d]? = some (.dict [(sizeKey, .int n0)])) (hp : Pieces S.objs vs l) (hk : 0 ≤ n0 ∧ n0 + (catL l).length ≤ 1000000) (h : Q (.int (n0 + (catL l).length)) S) : PL (TK P) (.ref j) S Q := ⟨fun hA R hx kk => by
  obtain ⟨a, rfl, ea⟩ := vr_ref hx
  exact P.AL hA e e2 hp hk R ea (kk.at h)⟩
end
end
end Mine
end
section
open PySem PySem.W PyProof.Rows PySem.Calls
namespace Mine
theorem fold_len (k : Nat) : ∀ (l : List Str) (a : Nat), l.foldl (fun a x => a + x.length + k) a = a + (l.map fun x => x.length + k).sum
  | [], a => by simp
  | x :: r, a => by rw [List.foldl_cons, fold_len k r, List.map_cons, List.sum_cons]; exact leq [_, _, _, _] [] [] [] (.a (.a (.a (.v 0) (.v 1)) (.v 2)) (.v 3)) (.a (.v 0) (.a (.a (.v 1) (.v 2)) (.v 3))) (by exact yes) (by exact yes)
theorem join_len (sep : List Nat) : ∀ l : List Str, (l.map fun x => x.length + sep.length).sum ≤ (joinL sep (l.map fun p => p.cps.toList)).length + sep.length
  | [] => Nat.zero_le _
  | [x] => Nat.le_refl _
  | x :: y :: r => by
    have ih := join_len sep (y :: r)
    show x.length + sep.length + ((y :: r).map fun x => x.length + sep.length).sum ≤ (x.cps.toList ++ sep ++ joinL sep ((y :: r).map fun p => p.cps.toList)).length + sep.length
    rw [List.length_append, List.length_append, ← len_cps]
    exact lle [_, _, _, _] [.le (.v 2) (.a (.v 3) (.v 1))] [1] (.a (.a (.v 0) (.v 1)) (.v 2)) (.a (.a (.a (.v 0) (.v 1)) (.v 3)) (.v 1)) (by exact yes) ih
theorem strs_of {ρ : List Addr} : ∀ {l : List (List Nat)} {rs : List Value}, VRs ρ (l.map .str) rs → ∃ ts : List (Str × Tok), rs = strValues ts ∧ l = ts.map fun x => x.1.cps.toList := by
  intro l
  induction l with
  | nil => exact fun p => pd_nil (C := fun rs => ∃ ts : List (Str × Tok), rs = strValues ts ∧ [] = ts.map fun x => x.1.cps.toList) p ⟨[], rfl, rfl⟩
  | cons x l ih =>
    intro rs p
    refine pd_cons (C := fun rs => ∃ ts : List (Str × Tok), rs = strValues ts ∧ x :: l = ts.map fun x => x.1.cps.toList) p fun b t hb ht => ?_
    obtain ⟨s, u, rfl, rfl⟩ := vr_str hb
    obtain ⟨ts, rfl, rfl⟩ := ih ht
    exact ⟨(s, u) :: ts, rfl, rfl⟩
theorem findDot_eq (x : Str) : Txt.find x ⟨#[46]⟩ = findDot x.cps.toList := by
  have hA : ∀ i, StrLaws.At x ⟨#[46]⟩ x.length i ↔ x.cps.toList[i]? = some 46 := fun i => StrLaws.subAt_one x 46 i
  unfold findDot
  rcases find_whole x ⟨#[46]⟩ with ⟨h0, hn⟩ | ⟨i, h0, hi, hn⟩
  · rw [h0, List.findIdx?_eq_none_iff.mpr fun c hc => ?_]
    obtain ⟨j, hj⟩ := List.mem_iff_getElem?.mp hc
    exact beq_eq_false_iff_ne.mpr fun hb => hn j ((hA j).mpr (hb ▸ hj))
  · obtain ⟨hl, he⟩ := List.getElem?_eq_some_iff.mp ((hA i).mp hi)
    rw [h0, List.findIdx?_eq_some_iff_getElem.mpr ⟨hl, by rw [he]; rfl, fun j hj hb => ?_⟩]
    exact hn j hj ((hA j).mpr (by rw [List.getElem?_eq_getElem (Nat.lt_trans hj hl), beq_iff_eq.mp hb]))
theorem starts_eq (x y : Str) : Txt.startswith x y = y.cps.toList.isPrefixOf x.cps.toList := by
  unfold Txt.startswith
  rw [StrLaws.subAt_eq, Bool.eq_iff_iff, List.isPrefixOf_iff_prefix, Bool.and_eq_true, decide_eq_true_eq, beq_iff_eq, List.drop_zero, len_cps, len_cps, List.prefix_iff_eq_take]
  exact ⟨fun h => h.2.symm, fun h => ⟨by have := congrArg List.length h; rw [List.length_take] at this; exact lle [_, _, _] [.eq (.v 0) (.v 2), .le (.v 2) (.v 1)] [1, 1] (.a (.n 0) (.v 0)) (.v 1) (by exact yes) this (Nat.min_le_right _ _), h.symm⟩⟩
theorem ends_eq (x y : Str) : Txt.endswith x y = y.cps.toList.isSuffixOf x.cps.toList := by
  unfold Txt.endswith
  rw [StrLaws.subAt_eq, Bool.eq_iff_iff, List.isSuffixOf_iff_suffix, Bool.and_eq_true, decide_eq_true_eq, beq_iff_eq, len_cps, len_cps, List.suffix_iff_eq_drop]
  have ht : y.cps.toList.length ≤ x.cps.toList.length → (x.cps.toList.drop (x.cps.toList.length - y.cps.toList.length)).take y.cps.toList.length = x.cps.toList.drop (x.cps.toList.length - y.cps.toList.length) := fun h =>
    List.take_of_length_le (by rw [List.length_drop]; exact lle [_, _, _, _] [.eq (.a (.v 0) (.v 2)) (.v 3), .le (.v 3) (.a (.v 2) (.v 1))] [1, 1] (.v 0) (.v 1) (by exact yes) (Nat.sub_add_cancel (lle [_, _] [.le (.v 0) (.v 1)] [1] (.v 0) (.v 1) (by exact yes) (Nat.sub_le _ _))) (sbl _ _))
  constructor
  · exact fun h => h.2.symm.trans (ht (by exact lle [_, _] [.le (.a (.n 0) (.v 0)) (.v 1)] [1] (.v 0) (.v 1) (by exact yes) h.1))
  · intro h
    have hl := congrArg List.length h
    rw [List.length_drop] at hl
    exact ⟨by exact lle [_, _, _] [.eq (.v 0) (.v 2), .le (.v 2) (.v 1)] [1, 1] (.a (.n 0) (.v 0)) (.v 1) (by exact yes) hl (Nat.sub_le _ _), (ht (by exact lle [_, _, _] [.eq (.v 0) (.v 2), .le (.v 2) (.v 1)] [1, 1] (.v 0) (.v 1) (by exact yes) hl (Nat.sub_le _ _))).trans h.symm⟩
theorem ascii_of {x : List Nat} (h : isAsciiL x = true) : ∀ c ∈ x, c < 128 := fun c hc => of_decide_eq_true (List.all_eq_true.mp h c hc)
theorem low_eq {x : Str} (h : isAsciiL x.cps.toList = true) : (Txt.lower x).cps.toList = lowL x.cps.toList := by
  rw [lower_ascii (ascii_of h)]
  exact Array.toList_map
theorem upp_eq {x : Str} (h : isAsciiL x.cps.toList = true) : (Txt.upper x).cps.toList = uppL x.cps.toList := by
  rw [upper_ascii (ascii_of h)]
  exact Array.toList_map
section
variable {G : Gd} {S : MS}
section
variable {x y : List Nat} {Q : QE}
theorem M_find (h : Q (.int (findDot x)) S) : PM G .find (.str x) [.str [46]] S Q := ⟨fun hA R ho ha hf k => by
  cases hf
  obtain ⟨sx, tx, rfl, rfl⟩ := vr_str ho
  refine pd_one ha fun b hb => ?_
  obtain ⟨⟨sy⟩, ty, rfl, e⟩ := vr_str hb
  cases (Array.toList_inj.mp e : sy = #[46])
  rw [← findDot_eq] at h
  exact SC.find (same_done R (.int _ _) (k.at h))⟩
theorem M_starts (h : Q (.bool (y.isPrefixOf x)) S) : PM G .startswith (.str x) [.str y] S Q := ⟨fun hA R ho ha hf k => by
  cases hf
  obtain ⟨sx, tx, rfl, rfl⟩ := vr_str ho
  refine pd_one ha fun b hb => ?_
  obtain ⟨sy, ty, rfl, rfl⟩ := vr_str hb
  rw [← starts_eq] at h
  exact SC.startswith (here_done R (.bool _) (k.at h))⟩
theorem M_ends (h : Q (.bool (y.isSuffixOf x)) S) : PM G .endswith (.str x) [.str y] S Q := ⟨fun hA R ho ha hf k => by
  cases hf
  obtain ⟨sx, tx, rfl, rfl⟩ := vr_str ho
  refine pd_one ha fun b hb => ?_
  obtain ⟨sy, ty, rfl, rfl⟩ := vr_str hb
  rw [← ends_eq] at h
  exact SC.endswith (here_done R (.bool _) (k.at h))⟩
theorem M_lower (hx : isAsciiL x = true ∧ x.length ≤ stopLen) (h : Q (.str (lowL x)) S) : PM G .lower (.str x) [] S Q := ⟨fun hA R ho ha hf k => by
  cases hf
  obtain ⟨sx, tx, rfl, rfl⟩ := vr_str ho
  exact pd_nil ha (SC.lower (short_ok (by rw [len_cps, low_eq hx.1, lowL, List.length_map]; exact Nat.le_trans hx.2 (by decide))) (same_done R (vr_mk (low_eq hx.1)) (k.at h)))⟩
theorem M_upper (hx : isAsciiL x = true ∧ x.length ≤ stopLen) (h : Q (.str (uppL x)) S) : PM G .upper (.str x) [] S Q := ⟨fun hA R ho ha hf k => by
  cases hf
  obtain ⟨sx, tx, rfl, rfl⟩ := vr_str ho
  exact pd_nil ha (SC.upper (short_ok (by rw [len_cps, upp_eq hx.1, uppL, List.length_map]; exact Nat.le_trans hx.2 (by decide))) (same_done R (vr_mk (upp_eq hx.1)) (k.at h)))⟩
theorem M_join {sep : List Nat} {j : Nat} {vs : List MV} {l : List (List Nat)} (e : S.objs[j]? = some (.list vs)) (hs : vs = l.map .str) (hl : (joinL sep l).length ≤ stopLen ∧ sep.length ≤ stopLen) (h : Q (.str (joinL sep l)) S) : PM G .join (.str sep) [.ref j] S Q := ⟨fun hA R ho ha hf k => by
  cases hf
  obtain ⟨sx, tx, rfl, rfl⟩ := vr_str ho
  refine pd_one ha fun b hb => ?_
  obtain ⟨a, rfl, ea⟩ := vr_ref hb
  obtain ⟨items, e, p⟩ := R.at e ea
  rw [hs] at p
  obtain ⟨ts, e1, rfl⟩ := strs_of p
  cases (Array.toList_inj.mp e1 : items = (strValues ts).toArray)
  have hg := glued_list sx (ts.map (·.1))
  have h6 := join_len sx.cps.toList (ts.map (·.1))
  rw [List.map_map] at hg h6
  have h1 := hl.1
  have h2 := hl.2
  have hst : stopLen = 4096 := rfl
  refine call_meets F.slot_str_join (typeIs_str _ _ _) F.entry_str_join (F.args_str_join_2 _ _) (meets_str_join_list sx tx a ts (short_ok ?_)) ⟨e.isList, ?_⟩
  · rw [List.foldl_toArray, fold_len, List.map_map, len_cps]
    rw [List.map_map] at h6
    refine Nat.le_trans (Nat.le_trans (Nat.le_of_eq (Nat.zero_add _)) h6) ?_
    show (joinL sx.cps.toList (ts.map fun x => x.1.cps.toList)).length + _ ≤ _
    exact lle [_, _, _] [.le (.v 0) (.v 2), .le (.v 1) (.v 2), .eq (.v 2) (.n 4096)] [1, 1, 2] (.a (.v 0) (.v 1)) (.n 100000) (by exact yes) h1 h2 hst
  · have hle : (Builtin.Str.glued sx (ts.map (·.1))).length ≤ sizeLine := by rw [len_cps, hg]; exact le_line h1
    cases ts with
    | nil => exact ⟨hle, same_done R (vr_mk hg) (k.at h)⟩
    | cons x ts => cases ts with
      | nil => exact here_done R (vr_mk rfl) (k.at h)
      | cons y ts => exact ⟨hle, same_done R (vr_mk hg) (k.at h)⟩⟩
end
section
variable {j d : Nat} {v : MV} {vs : List MV} {Q : QE}
/-- a list of the store that the model has turned in its place -/
theorem set_list {q : Sta} {env : Env} {s : Shared} {ρ : List Addr} {Qv : Value → Shared → Prop} {a : Addr} {items : Array Value} {n : Nat} {vs' : List MV} {h' : Heap} (R : Rel G ρ S q env s.heap) (ea : ρ[j]? = some a) (ho : S.objs[j]? = some (.list vs))
    (e : s.heap.get? a = some { cls := .type "list", data := .seq items n }) {items' : Array Value} (e' : h'.PlainList a items') (ke : StaysBut a s.heap h') (p : VRs ρ vs' items'.toList) (hQ : Post G ρ { S with objs := S.objs.set j (.list vs') } q env s VR .none Qv) :
    Qv .none { s with heap := h' } :=
  hQ { s with heap := h' } ρ .none (R.set (o := .list vs') ea ke (codeRec_but ke e fun _ => nofun) ⟨_, e', p⟩ fun vs e => by rw [ho] at e; cases e) (Ext.but (t := s.toks) (.inl (List.mem_of_getElem? ea)) ke (e'.elim fun _ x => ⟨_, x⟩)) .none
theorem M_append (e : S.objs[j]? = some (.list vs)) (hk : vs.length < 4096) (h : Q .none { S with objs := S.objs.set j (.list (vs ++ [v])) }) : PM G .append (.ref j) [v] S Q := ⟨fun hA R ho ha hf k => by
  cases hf
  obtain ⟨a, rfl, ea⟩ := vr_ref ho
  refine pd_one ha fun b hb => ?_
  obtain ⟨items, ⟨n, eo⟩, p⟩ := R.at e ea
  refine wpAny_list_append_plain ⟨n, eo⟩ (fun h' hp hs => ?_) (Nat.le_trans (pd_size p ▸ Nat.le_of_lt hk) (by decide))
  exact set_list R ea e eo hp (fun b o hb e => (hs.2 b hb).trans e) (by rw [Array.toList_push]; exact pd_app p (.cons hb .nil)) (k.at h)⟩
theorem M_insert {i : Int} (e : S.objs[j]? = some (.list vs)) (hk : 0 ≤ i ∧ i.toNat ≤ vs.length ∧ vs.length < 4096) (h : Q .none { S with objs := S.objs.set j (.list (insertAt i.toNat v vs)) }) : PM G .insert (.ref j) [.int i, v] S Q := ⟨fun hA R ho ha hf k => by
  cases hf
  obtain ⟨a, rfl, ea⟩ := vr_ref ho
  refine pd_cons ha fun b t hi ht => pd_one (C := fun t => wpAny _ _ (call _ (_ :: b :: t)) _ _ _) ht fun c hc => ?_
  obtain ⟨tk, rfl⟩ := vr_int hi
  obtain ⟨items, ⟨n0, eo⟩, p⟩ := R.at e ea
  have hsz := pd_size p
  refine call_meets F.slot_list_insert ⟨_, eo, rfl⟩ F.entry_list_insert (F.args_list_insert_3 _ _ _) (AutoSeq1.list_insert_list_int_val_1 a items n0 i tk _ ?_ ?_) ⟨eo, ?_⟩
  · simp only [Bool.not_eq_true', Bool.not_eq_false]
    unfold Builtin.List.listFitsIndex
    simp only [Bool.and_eq_true, decide_eq_true_eq]
    omega
  · rw [← hsz]; exact Nat.le_trans (Nat.le_of_lt hk.2.2) (by decide)
  · have hk' : ¬ i < 0 := by omega
    have hm : min i.toNat items.size = i.toNat := by exact leq [_, _] [.eq (.v 0) (.v 1)] [1] [-1] (.v 0) (.v 1) (by exact yes) (by exact yes) (Nat.min_eq_left (lle [_, _, _] [.le (.v 0) (.v 2), .eq (.v 2) (.v 1)] [1, 1] (.v 0) (.v 1) (by exact yes) hk.2.1 hsz))
    simp only [hk', if_false]
    exact set_list R ea e eo ⟨_, Heap.get?_update_self _ eo rfl⟩ (fun b o hb e => ((Heap.SameBut.update ..).2 b hb).trans e) (by dsimp only; rw [hm]; exact insert_list p hc) (k.at h)⟩
variable {P : PP}
theorem M_ainsert {i : Int} (e : S.objs[j]? = some (.acc d vs)) (hk : 0 ≤ i ∧ i.toNat ≤ vs.length ∧ vs.length < 4096) (h : Q .none { S with objs := S.objs.set j (.acc d (insertAt i.toNat v vs)) }) : PM (TK P) .ainsert (.ref j) [.int i, v] S Q := ⟨fun {q env A E s ρ Qv ro rs f} hA R ho ha hf k => by
  cases hf
  obtain ⟨a, rfl, ea⟩ := vr_ref ho
  refine pd_cons ha fun b t hi ht => pd_one (C := fun t => wpAny _ _ (call _ (_ :: b :: t)) _ _ _) ht fun c hc => ?_
  obtain ⟨tk, rfl⟩ := vr_int hi
  exact P.AM.insert (hA.u (by decide)) R e ea hk hc (k.at h)⟩
theorem M_count (e : S.objs[j]? = some (.acc d vs)) (hk : vs.length ≤ stopLen) (h : Q (.int vs.length) S) : PM (TK P) .partCount (.ref j) [] S Q := ⟨fun hA R ho ha hf k => by
  obtain ⟨a, rfl, ea⟩ := vr_ref ho
  exact pd_nil ha (P.AM.count hA R e ea hk (k.at h) _ hf)⟩
theorem M_pop (e : S.objs[j]? = some (.acc d vs)) (hl : vs.length ≤ stopLen) (h : Q (.ref S.objs.length) { S with objs := (S.objs ++ [MO.list vs]).set j (.acc d []) }) : PM (TK P) .popFrom (.ref j) [] S Q := ⟨fun hA R ho ha hf k => by
  obtain ⟨a, rfl, ea⟩ := vr_ref ho
  exact pd_nil ha (P.AM.pop hA R e ea hl (k.at h) _ hf)⟩
end
end
end Mine
end
section
open PySem PySem.W PyProof.Rows PySem.Calls
namespace Mine
theorem bne_false {a b : Str} (h : (a != b) = true) : (a == b) = false := Bool.eq_false_iff.mpr fun e => by unfold bne at h; rw [e] at h; cases h
theorem nameOk_d {x : Str} (h : nameOk x = true) : (x == ("__debug__" : Str)) = false := bne_false (Bool.and_eq_true_iff.mp h).1
theorem nameOk_c {x : Str} (h : nameOk x = true) : (x == ("__classdict__" : Str)) = false := bne_false (Bool.and_eq_true_iff.mp h).2
theorem not_class {env : Env} (hk : env.scope.kind = .function) : (env.scope.kind == .class || (env.scope.kind == .module && env.locals != env.globals)) = false := by rw [hk]; rfl
section
variable {G : Gd} {q : Sta} {env : Env}
theorem Blk.kindOf (b : Blk G q env) {x : Str} {k : NameKind} (h : nameKind q.sc x = some k) (hk : k ≠ .free) : env.kindOf x = some k :=
  (b.sc x k h).elim fun _ z => z.2.elim (fun e => e ▸ z.1) fun e => absurd e.1 hk
theorem Blk.kindFree (b : Blk G q env) {x : Str} (h : nameKind q.sc x = some .free) : env.kindOf x = some .free ∨ env.kindOf x = some .cell :=
  (b.sc x _ h).elim fun _ z => z.2.elim (fun e => .inl (e ▸ z.1)) fun e => .inr (e.2 ▸ z.1)
end
section
variable {G : Gd} {n : Nat} {q : Sta} {S : MS}
theorem cellAt {env : Env} {h : Heap} {ρ : List Addr} (R : Rel G ρ S q env h) {x : Str} {i : Nat} {v : Option MV} (hc : S.cel x = some i) (ho : S.objs[i]? = some (.cell v)) :
    ∃ c cv, env.cells.lookup x = some c ∧ ρ[i]? = some c ∧ h.IsCell c cv ∧ ∀ y, v = some y → ∃ rv, cv = some rv ∧ VR ρ y rv :=
  (R.cel x i hc).elim fun c z => (R.at ho z.2).elim fun cv z2 => ⟨c, cv, z.1, z.2, z2.1, z2.2⟩
section
variable {x : Str} {p : Pos} {v : MV} {i : Nat}
theorem E_local {Q : QE} (ho : nameOk x = true) (hk : nameKind q.sc x = some .local) (e : S.loc x = some v) (h : Q v S) : WE G (n + 1) q (.Name x p) S Q := .mk' rfl fun R _ k => by
  obtain ⟨m, hm, hr⟩ := R.ns
  obtain ⟨rv, e1, e2⟩ := hr _ _ e hk
  exact wpAny_Name (wpAny_loadName_local R.kind (R.b.kindOf hk nofun) hm e1 (here_done R e2 (k.at h))) (nameOk_d ho)
theorem E_cell {Q : QE} (ho : nameOk x = true) (hk : nameKind q.sc x = some .cell) (e : S.cel x = some i) (e2 : S.objs[i]? = some (.cell (some v))) (h : Q v S) : WE G (n + 1) q (.Name x p) S Q := .mk' rfl fun R _ k => by
  obtain ⟨c, cv, e1, _, e3, e4⟩ := cellAt R e e2
  obtain ⟨rv, rfl, hv⟩ := e4 _ rfl
  exact wpAny_Name (wpAny_loadName_cell R.kind (R.b.kindOf hk nofun) e1 e3 (here_done R hv (k.at h))) (nameOk_d ho)
theorem E_free {Q : QE} (ho : nameOk x = true) (hk : nameKind q.sc x = some .free) (e : S.cel x = some i) (e2 : S.objs[i]? = some (.cell (some v))) (h : Q v S) : WE G (n + 1) q (.Name x p) S Q := .mk' rfl fun R _ k => by
  obtain ⟨c, cv, e1, _, e3, e4⟩ := cellAt R e e2
  obtain ⟨rv, rfl, hv⟩ := e4 _ rfl
  have hq := here_done R hv (k.at h)
  exact wpAny_Name ((R.b.kindFree hk).elim (fun hk => wpAny_loadName_free R.kind hk e1 e3 hq (nameOk_c ho)) fun hk => wpAny_loadName_cell R.kind hk e1 e3 hq) (nameOk_d ho)
theorem E_global {P : PP} {v : Value} {Q : QE} (ho : nameOk x = true) (hk : nameKind q.sc x = some .globalImplicit) (e : (TK P).T.name x = some v) (h : Q (.glob v) S) : WE (TK P) (n + 1) q (.Name x p) S Q := .mk' rfl fun R _ k => by
  refine wpAny_Name ?_ (nameOk_d ho)
  unfold loadName
  simp only [Env.blockKind, R.kind, R.b.kindOf hk nofun, ScopeKind.isAnnotationScope, Bool.false_and, Bool.false_eq_true, if_false]
  have g := P.B.g.keeps R.keep
  have b := P.B.b.keeps R.keep
  rw [← R.b.globals] at g
  rw [← R.b.builtins] at b
  have hq := here_done R (.glob v) (k.at h)
  exact (P.B.names x v e).elim (fun e => loadGlobal_global g e hq) fun e => loadGlobal_builtin g e.1 b e.2 hq
theorem storeL {env : Env} {A : Around} {E : Value → Shared → Prop} {s : Shared} {ρ : List Addr} {Qv : Unit → Shared → Prop} {rv : Value} (hk : nameKind q.sc x = some .local) (R : Rel G ρ S q env s.heap) (hv : VR ρ v rv) (hQ : Post G ρ { S with loc := upd S.loc x v } q env s VU () Qv) :
    wpAny (model G.prog G.w) A (storeName env x rv) Qv E s := by
  obtain ⟨m, hm, hr⟩ := R.ns
  exact wpAny_storeName_local (R.b.kindOf hk nofun) hm (fun h' hn' hs' => hQ { s with heap := h', toks := s.toks + 1 } ρ () (R.loc hs' hm hr hn' hv) (Ext.but (t := s.toks + 1) (.inr rfl) (fun b o hb e => (hs'.2 b hb).trans e) (hn'.elim fun o x => x.elim fun _ x => x.elim fun _ x => ⟨o, x.1⟩)) trivial) (not_class R.kind)
theorem A_local {Q : QU} (hk : nameKind q.sc x = some .local) (h : Q () { S with loc := upd S.loc x v }) : WA G (n + 1) q (.Name x p) v S Q := ⟨fun R _ hv k => by
  rw [arm_assign_Name]
  exact wpAny_bind (wpAny_standAt (wpAny_bindName (storeL hk R hv (k.at h)))), rfl, nofun⟩
theorem A_cell {o : Option MV} {Q : QU} (hk : nameKind q.sc x = some .cell) (e : S.cel x = some i) (e2 : S.objs[i]? = some (.cell o)) (h : Q () { S with objs := S.objs.set i (.cell (some v)) }) : WA G (n + 1) q (.Name x p) v S Q := ⟨fun {env A E s ρ Qv rv} R _ hv k => by
  rw [arm_assign_Name]
  obtain ⟨c, cv, e1, ei, ⟨oc, eo, ed⟩, _⟩ := cellAt R e e2
  refine wpAny_bind (wpAny_standAt (wpAny_bindName (wpAny_storeName_cell R.kind (R.b.kindOf hk nofun) e1 ⟨oc, eo, ed⟩ fun h' hc' hs' => ?_)))
  have ke : StaysBut c s.heap h' := fun b o hb e => (hs'.2 b hb).trans e
  exact k.at h { s with heap := h' } ρ () (R.set (o := .cell _) ei ke (codeRec_but ke eo fun vs hx => by rw [ed] at hx; cases hx) ⟨_, hc', fun y hy => ⟨rv, rfl, by cases hy; exact hv⟩⟩ fun vs e => by rw [e2] at e; cases e)
    (Ext.but (t := s.toks) (.inl (List.mem_of_getElem? ei)) ke (hc'.elim fun o x => ⟨o, x.1⟩)) trivial, rfl, nofun⟩
end
theorem starEach_cons {env : Env} {e : Expr} {r : List Expr} (h : notStar e = true) : starEach (e :: r) env = (false, eval e env) :: starEach r env := by
  cases e <;> first | rfl | exact (nomatch h)
theorem WL_nil {Q : List MV → MS → Prop} (h : Q [] S) : WL G n q [] S Q := ⟨fun {env A E s ρ Qv p} _ R _ k => spliced_nil (k.at h s ρ [] R Ext.id ⟨.nil, rfl⟩), fun _ => h⟩
theorem WL_cons {a : Expr} {r : List Expr} {Q : List MV → MS → Prop} (h : WE G n q a S (KL1 G n q r Q)) : WL G n q (a :: r) S Q := ⟨fun {env A E s ρ Qv p} hs R hA k => by
  have hs := Bool.and_eq_true_iff.mp hs
  rw [starEach_cons hs.1]
  exact spliced_cons (rest := backTo p (starEach r env)) (h.w R hA fun v S₁ s₁ ρ₁ rv h1 R₁ X₁ v₁ => h1.w hs.2 R₁ hA fun vs S₂ s₂ ρ₂ rs h2 R₂ X₂ v₂ => k (v :: vs) S₂ s₂ ρ₂ (rv :: rs) h2 R₂ (X₁.trans X₂) ⟨.cons (X₂.vr v₁) v₂.1, congrArg Nat.succ v₂.2⟩), nofun⟩
theorem WK_nil {Q : List (Str × MV) → MS → Prop} (h : Q [] S) : WK G n q [] S Q := ⟨fun {env A E s ρ Qv p} R _ k => kwAll_nil (k.at h s ρ [] R Ext.id .nil)⟩
theorem WK_cons {x : Str} {e : Expr} {p : Pos} {r : List Keyword} {Q : List (Str × MV) → MS → Prop} (h : WE G n q e S (KK1 G n q x r Q)) : WK G n q (⟨some x, e, p⟩ :: r) S Q :=
  ⟨fun R hA k => kwAll_cons (h.w R hA fun v S₁ s₁ ρ₁ rv h1 R₁ X₁ v₁ => h1.w R₁ hA fun vs S₂ s₂ ρ₂ rs h2 R₂ X₂ v₂ => k ((x, v) :: vs) S₂ s₂ ρ₂ (rv :: rs) h2 R₂ (X₁.trans X₂) (.cons ⟨rfl, X₂.vr v₁⟩ v₂))⟩
theorem WO_none {Q : QE} (h : Q .none S) : WO G n q none S Q := ⟨fun R _ k => by rw [evalPart_none]; exact wpAny_pure (here_done R .none (k.at h))⟩
theorem WO_some {e : Expr} {Q : QE} (h : WE G n q e S Q) : WO G n q (some e) S Q := ⟨fun R hA k => by rw [evalPart_some]; exact h.w R hA k⟩
section
variable {p p2 : Pos} {Q : QE}
theorem E_Const {c : Const} {k : Nat} (h : PQ G c S Q) : WE G (n + 1) q (.Constant c k p) S Q := .mk' rfl fun R _ g => h.w R g
theorem E_Neg {i : Int} {k : Nat} (h : Q (.int (-i)) S) : WE G (n + 1) q (.UnaryOp .USub (.Constant (.int i) k p) p2) S Q := .mk' rfl fun {env A E s ρ Qv} R _ g => by
  rw [arm_eval_UnaryOp]
  exact wpAny_bind (wpAny_Constant_int (wpAny_bind (wpAny_standAt (wpAny_holding (P.neg_int (g.at h { s with toks := s.toks + 1 + 1 } ρ _ R Ext.toks (.int _ _)))))))
theorem E_Bin {l r : Expr} {op : Operator} (h : WE G n q l S (KB1 G n q op r Q)) : WE G (n + 1) q (.BinOp l op r p) S Q := .mk' rfl fun R hA k =>
  wpAny_BinOp (h.w R hA.down fun _ _ _ _ _ h1 R₁ X₁ v₁ => h1.w R₁ hA.down fun _ _ _ _ _ h2 R₂ X₂ v₂ => h2.w R₂ (X₂.vr v₁) v₂ (k.after (X₁.trans X₂)))
theorem E_If {t b o : Expr} (h : WT G n q t S (KIf G n q b o Q)) : WE G (n + 1) q (.IfExp t b o p) S Q := .mk' rfl fun R hA k => by
  rw [arm_eval_IfExp]
  refine wpAny_bind (h.w R hA.down fun c S₁ s₁ ρ₁ d h1 R₁ X₁ hd => ?_)
  cases (hd : c = d)
  cases c with
  | true => exact WE.w h1 R₁ hA.down (k.after X₁)
  | false => exact WE.w h1 R₁ hA.down (k.after X₁)
theorem marks_not {op : CmpOp} {r : Expr} (h : notSet r = true) : behindInMarks op r = false := by
  cases r <;> first | rfl | exact nomatch h
theorem E_Cmp {l r : Expr} {op : CmpOp} (hr : notSet r = true) (h : WE G n q l S (KC1 G n q op r (KCm Q))) : WE G (n + 1) q (.Compare l [op] [r] p) S Q := .mk' rfl fun R hA k =>
  wpAny_Compare1 (h.w R hA.down fun _ _ _ _ _ h1 R₁ X₁ v₁ => h1.w R₁ hA.down fun _ _ s₂ ρ₂ _ h2 R₂ X₂ v₂ => h2.w.elim fun _ z => z.2 hA.low R₂ (X₂.vr v₁) v₂ (k.at z.1 s₂ ρ₂ _ R₂ (X₁.trans X₂) (.bool _))) (marks_not hr)
theorem few_ok {ρ : List Addr} {vs : List MV} {rs : List Value} (p : VRs ρ vs rs) (h : vs.length ≤ stopLen) : rs.toArray.size ≤ sizeLine := Nat.le_trans (pd_len p ▸ h) (by decide)
end
end
end Mine
end
section
open PySem PySem.W PyProof.Rows PySem.Calls
namespace Mine
/-- what is walked along, told by its object -/
inductive ItemsR (S : MS) (i : Nat) : SK → List MV → Prop
  | list {vs : List MV} (e : S.objs[i]? = some (.list vs)) : ItemsR S i .list vs
  | tup {vs : List MV} (e : S.objs[i]? = some (.tup vs)) : ItemsR S i .tup vs
  | rng {a b c : Int} (e : S.objs[i]? = some (.rng a b c)) (h : rngOk a b c = true) : ItemsR S i (.rng a b c) (rngItems a b c)
theorem items_inv {S : MS} {v : MV} {sk : SK} {vs : List MV} (h : itemsOf S v = some (sk, vs)) : ∃ i, v = .ref i ∧ ItemsR S i sk vs := by
  cases v with
  | ref i =>
    refine ⟨i, rfl, ?_⟩
    unfold itemsOf at h
    dsimp only at h
    generalize ho : S.objs[i]? = o at h
    cases o with
    | none => cases h
    | some o =>
      cases o with
      | list vs => cases h; exact .list ho
      | tup vs => cases h; exact .tup ho
      | rng a b c =>
        dsimp only at h
        split at h
        · cases h; exact .rng ho (by assumption)
        · cases h
      | _ => cases h
  | _ => cases h
theorem items_list {S : MS} {j : Nat} {vs : List MV} (e : S.objs[j]? = some (.list vs)) : itemsOf S (.ref j) = some (.list, vs) := by
  unfold itemsOf; dsimp only; rw [e]
theorem items_tup {S : MS} {j : Nat} {vs : List MV} (e : S.objs[j]? = some (.tup vs)) : itemsOf S (.ref j) = some (.tup, vs) := by
  unfold itemsOf; dsimp only; rw [e]
theorem items_rng {S : MS} {j : Nat} {a b c : Int} (e : S.objs[j]? = some (.rng a b c)) (h : rngOk a b c = true) : itemsOf S (.ref j) = some (.rng a b c, rngItems a b c) := by
  unfold itemsOf; dsimp only; rw [e]; exact if_pos h
section
variable {G : Gd} {n : Nat} {q : Sta} {S : MS} {p p2 : Pos} {Q : QE}
theorem E_List {es : List Expr} (hc : es.all notStar = true) (hl : decide (es.length ≤ 64) = true) (h : WL G n q es S (KLi Q)) : WE G (n + 1) q (.List es p) S Q := .mk' rfl fun R hA k => by
  rw [arm_eval_List]
  refine wpAny_bind (wpAny_standAt (wpAny_bind (h.w hc R hA.down fun vs S₁ s₁ ρ₁ rs h1 R₁ X₁ vrs => ?_)))
  unfold newList
  exact wpAny_newObj_type (new_done (t := s₁.toks) (o := .list vs) R₁ (push_stays _ _) (size_none _) ⟨rs.toArray, ⟨0, Heap.get?_push_size _ rfl⟩, vrs.1.pre .app⟩ ((k.after X₁).at h1)) (Nat.le_trans (Nat.le_of_eq vrs.2) (Nat.le_trans (of_decide_eq_true hl) (by decide)))
theorem E_Tuple {e : Expr} {es : List Expr} {k : Nat} (hc : (e :: es).all notStar = true) (hl : decide ((e :: es).length ≤ 64) = true) (h : WL G n q (e :: es) S (KTu Q)) : WE G (n + 1) q (.Tuple (e :: es) k p) S Q := .mk' rfl fun R hA g => by
  rw [arm_eval_Tuple]
  refine wpAny_bind (wpAny_standAt (wpAny_bind (h.w hc R hA.down fun vs S₁ s₁ ρ₁ rs h1 R₁ X₁ vrs => ?_)))
  unfold newTuple
  exact wpAny_newObj_type (new_done (t := s₁.toks) (o := .tup vs) R₁ (push_stays _ _) (size_none _) ⟨rs.toArray, 0, Heap.get?_push_size _ rfl, vrs.1.pre .app⟩ ((g.after X₁).at h1)) (Nat.le_trans (Nat.le_of_eq vrs.2) (Nat.le_trans (of_decide_eq_true hl) (by decide)))
theorem E_Dict (h : Q (.ref S.objs.length) { S with objs := S.objs ++ [.dict []] }) : WE G (n + 1) q (.Dict [] [] p) S Q := .mk' rfl fun {env A E s ρ Qv} R _ k =>
  wpAny_Dict_empty (new_done (t := s.toks) (o := .dict []) R (push_stays _ _) (size_none _) ⟨[], Heap.DictOf.new _, .nil⟩ (k.at h))
/-- reading an item, behind the two values -/
theorem sub_tail {A : Around} {E : Value → Shared → Prop} {s : Shared} {value slice : Expr} {o i : Value} {Q : Value → Shared → Prop} (h : Gip G s o ∧ wpAny (model G.prog G.w) A (getItem o i) Q E s) :
    wpAny (model G.prog G.w) A (standAt p >>= fun _ => getitemInPython o >>= fun b => subscripted slice b o i >>= fun r => letTemporaryGo value o r >>= fun _ => pure r) Q E s :=
  wpAny_bind (wpAny_standAt (wpAny_bind (h.1 _ _ _ (wpAny_bind (wpAny_subscripted (wpAny_mono h.2 (fun _ _ hr => wpAny_bind (wpAny_letTemporaryGo (wpAny_pure hr))) fun _ _ x => x))))))
theorem E_Sub {o i : Expr} (hi : notSlice i = true) (h : WE G n q o S (KG1 G n q i Q)) : WE G (n + 1) q (.Subscript o i p) S Q := .mk' rfl fun R hA k => by
  rw [arm_eval_Subscript]
  exact wpAny_bind (h.w R hA.down fun _ _ _ _ _ h1 R₁ X₁ v₁ => wpAny_bind (wpAny_holding (h1.w R₁ hA.down fun _ _ _ _ _ h2 R₂ X₂ v₂ => sub_tail (h2.w R₂ (X₂.vr v₁) v₂ (k.after (X₁.trans X₂))))))
theorem E_Slice {o : Expr} {l u st : Option Expr} {sp : Pos} (h : WE G n q o S (KS0 G n q l u st Q)) : WE G (n + 1) q (.Subscript o (.Slice l u st sp) p) S Q := .mk' rfl fun R hA k => by
  rw [arm_eval_Subscript]
  refine wpAny_bind (h.w R hA.down fun _ _ _ _ _ h1 R₁ X₁ v₁ => wpAny_bind (wpAny_holding (wpAny_Slice (h1.w R₁ hA.down fun _ _ _ _ rl h2 R₂ X₂ v₂ => h2.w R₂ hA.down fun _ _ _ _ ru h3 R₃ X₃ v₃ => h3.w R₃ hA.down fun _ _ s₄ _ rt h4 R₄ X₄ v₄ => ?_))))
  have kk : Stays s₄.heap (s₄.heap.push { cls := .type "slice", data := .fields #[rl, ru, rt] }) := push_stays _ _
  have X24 := (X₂.trans X₃).trans X₄
  exact sub_tail (h4.w (R₄.keeps kk) (X24.vr v₁) (X₄.vr (X₃.vr v₂)) (X₄.vr v₃) v₄ ⟨_, Heap.get?_push_size _ rfl, rfl, rfl⟩ (k.after ((X₁.trans X24).trans (Ext.grow (t := s₄.toks) kk))))
theorem and_step {x : Expr} {r : List (Sem Value)} {y : Sem Value} {env : Env} {A : Around} {E : Value → Shared → Prop} {s : Shared} {ρ : List Addr} {Qv : Value → Shared → Prop} {R' : MS → Prop} (h : WE G n q x S fun v S₁ => v = .bool true ∧ R' S₁) (R : Rel G ρ S q env s.heap) (hA : AOk n A)
    (hn : ∀ S₁ s₁ ρ₁, R' S₁ → Rel G ρ₁ S₁ q env s₁.heap → Ext G ρ ρ₁ env.locals s s₁ → wpAny (model G.prog G.w) A (boolOp p .And (y :: r)) Qv E s₁) : wpAny (model G.prog G.w) A (boolOp p .And (eval x env :: y :: r)) Qv E s := by
  show wpAny _ A (eval x env >>= fun v => standAt p >>= fun _ => holding [v] (truthy v) >>= fun t => match BoolOp.And, t with | .And, false | .Or, true => pure v | _, _ => boolOp p .And (y :: r)) Qv E s
  refine wpAny_bind (h.w R hA fun v S₁ s₁ ρ₁ ra h1 R₁ X₁ va => wpAny_bind (wpAny_standAt (wpAny_bind (wpAny_holding ?_))))
  obtain ⟨rfl, h1⟩ := h1
  cases vr_bool va
  exact wpAny_truthy_bool (hn S₁ s₁ ρ₁ h1 R₁ X₁)
/-- four tests, each a truth -/
theorem E_And4 {x y z u : Expr} (h : WE G n q x S fun v S₁ => v = .bool true ∧ WE G n q y S₁ fun v S₂ => v = .bool true ∧ WE G n q z S₂ fun v S₃ => v = .bool true ∧ WE G n q u S₃ Q) : WE G (n + 1) q (.BoolOp .And [x, y, z, u] p) S Q := .mk' rfl fun R hA k => by
  rw [arm_eval_BoolOp]
  exact and_step h R hA.down fun _ _ _ h1 R₁ X₁ => and_step h1 R₁ hA.down fun _ _ _ h2 R₂ X₂ => and_step h2 R₂ hA.down fun _ _ _ h3 R₃ X₃ => h3.w R₃ hA.down (k.after ((X₁.trans X₂).trans X₃))
end
section
variable {G : Gd} {n : Nat} {q : Sta} {S : MS} {p p2 : Pos} {Q : QB}
theorem T_Cmp {l r : Expr} {op : CmpOp} (hr : notSet r = true) (h : WE G n q l S (KC1 G n q op r Q)) : WT G (n + 1) q (.Compare l [op] [r] p) S Q := ⟨fun R hA k =>
  wpAny_isTrue_Compare1 (h.w R hA.down fun _ _ _ _ _ h1 R₁ X₁ v₁ => h1.w R₁ hA.down fun _ _ s₂ ρ₂ _ h2 R₂ X₂ v₂ => h2.w.elim fun _ z => z.2 hA.low R₂ (X₂.vr v₁) v₂ (wpAny_truthy_bool (k.at z.1 s₂ ρ₂ _ R₂ (X₁.trans X₂) rfl))) (marks_not hr)⟩
theorem T_Not {x : Expr} (h : WT G n q x S (KN Q)) : WT G (n + 1) q (.UnaryOp .Not x p) S Q := ⟨fun R hA k => by
  rw [arm_isTrue_UnaryOp]
  exact wpAny_bind (h.w R hA.down fun b S₁ s₁ ρ₁ c h1 R₁ X₁ hc => by cases (hc : b = c); exact wpAny_pure (k.at h1 s₁ ρ₁ _ R₁ X₁ rfl))⟩
theorem all_step {op : BoolOp} {x : Expr} {r : List Expr} {env : Env} {A : Around} {E : Value → Shared → Prop} {s : Shared} {ρ : List Addr} {Qv : Bool → Shared → Prop} {Qb : QB} (h : WT G n q x S Qb) (R : Rel G ρ S q env s.heap) (hA : AOk n A)
    (hn : Go G ρ q env s VB Qb fun b s₁ => wpAny (model G.prog G.w) A (match op, b with | .And, false => pure false | .Or, true => pure true | _, _ => allTrue op r env) Qv E s₁) : wpAny (model G.prog G.w) A (allTrue op (x :: r) env) Qv E s := by
  unfold allTrue
  exact wpAny_bind (h.w R hA hn)
theorem last_step {op : BoolOp} {x : Expr} {env : Env} {A : Around} {E : Value → Shared → Prop} {s : Shared} {ρ : List Addr} {Qv : Bool → Shared → Prop} (h : WT G n q x S Q) (R : Rel G ρ S q env s.heap) (hA : AOk n A) (k : Go G ρ q env s VB Q Qv) : wpAny (model G.prog G.w) A (allTrue op [x] env) Qv E s :=
  all_step h R hA fun b S₁ s₁ ρ₁ c h1 R₁ X₁ hc => by
    cases (hc : b = c)
    cases op <;> cases b <;> exact wpAny_pure (k.at h1 s₁ ρ₁ _ R₁ X₁ rfl)
theorem T_And {x y : Expr} (h : WT G n q x S (KAn G n q y Q)) : WT G (n + 1) q (.BoolOp .And [x, y] p) S Q := ⟨fun R hA k => by
  rw [arm_isTrue_BoolOp]
  refine all_step h R hA.down fun b S₁ s₁ ρ₁ c h1 R₁ X₁ hc => ?_
  cases (hc : b = c)
  cases b with
  | false => exact wpAny_pure (k.at h1 s₁ ρ₁ _ R₁ X₁ rfl)
  | true => exact last_step h1 R₁ hA.down (k.after X₁)⟩
theorem or_step {x : Expr} {r : List Expr} {env : Env} {A : Around} {E : Value → Shared → Prop} {s : Shared} {ρ : List Addr} {Qv : Bool → Shared → Prop} {W' : MS → Prop} (h : WT G n q x S fun b S' => if b then Q true S' else W' S') (R : Rel G ρ S q env s.heap) (hA : AOk n A) (k : Go G ρ q env s VB Q Qv)
    (hn : ∀ S₁ s₁ ρ₁, W' S₁ → Rel G ρ₁ S₁ q env s₁.heap → Ext G ρ ρ₁ env.locals s s₁ → wpAny (model G.prog G.w) A (allTrue .Or r env) Qv E s₁) : wpAny (model G.prog G.w) A (allTrue .Or (x :: r) env) Qv E s :=
  all_step h R hA fun b S₁ s₁ ρ₁ c h1 R₁ X₁ hc => by
    cases (hc : b = c)
    cases b with
    | true => exact wpAny_pure (k.at h1 s₁ ρ₁ _ R₁ X₁ rfl)
    | false => exact hn S₁ s₁ ρ₁ h1 R₁ X₁
theorem T_Or {x y : Expr} (h : WT G n q x S (KOr G n q y Q)) : WT G (n + 1) q (.BoolOp .Or [x, y] p) S Q := ⟨fun R hA k => by
  rw [arm_isTrue_BoolOp]
  exact or_step h R hA.down k fun _ _ _ h1 R₁ X₁ => last_step h1 R₁ hA.down (k.after X₁)⟩
theorem T_Or3 {x y z : Expr} (h : WT G n q x S (KO3 G n q y z Q)) : WT G (n + 1) q (.BoolOp .Or [x, y, z] p) S Q := ⟨fun R hA k => by
  rw [arm_isTrue_BoolOp]
  exact or_step h R hA.down k fun _ _ _ h1 R₁ X₁ => or_step h1 R₁ hA.down (k.after X₁) fun _ _ _ h2 R₂ X₂ => last_step h2 R₂ hA.down (k.after (X₁.trans X₂))⟩
theorem T_plain {e : Expr} (he : ∀ env, isTrue e env (eval e env) = (do let v ← eval e env; standAt e.pos; holding [v] (truthy v))) (h : WE G n q e S (KT G Q)) : WT G (n + 1) q e S Q := ⟨fun {env A E s ρ Qv} R hA k => by
  rw [he]
  exact wpAny_bind (h.w R hA.down fun _ _ s₁ ρ₁ _ h1 R₁ X₁ va => wpAny_bind (wpAny_standAt (wpAny_holding (h1.w.elim fun _ z => z.2 va (k.at z.1 s₁ ρ₁ _ R₁ X₁ rfl)))))⟩
theorem T_Name {x : Str} (h : WE G n q (.Name x p) S (KT G Q)) : WT G (n + 1) q (.Name x p) S Q := T_plain (fun _ => rfl) h
theorem T_Call {f : Expr} {args : List Expr} {kws : List Keyword} (_ : isName f = true) (h : WE G n q (.Call f args kws p) S (KT G Q)) : WT G (n + 1) q (.Call f args kws p) S Q := T_plain (fun _ => rfl) h
theorem T_Sub {o i : Expr} (h : WE G n q (.Subscript o i p) S (KT G Q)) : WT G (n + 1) q (.Subscript o i p) S Q := T_plain (fun _ => rfl) h
theorem T_Meth {x : Str} {name : Str} {ap cp : Pos} {a : Expr} (_ : decide (name = "search") = false) (h : WE G n q (.Call (.Attribute (.Name x p2) name ap) [a] [] cp) S (KT G Q)) : WT G (n + 1) q (.Call (.Attribute (.Name x p2) name ap) [a] [] cp) S Q := T_plain (fun _ => rfl) h
end
end Mine
end
section
open PySem PySem.W PyProof.Rows PySem.Calls
namespace Mine
section
variable {G : Gd} {n : Nat} {q : Sta} {S : MS} {env : Env}
theorem kind_local (b : Blk G q env) {x : Str} {k : NameKind} (h : nameKind q.sc x = some k) : (env.kindOf x == some .local) = (k == .local) := by
  obtain ⟨k', e, hf⟩ := b.sc x k h
  rw [e]
  rcases hf with rfl | ⟨rfl, rfl⟩
  · cases k' <;> rfl
  · rfl
theorem star_not {x : Expr} (hx : notStar x = true) : (match (generalizing := false) x with | .Starred .. => true | _ => false) = false := by cases x <;> first | rfl | exact (nomatch hx)
theorem star2 {x y : Expr} (hx : notStar x = true) (hy : notStar y = true) : ¬ (((match (generalizing := false) x with | .Starred .. => true | _ => false) || ((match (generalizing := false) y with | .Starred .. => true | _ => false) || false)) = true) := by
  rw [star_not hx, star_not hy]; decide
noncomputable def swE (b₁ b₂ : Bool) (a b : Str) (x y : Expr) : Sem (Option (List Str)) :=
  have names := List.filterMap (fun z : Bool × Str => if z.1 = true then some z.2 else none) [(b₁, a), (b₂, b)]
  if (names.length != 2 || names.eraseDups.length != names.length) = true then pure none
  else if (foldedForSure 8 x && (foldedForSure 8 y && true)) = true then pure none
  else
    have jp := fun _ : Unit => pure (some names)
    if (constantsAlone 8 x && (constantsAlone 8 y && true)) = true then (do
      let r ← unsupported "assign.tuple-of-constant-expressions:order-of-the-stores"
      jp r)
    else jp ()
theorem swap_at (b : Blk G q env) {a a' : Str} {p p2 pp pp' : Pos} {k k' : Nat} {x y : Expr} (hx : notStar x = true) (hy : notStar y = true) : swappedStores [.Tuple [.Name a p, .Name a' p2] k pp] (.Tuple [x, y] k' pp') env =
    swE (env.kindOf a == some .local && p.line == p.line) (env.kindOf a' == some .local && p2.line == p.line) a a' x y :=
  have hbk : env.blockKind = .function := by unfold Env.blockKind; rw [b.kind]; rfl
  (if_neg (show ¬ ((false || env.blockKind != .function) = true) by rw [hbk]; decide)).trans ((if_neg (fun e => star2 hx hy e)).trans rfl)
theorem swap2_sim (b : Blk G q env) {a a' : Str} {p p2 pp pp' : Pos} {k k' : Nat} {x y : Expr} {r : Bool} (h : swap2 q a a' p p2 x y = some r) :
    swappedStores [.Tuple [.Name a p, .Name a' p2] k pp] (.Tuple [x, y] k' pp') env = pure (if r then some [a, a'] else none) ∧ (r = true → nameKind q.sc a = some .local ∧ nameKind q.sc a' = some .local) := by
  obtain ⟨ka, h3, g3⟩ := Option.bind_eq_some_iff.mp h
  obtain ⟨kb, h4, h⟩ := Option.bind_eq_some_iff.mp g3
  clear g3
  split at h
  · rename_i hc
    simp only [Bool.and_eq_true] at hc
    rw [swap_at b hc.1.1 hc.1.2, kind_local b h3, kind_local b h4, beq_self_eq_true, Bool.and_true]
    generalize hkb : (kb == NameKind.local && p2.line == p.line) = lb at h ⊢
    generalize hka : (ka == NameKind.local) = la at h ⊢
    cases la with
    | false => cases h; cases lb <;> exact ⟨rfl, nofun⟩
    | true =>
      cases lb with
      | false => cases h; exact ⟨rfl, nofun⟩
      | true =>
        have he : ([a, a'] : List Str).eraseDups.length = 2 := by
          rw [List.eraseDups_cons, List.filter_cons_of_pos (by rw [Bool.not_eq_true', beq_eq_false_iff_ne]; exact fun e => bne_iff_ne.mp hc.2 e.symm)]
          rfl
        refine ⟨?_, fun _ => ⟨h3.trans (congrArg some (eq_of_beq hka)), h4.trans (congrArg some (eq_of_beq (Bool.and_eq_true_iff.mp hkb).1))⟩⟩
        refine (if_neg (show ¬ ((2 != 2 || ([a, a'] : List Str).eraseDups.length != 2) = true) by rw [he]; decide)).trans ?_
        rw [if_pos (show (true && true) = true from rfl)] at h
        split at h
        · rename_i hf
          cases h
          exact if_pos hf
        · rename_i hf
          refine (if_neg hf).trans ?_
          split at h
          · cases h
          · rename_i hk
            cases h
            exact if_neg hk
  · cases h
theorem noSwap_sim {t e : Expr} (h : noSwap t e = true) : swappedStores [t] e env = pure none := by
  cases t with
  | Tuple ts k p =>
    cases e with
    | Tuple vs k' p' =>
      refine if_pos ?_
      have h := Bool.and_eq_true_iff.mp h
      rw [beq_false_of_ne (bne_iff_ne.mp h.1), beq_false_of_ne (bne_iff_ne.mp h.2)]
      rfl
    | _ => rfl
  | List ts p => cases h
  | _ => rfl
theorem swapsWith_not {e t : Expr} {l : Nat} (h : (e.ctorIdx != 8 && (e.ctorIdx != 9 && e.ctorIdx != 10)) = true) : swapsWith e (some t) l env = pure false := by
  cases e <;> first | rfl | cases h
end
section
variable {G : Gd} {n : Nat} {q : Sta} {S : MS} {p : Pos} {Q : QF}
theorem assignEach_cons {env : Env} {e : Expr} {r : List Expr} (h : notStar e = true) : assignEach (e :: r) env = (false, assign e env) :: assignEach r env := by
  cases e <;> first | rfl | exact (nomatch h)
theorem assignAll1 {M : Model} {A : Around} {E : Value → Shared → Prop} {s : Shared} {env : Env} {t : Expr} {v : Value} {Q : Unit → Shared → Prop} (ht : notStar t = true) (h : wpAny M A (assign t env v) Q E s) : wpAny M A (assignAll v ((assignEach [t] env).map (·.2))) Q E s := by
  rw [assignEach_cons ht]
  exact h
noncomputable def plainE (e : Expr) : Bool := e.ctorIdx != 8 && (e.ctorIdx != 9 && e.ctorIdx != 10)
/-- a value bound, in the order told -/
theorem asgX {t e : Expr} (he : plainE e = true) (hs : ∀ {env : Env}, Blk G q env → swappedStores [t] e env = pure none) (h : WE G n q e S (KA1 G n q t Q)) : WX G (n + 1) q (.Assign [t] e p) S Q := ⟨fun R hA k => by
  rw [arm_exec_Assign]
  refine wpAny_bind (wpAny_standAt (wpAny_bind (wpAny_of_eq (swapsWith_not (e := e) (t := t) he) ?_)))
  rw [if_neg nofun]
  refine wpAny_bind (h.w R hA.down fun v S₁ s₁ ρ₁ rv h1 R₁ X₁ hv => wpAny_bind (wpAny_of_eq (hs R.b) ?_))
  show wpAny _ _ (assignAll rv ((assignEach [t] _).map (·.2)) >>= fun _ => pure Flow.next) _ _ s₁
  exact wpAny_bind (assignAll1 h1.star (h1.w R₁ hA.down hv fun _ _ s₂ ρ₂ _ h2 R₂ X₂ _ => wpAny_pure (k.at h2 s₂ ρ₂ _ R₂ (X₁.trans X₂) .next)))⟩
theorem X_Assign {t e : Expr} (hs : (plainE e && noSwap t e) = true) (h : WE G n q e S (KA1 G n q t Q)) : WX G (n + 1) q (.Assign [t] e p) S Q :=
  have hs := Bool.and_eq_true_iff.mp hs
  asgX hs.1 (fun _ => noSwap_sim hs.2) h
theorem X_AssignN {a b : Str} {pa pb pp pe : Pos} {x y : Expr} {k k' : Nat} (hs : swap2 q a b pa pb x y = some false) (h : WE G n q (.Tuple [x, y] k' pe) S (KA1 G n q (.Tuple [.Name a pa, .Name b pb] k pp) Q)) : WX G (n + 1) q (.Assign [.Tuple [.Name a pa, .Name b pb] k pp] (.Tuple [x, y] k' pe) p) S Q :=
  asgX rfl (fun b => (swap2_sim b hs).1) h
/-- the list of a comprehension bound to a name -/
theorem X_AssignC {x : Str} {px pe : Pos} {elt t iter : Expr} {ifs : List Expr} {sc : Scope} (h : WE G n q (.ListComp elt [⟨t, iter, ifs, 0⟩] sc pe) S (KA1 G n q (.Name x px) Q)) : WX G (n + 1) q (.Assign [.Name x px] (.ListComp elt [⟨t, iter, ifs, 0⟩] sc pe) p) S Q := ⟨fun {env A E s ρ Qv} R hA k => by
  rw [arm_exec_Assign]
  generalize hb : (env.blockKind == .function && env.kindOf x == some .local && px.line == pe.line && !(sc.names.any fun (n, k) => n == x && (k == .local || k == .cell))) = b
  refine wpAny_bind (wpAny_standAt (wpAny_bind (wpAny_of_eq (show swapsWithSole [.Name x px] (.ListComp elt [⟨t, iter, ifs, 0⟩] sc pe) p.line env = pure b by rw [← hb]; rfl) ?_)))
  cases b with
  | false =>
    rw [if_neg nofun]
    refine wpAny_bind (h.w R hA.down fun v S₁ s₁ ρ₁ rv h1 R₁ X₁ hv => wpAny_bind (wpAny_of_eq (noSwap_sim (t := .Name x px) rfl) ?_))
    show wpAny _ _ (assignAll rv ((assignEach [.Name x px] _).map (·.2)) >>= fun _ => pure Flow.next) _ _ s₁
    exact wpAny_bind (assignAll1 rfl (h1.w R₁ hA.down hv fun _ _ s₂ ρ₂ _ h2 R₂ X₂ _ => wpAny_pure (k.at h2 s₂ ρ₂ _ R₂ (X₁.trans X₂) .next)))
  | true =>
    rw [if_pos rfl]
    refine wpAny_bind ?_
    show wpAny _ A (do let _ ← comprehension (.ListComp elt [⟨t, iter, ifs, 0⟩] sc pe) sc env (firstIterPos [⟨t, iter, ifs, 0⟩] pe) (newList []) false (eval iter env) (some (assign (.Name x px) env))) _ E s
    refine wpAny_bind (h.c rfl R hA.down fun v S₁ s₁ ρ₁ rv C m h1 R₁ X₁ hv O hC hn => ?_)
    refine h1.w R₁ hA.down hv fun _ S₂ s₂ ρ₂ _ h2 R₂ X₂ _ => ?_
    obtain ⟨o, es, ep, e, hd, hr⟩ := hC
    obtain ⟨O₂, e₂⟩ := O.ext X₂ e
    refine ⟨m, ⟨o, es, ep, e₂, hd, hr⟩, fun h' hs' => wpAny_pure (wpAny_pure ?_)⟩
    have kk : StaysBut C s₂.heap h' := fun b o hb e => (hs'.2 b hb).trans e
    exact k.at h2 { s₂ with heap := h', toks := s₂.toks } ρ₂ _ (R₂.off O₂ kk (codeRec_off kk e₂ fun vs hx => by rw [hd] at hx; cases hx)) ((X₁.trans X₂).offStep hn kk) .next⟩
theorem X_Swap {a b : Str} {pa pb pp pe : Pos} {x y : Expr} {k k' : Nat} (hs : swap2 q a b pa pb x y = some true) (hx : notStar x = true) (hy : notStar y = true) (h : WE G n q x S (KW1 G n q a b y Q)) : WX G (n + 2) q (.Assign [.Tuple [.Name a pa, .Name b pb] k pp] (.Tuple [x, y] k' pe) p) S Q := ⟨fun {env A E s ρ Qv} R hA g => by
  obtain ⟨hs, hk⟩ := swap2_sim (k := k) (k' := k') (pp := pp) (pp' := pe) R.b hs
  have hk := hk rfl
  rw [arm_exec_Assign]
  refine wpAny_bind (wpAny_standAt (wpAny_bind (wpAny_of_eq (show swapsWithSole [.Tuple [.Name a pa, .Name b pb] k pp] (.Tuple [x, y] k' pe) p.line env = pure false from rfl) ?_)))
  rw [if_neg nofun]
  refine wpAny_bind ?_
  have hes : [x, y].all notStar = true := by show (notStar x && (notStar y && true)) = true; rw [hx, hy]; rfl
  refine WE.w (E_Tuple (n := n) (q := q) (e := x) (es := [y]) (k := k') (p := pe) (Q := fun v S₁ => ∃ u w S₂, v = .ref S₂.objs.length ∧ S₁ = { S₂ with objs := S₂.objs ++ [.tup [u, w]] } ∧ KW2 a b Q u w S₂) hes rfl
    (WL_cons (WE_post h fun v S₁ h1 => WL_cons (WE_post h1 fun u S₂ h2 => WL_nil ⟨v, u, S₂, rfl, rfl, h2⟩)))) R hA.down fun v S₁ s₁ ρ₁ rv h1 R₁ X₁ hv => ?_
  obtain ⟨u, w, S₂, rfl, rfl, h2⟩ := h1
  refine wpAny_bind (wpAny_of_eq hs ?_)
  obtain ⟨l, rfl, el⟩ := vr_ref hv
  obtain ⟨items, m, e, pr⟩ := R₁.at List.getElem?_concat_length el
  show wpAny _ _ (assignStores env _ (some [a, b]) _) _ _ s₁
  unfold assignStores
  refine wpAny_bind (wpAny_rule (wpAny_bind ?_))
  show wpAny _ _ (unpackItems _ 2 none) _ _ _
  have hsz : 2 = items.size := pd_size pr
  rw [hsz]
  refine wpAny_unpackItems_tuple hA.handled (isTuple_of e) fun h' he => ?_
  have k₂ : Stays s₁.heap h' := fun b o e => he b o (Nat.ne_of_lt (Heap.lt_size e)) e
  have R₂ := R₁.keeps k₂
  refine pd_cons (C := fun l => wpAny _ _ (assignInOrder _ l.reverse >>= _) _ _ _) pr fun b0 t hx ht => pd_one (C := fun l => wpAny _ _ (assignInOrder _ (b0 :: l).reverse >>= _) _ _ _) ht fun b1 hy => ?_
  refine wpAny_bind ?_
  show wpAny _ A (holding _ (bindName env b _) >>= fun _ => holding _ (bindName env a _) >>= fun _ => pure ()) _ E _
  refine wpAny_bind (wpAny_holding (wpAny_bindName (storeL hk.2 R₂ hy fun s₃ ρ₃ _ R₃ X₃ _ => ?_)))
  refine wpAny_bind (wpAny_holding (wpAny_bindName (storeL hk.1 R₃ (X₃.vr hx) fun s₄ ρ₄ _ R₄ X₄ _ => ?_)))
  exact wpAny_pure (wpAny_pure (g.at h2 s₄ ρ₄ _ R₄ (((X₁.trans (Ext.grow (t := s₁.toks) k₂)).trans X₃).trans X₄) .next))⟩
theorem X_Return {e : Expr} (h : WE G n q e S (KR Q)) : WX G (n + 1) q (.Return (some e) p) S Q := ⟨fun R hA k => wpAny_Return_some (h.w R hA.down fun _ _ s₁ ρ₁ _ h1 R₁ X₁ hv => k.at h1 s₁ ρ₁ _ R₁ X₁ (.ret hv))⟩
theorem X_Expr {f : Expr} {args : List Expr} {kws : List Keyword} {cp : Pos} (h : WE G n q (.Call f args kws cp) S (KX Q)) : WX G (n + 1) q (.Expr (.Call f args kws cp) p) S Q := ⟨fun R hA k =>
  wpAny_Expr (h.w R hA.down fun v S₁ s₁ ρ₁ rv h1 R₁ X₁ hv => by
    obtain ⟨rfl, h1⟩ := h1
    cases vr_none hv
    exact k.at h1 s₁ ρ₁ _ R₁ X₁ .next) (by unfold interactive; rw [R.kind]; rfl) rfl⟩
theorem X_If {t : Expr} {b o : List Stmt} (h : WT G n q t S (KI G n q b o Q)) : WX G (n + 1) q (.If t b o p) S Q := ⟨fun R hA k =>
  wpAny_If (h.w R hA.down fun c S₁ s₁ ρ₁ d h1 R₁ X₁ hd => by
    cases (hd : c = d)
    cases c with
    | true => exact WB.w h1 R₁ hA.down (k.after X₁)
    | false => exact WB.w h1 R₁ hA.down (k.after X₁))⟩
theorem X_Try {b : List Stmt} {h0 : ExceptHandler} {hs : List ExceptHandler} (h : WB G n q b S Q) : WX G (n + 1) q (.Try b (h0 :: hs) [] [] p) S Q := ⟨fun R hA k =>
  wpAny_Try_except (h.w R hA.down fun f S₁ s₁ ρ₁ fl h1 R₁ X₁ hf => by
    cases hf with
    | next => exact wpAny_execs_nil (k.at h1 s₁ ρ₁ _ R₁ X₁ .next)
    | ret hv => exact k.at h1 s₁ ρ₁ _ R₁ X₁ (.ret hv))⟩
theorem W_nil (h : Q .next S) : WB G n q [] S Q := ⟨fun {env A E s ρ Qv} R _ k => wpAny_execs_nil (k.at h s ρ _ R Ext.id .next)⟩
theorem W_cons {st : Stmt} {r : List Stmt} (h : WX G n q st S (KS G n q r Q)) : WB G n q (st :: r) S Q := ⟨fun R hA k =>
  wpAny_execs_cons (h.w R hA fun f S₁ s₁ ρ₁ fl h1 R₁ X₁ hf => by
    cases hf with
    | next => exact WB.w h1 R₁ hA (k.after X₁)
    | ret hv => exact k.at h1 s₁ ρ₁ _ R₁ X₁ (.ret hv))⟩
end
end Mine
end
section
open PySem PySem.W PyProof.Rows PySem.Calls
namespace Mine
theorem draw_list {prog : Program} {w : World} {A : Around} {E : Value → Shared → Prop} {it l : Addr} {items : Array Value} (hne : l ≠ it) : ∀ (n i : Nat) (s : Shared) (Q : List Value → Shared → Prop), s.heap.IsListIter it l i → s.heap.IsList l items → i + n ≤ items.size →
    (∀ h', h'.IsListIter it l (i + n) → Heap.SameBut it s.heap h' → Q ((items.toList.drop i).take n) { s with heap := h' }) → wpAny (model prog w) A (draw (.ref it) n) Q E s := by
  intro n
  induction n with
  | zero => exact fun i s Q hit _ _ hQ => wpAny_pure (List.take_zero ▸ hQ s.heap hit (Heap.SameBut.refl ..))
  | succ n ih =>
    intro i s Q hit hl hle hQ
    have hlt : i < items.size := Nat.lt_of_lt_of_le (Nat.lt_add_of_pos_right (Nat.succ_pos n)) hle
    have e1 : items[i]? = some items[i] := Array.getElem?_eq_getElem hlt
    show wpAny _ _ (pyNext (.ref it) >>= _) Q E s
    refine wpAny_bind (wpAny_pyNext_list_item hit hl e1 fun h₁ hit₁ hs₁ => ?_)
    have hi : i + 1 + n = i + (n + 1) := by rw [Nat.add_assoc, Nat.add_comm 1 n]
    refine wpAny_bind (wpAny_holding (ih (i + 1) _ _ hit₁ (hl.extBut hs₁.extBut hne) (Nat.le_trans (Nat.le_of_eq hi) hle) fun h₂ hit₂ hs₂ => wpAny_pure ?_))
    have h3 := hQ h₂ (hi ▸ hit₂) (hs₁.trans hs₂)
    rw [List.drop_eq_getElem_cons (by rw [Array.length_toList]; exact hlt), Array.getElem_toList, List.take_succ_cons] at h3
    exact h3
theorem unpackItems_list {prog : Program} {w : World} {A : Around} {E : Value → Shared → Prop} {s : Shared} {l : Addr} {items : Array Value} {Q : List Value → Shared → Prop} (hh : A.handled = none) (hl : s.heap.IsList l items)
    (hQ : ∀ h', Heap.ExtBut s.heap.objs.size s.heap h' → Q items.toList { s with heap := h' }) : wpAny (model prog w) A (unpackItems (.ref l) items.size none) Q E s := by
  have hlt : l ≠ s.heap.objs.size := by obtain ⟨o, ho, _⟩ := hl; exact Nat.ne_of_lt (Heap.lt_size ho)
  unfold unpackItems
  refine wpAny_bind ?_
  unfold notIterableAtAll
  refine wpAny_bind (wpAny_specialOf hl.typeIs slot_list_iter.lookup (wpAny_pure ?_))
  rw [if_neg nofun]
  refine wpAny_bind (wpAny_holding (wpAny_pyIter_list hl ?_))
  refine wpAny_bind (wpAny_holding (draw_list hlt items.size 0 _ _ ⟨_, Heap.get?_push_size _ rfl, rfl, rfl⟩ (hl.push _) (Nat.le_of_eq (Nat.zero_add _)) fun h₁ hit₁ hs₁ => ?_))
  have hlen : items.toList.length = items.size := Array.length_toList
  rw [List.drop_zero, List.take_of_length_le (Nat.le_of_eq hlen), if_neg (by rw [hlen]; exact Nat.lt_irrefl _)]
  have hl₁ : h₁.IsList l items := (hl.push _).extBut hs₁.extBut hlt
  refine wpAny_bind (wpAny_holding (wpAny_pyNext_list_end hh hit₁ hl₁ (by rw [Nat.zero_add]; exact Array.getElem?_eq_none (Nat.le_refl _)) fun h₂ he₂ => ?_))
  rw [if_neg nofun]
  exact wpAny_pure (hQ h₂ fun b o hb e => he₂ b o hb (hs₁.extBut b o hb (Heap.get?_push_of_some _ e)))
section
variable {G : Gd} {n : Nat} {q : Sta} {S : MS}
theorem unpack_sim {env : Env} {A : Around} {E : Value → Shared → Prop} {s : Shared} {ρ : List Addr} {src : MV} {ro : Value} {sk : SK} {vs : List MV} {Q : List Value → Shared → Prop} (hh : A.handled = none) (hs : itemsOf S src = some (sk, vs)) (hk : sk = .list ∨ sk = .tup) (R : Rel G ρ S q env s.heap) (hv : VR ρ src ro)
    (hQ : ∀ rs h', VRs ρ vs rs → Stays s.heap h' → Q rs { s with heap := h' }) : wpAny (model G.prog G.w) A (unpackItems ro vs.length none) Q E s := by
  obtain ⟨i, rfl, hr⟩ := items_inv hs
  obtain ⟨l, rfl, el⟩ := vr_ref hv
  cases hr with
  | list ho =>
    obtain ⟨items, e, p⟩ := R.at ho el
    rw [pd_size p]
    exact unpackItems_list hh e.isList fun h' he => hQ _ h' p fun b o e => he b o (Nat.ne_of_lt (Heap.lt_size e)) e
  | tup ho =>
    obtain ⟨items, n, e, p⟩ := R.at ho el
    rw [pd_size p]
    exact wpAny_unpackItems_tuple hh (isTuple_of e) fun h' he => hQ _ h' p fun b o e => he b o (Nat.ne_of_lt (Heap.lt_size e)) e
  | rng => exact hk.elim nofun nofun
theorem star_of {env : Env} : ∀ {ts : List Expr}, ts.all notStar = true → (assignEach ts env).length = ts.length ∧ (assignEach ts env).findIdx? (·.1) = none := by
  intro ts
  induction ts with
  | nil => exact fun _ => ⟨rfl, rfl⟩
  | cons t ts ih =>
    intro h
    have h := Bool.and_eq_true_iff.mp h
    rw [assignEach_cons h.1]
    exact ⟨congrArg Nat.succ (ih h.2).1, by rw [List.findIdx?_cons, (ih h.2).2]; rfl⟩
theorem WA.mono {t : Expr} {v : MV} {Q Q' : QU} (h : WA G n q t v S Q) (k : ∀ u S', Q u S' → Q' u S') : WA G n q t v S Q' := ⟨fun R hA hv g => h.w R hA hv (g.mono k), h.star, h.tup⟩
/-- targets, one by one -/
structure WAs (G : Gd) (n : Nat) (q : Sta) (ts : List Expr) (vs : List MV) (S : MS) (Q : QU) : Prop where
  w : ∀ {env A E s ρ Qv rs}, Rel G ρ S q env s.heap → AOk n A → VRs ρ vs rs → Go G ρ q env s VU Q Qv → wpAny (model G.prog G.w) A (assignInOrder ((assignEach ts env).map (·.2)) rs) Qv E s
theorem WAs_nil {Q : QU} (h : Q () S) : WAs G n q [] [] S Q := ⟨fun {env A E s ρ Qv rs} R _ hv k => pd_nil (C := fun rs => wpAny _ _ (assignInOrder _ rs) _ _ _) hv (wpAny_pure (k.at h s ρ () R Ext.id trivial))⟩
theorem WAs_cons {t : Expr} {ts : List Expr} {v : MV} {vs : List MV} {Q : QU} (h : WA G n q t v S fun _ S₁ => WAs G n q ts vs S₁ Q) : WAs G n q (t :: ts) (v :: vs) S Q :=
  ⟨fun {env A E s ρ Qv rs} R hA hv k => by
    rw [assignEach_cons h.star]
    refine pd_cons (C := fun rs => wpAny _ _ (assignInOrder _ rs) _ _ _) hv fun b t hb ht => ?_
    show wpAny _ A (holding _ (assign _ env _) >>= fun _ => assignInOrder ((assignEach ts env).map (·.2)) _) Qv E s
    exact wpAny_bind (wpAny_holding (h.w R hA hb fun _ _ _ _ _ h1 R₁ X₁ _ => h1.w R₁ hA (X₁.vrs ht) (k.after X₁)))⟩
theorem WAs_one {t : Expr} {v : MV} {Q : QU} (h : WA G n q t v S Q) : WAs G n q [t] [v] S Q := WAs_cons (h.mono fun _ _ a => WAs_nil a)
theorem WAs_two {t1 t2 : Expr} {x y : MV} {Q : QU} (h : WA G n q t1 x S fun _ S₁ => WA G n q t2 y S₁ Q) : WAs G n q [t1, t2] [x, y] S Q := WAs_cons (h.mono fun _ _ a => WAs_one a)
theorem WAs_three {t1 t2 t3 : Expr} {x y z : MV} {Q : QU} (h : WA G n q t1 x S fun _ S₁ => WA G n q t2 y S₁ fun _ S₂ => WA G n q t3 z S₂ Q) : WAs G n q [t1, t2, t3] [x, y, z] S Q := WAs_cons (h.mono fun _ _ a => WAs_two a)
section
variable {p : Pos} {k : Nat} {v : MV} {sk : SK} {Q : QU}
theorem A_tup {ts : List Expr} {vs : List MV} (hn : ts.all notStar = true) (e : itemsOf S v = some (sk, vs)) (hl : vs.length = ts.length) (hs : sk = .list ∨ sk = .tup) (h : WAs G n q ts vs S Q) : WA G (n + 1) q (.Tuple ts k p) v S Q := ⟨fun {env A E s ρ Qv rv} R hA hv g => by
  rw [arm_assign_Tuple]
  refine wpAny_bind (wpAny_standAt ?_)
  unfold unpack
  rw [(star_of hn).1, (star_of hn).2, ← hl]
  exact wpAny_bind (wpAny_holding (unpack_sim hA.handled e hs R hv fun rs h' hr hk => h.w (s := { s with heap := h' }) (R.keeps hk) hA.down hr (g.after (Ext.grow (t := s.toks) hk)))), rfl, fun _ => (items_inv e).elim fun i z => ⟨i, z.1⟩⟩
section
variable {t1 t2 t3 t4 : Expr} {x y z u : MV}
theorem A_tup2 (hn : [t1, t2].all notStar = true) (e : itemsOf S v = some (sk, [x, y])) (hs : sk = .list ∨ sk = .tup) (h : WA G n q t1 x S fun _ S₁ => WA G n q t2 y S₁ Q) : WA G (n + 1) q (.Tuple [t1, t2] k p) v S Q := A_tup hn e rfl hs (WAs_two h)
theorem A_tup3 (hn : [t1, t2, t3].all notStar = true) (e : itemsOf S v = some (sk, [x, y, z])) (hs : sk = .list ∨ sk = .tup) (h : WA G n q t1 x S fun _ S₁ => WA G n q t2 y S₁ fun _ S₂ => WA G n q t3 z S₂ Q) : WA G (n + 1) q (.Tuple [t1, t2, t3] k p) v S Q := A_tup hn e rfl hs (WAs_three h)
theorem A_tup4 (hn : [t1, t2, t3, t4].all notStar = true) (e : itemsOf S v = some (sk, [x, y, z, u])) (hs : sk = .list ∨ sk = .tup) (h : WA G n q t1 x S fun _ S₁ => WA G n q t2 y S₁ fun _ S₂ => WA G n q t3 z S₂ fun _ S₃ => WA G n q t4 u S₃ Q) : WA G (n + 1) q (.Tuple [t1, t2, t3, t4] k p) v S Q :=
  A_tup hn e rfl hs (WAs_cons (h.mono fun _ _ a => WAs_three a))
end
theorem A_pair {a b : Str} {p1 p2 : Pos} {x y : MV} (h1 : nameKind q.sc a = some .local) (h2 : nameKind q.sc b = some .local) (e : itemsOf S v = some (sk, [x, y])) (hs : sk = .list ∨ sk = .tup)
    (h : Q () { S with loc := upd (upd S.loc a x) b y }) : WA G (n + 2) q (.Tuple [.Name a p1, .Name b p2] k p) v S Q := A_tup2 rfl e hs (A_local h1 (A_local h2 h))
theorem A_sub {o i : Expr} (h : WE G n q o S fun ov S₁ => WE G n q i S₁ fun iv S₂ => PI G ov iv v S₂ Q) : WA G (n + 1) q (.Subscript o i p) v S Q := ⟨fun R hA hv k => by
  rw [arm_assign_Subscript]
  refine wpAny_bind (wpAny_holding (h.w R hA.down fun _ _ _ _ _ h1 R₁ X₁ v₁ => ?_))
  refine wpAny_bind (wpAny_holding (h1.w R₁ hA.down fun _ _ _ _ _ h2 R₂ X₂ v₂ => wpAny_bind (wpAny_standAt (wpAny_bind (wpAny_holding ?_)))))
  have X12 := X₁.trans X₂
  refine h2.w R₂ (X₂.vr v₁) v₂ (X12.vr hv) fun _ _ _ _ _ h3 R₃ X₃ hu => ?_
  intro Γ p hΓ
  rw [Sem.wp_release]
  exact k _ _ _ _ _ h3 R₃ (X12.trans X₃) hu, rfl, nofun⟩
end
structure PA (G : Gd) (op : Operator) (i j : Int) (S : MS) (Q : QE) : Prop where
  w : ∀ {q env A E s ρ Qv t u}, Rel G ρ S q env s.heap → Go G ρ q env s VR Q Qv → wpAny (model G.prog G.w) A (inplaceOp op (.int i t) (.int j u)) Qv E s
theorem I_add {i j : Int} {Q : QE} (h : Q (.int (i + j)) S) : PA G .Add i j S Q := ⟨fun R k => AutoIntOps.iadd_0 (same_done R (.int _ _) (k.at h))⟩
theorem I_mul {i j : Int} {Q : QE} (hx : i.natAbs < 2 ^ 60 ∧ j.natAbs < 2 ^ 60) (h : Q (.int (i * j)) S) : PA G .Mult i j S Q := ⟨fun R k => AutoIntOps.imul_0 (same_done R (.int _ _) (k.at h)) (IntMulOk.of_left (intBits_le_64 (by omega) (by omega)))⟩
section
variable {p p2 : Pos} {op : Operator} {Q : QF}
theorem X_AugL {x : Str} {e : Expr} {i : Int} (hk : nameKind q.sc x = some .local) (e0 : S.loc x = some (.int i)) (h : WE G n q e S fun b S₂ => ∃ j : Int, b = .int j ∧ PA G op i j S₂ fun r S₃ => Q .next { S₃ with loc := upd S₃.loc x r }) : WX G (n + 1) q (.AugAssign (.Name x p) op e p2) S Q := ⟨fun R hA k => by
  obtain ⟨m, hm, hr⟩ := R.ns
  obtain ⟨rv, e1, e2⟩ := hr _ _ e0 hk
  obtain ⟨t, rfl⟩ := vr_int e2
  refine wpAny_AugAssign_Name (wpAny_loadName_local R.kind (R.b.kindOf hk nofun) hm e1 (h.w R hA.down fun b S₁ s₁ ρ₁ rb h1 R₁ X₁ vb => ?_))
  obtain ⟨j, rfl, h1⟩ := h1
  obtain ⟨u, rfl⟩ := vr_int vb
  exact h1.w R₁ fun _ _ _ _ _ h2 R₂ X₂ vr => storeL hk R₂ vr fun s₃ ρ₃ _ R₃ X₃ _ => k.at h2 s₃ ρ₃ _ R₃ ((X₁.trans X₂).trans X₃) .next⟩
theorem aug_plain {i : Expr} (h : notSlice i = true) (ov iv new : Value) : augStore i ov iv new = (do holding [new, ov, iv] (setItem ov iv new); release [new, ov, iv] []; pure Flow.next) := by
  cases i <;> first | rfl | cases h
theorem X_AugSub {o i e : Expr} (hi : notSlice i = true) (h : WE G n q o S fun ov S₁ => WE G n q i S₁ fun iv S₂ => PG G ov iv S₂ fun a S₃ => WE G n q e S₃ fun b S₄ => ∃ x y : Int, a = .int x ∧ b = .int y ∧ PA G op x y S₄ fun r S₅ => PI G ov iv r S₅ fun _ S₆ => Q .next S₆) :
    WX G (n + 1) q (.AugAssign (.Subscript o i p) op e p2) S Q := ⟨fun R hA k => by
  refine wpAny_AugAssign_SubscriptAny (h.w R hA.down fun _ _ _ _ _ h1 R₁ X₁ vo => h1.w R₁ hA.down fun _ _ _ _ _ h2 R₂ X₂ vi => (h2.w R₂ (X₂.vr vo) vi fun _ _ _ _ _ h3 R₃ X₃ va => h3.w R₃ hA.down fun _ _ _ _ _ h4 R₄ X₄ vb => ?_).2) (aug_plain hi)
  obtain ⟨x, y, rfl, rfl, h4⟩ := h4
  obtain ⟨t, rfl⟩ := vr_int va
  obtain ⟨u, rfl⟩ := vr_int vb
  refine h4.w R₄ fun _ _ _ _ _ h5 R₅ X₅ vr => ?_
  have X25 := (X₃.trans X₄).trans X₅
  exact h5.w R₅ (X25.vr (X₂.vr vo)) (X25.vr vi) vr fun _ _ s₆ ρ₆ _ h6 R₆ X₆ _ => k.at h6 s₆ ρ₆ _ R₆ (((X₁.trans X₂).trans X25).trans X₆) .next⟩
noncomputable abbrev KWb (I : Nat → MS → Prop) (k : Nat) (Q : QF) : QF := fun f S'' => match f with | .next => I k S'' | .ret v => Q (.ret v) S''
noncomputable abbrev KWh (G : Gd) (n : Nat) (q : Sta) (b : List Stmt) (I : Nat → MS → Prop) (k : Nat) (Q : QF) : QB := fun c S' => if c then WB G n q b S' (KWb I k Q) else Q .next S'
theorem X_While {t : Expr} {b : List Stmt} (I : Nat → MS → Prop) (h0 : I 64 S) (no : ∀ S, ¬ I 0 S) (step : ∀ k S, I (k + 1) S → WT G n q t S (KWh G n q b I k Q)) : WX G (n + 1) q (.While t b [] p) S Q := ⟨fun {env A E s ρ Qv} R hA k => by
  refine wpAny_While (codeAny_whileLoop (fun m s' => ∃ ρ' S₁, I m S₁ ∧ Rel G ρ' S₁ q env s'.heap ∧ Ext G ρ ρ' env.locals s s') ?_ 64 ⟨ρ, S, h0, R, Ext.id⟩)
  rintro m s₁ ⟨ρ₁, S₁, h₁, R₁, X₁⟩
  cases m with
  | zero => exact absurd h₁ (no S₁)
  | succ m =>
    refine (step m S₁ h₁).w R₁ hA.down fun c S₂ s₂ ρ₂ d h2 R₂ X₂ hd => ?_
    cases (hd : c = d)
    have X12 := X₁.trans X₂
    cases c with
    | true =>
      refine WB.w h2 R₂ hA.down fun f S₃ s₃ ρ₃ fl h3 R₃ X₃ hf => ?_
      cases hf with
      | next => exact ⟨m, Nat.lt_succ_self m, ρ₃, S₃, h3, R₃, X12.trans X₃⟩
      | ret hv => exact k.at h3 s₃ ρ₃ _ R₃ (X12.trans X₃) (.ret hv)
    | false => exact wpAny_execs_nil (k.at h2 s₂ ρ₂ _ R₂ X12 .next)⟩
end
end
end Mine
end
section
open PySem PySem.W PyProof.Rows PySem.Calls
namespace Mine
/-- an iterator at its place -/
noncomputable def ItAt (h : Heap) (I l : Addr) (k : Nat) (n : Nat) : SK → Prop
  | .list => h.IsListIter I l k
  | .tup => h.IsTupleIter I l k
  | .rng a _ c => IsRangeIter h I (a + (k : Int) * c) ((n : Int) - (k : Int)) c
noncomputable abbrev OffObj (o : Obj) : Prop := ∀ vs, o.data = .fields vs → ∀ q t, vs[1]? ≠ some (.str q t)
theorem ItAt.obj {h : Heap} {I l : Addr} {k n : Nat} {sk : SK} (x : ItAt h I l k n sk) : ∃ o, h.get? I = some o ∧ OffObj o := by
  cases sk with
  | list => exact x.elim fun o z => ⟨o, z.1, fun vs hd => by cases z.2.2.symm.trans hd; exact nofun⟩
  | tup => exact x.elim fun o z => ⟨o, z.1, fun vs hd => by cases z.2.2.symm.trans hd; exact nofun⟩
  | rng a b c => exact ⟨_, x, fun vs hd => by cases hd; exact nofun⟩
theorem ItAt.at {h h' : Heap} {I l : Addr} {k n : Nat} {sk : SK} (x : ItAt h I l k n sk) (e : h'.get? I = h.get? I) : ItAt h' I l k n sk := by
  cases sk with
  | list => exact x.elim fun o z => ⟨o, e.trans z.1, z.2⟩
  | tup => exact x.elim fun o z => ⟨o, e.trans z.1, z.2⟩
  | rng a b c => exact e.trans x
theorem rngItems_len {a b c : Int} (hc : c = 1 ∨ c = -1) : (((rngItems a b c).length : Nat) : Int) = Builtin.Range.rangeSize a b c := by
  rcases hc with rfl | rfl
  · rw [rngItems, if_pos rfl, rangeSize_one, List.length_map, List.length_range]; split <;> omega
  · rw [rngItems, if_neg (by decide), List.length_map, List.length_range]
    unfold Builtin.Range.rangeSize
    simp
    split <;> omega
theorem rngItems_get {a b c : Int} (hc : c = 1 ∨ c = -1) {k : Nat} {v : MV} (h : (rngItems a b c)[k]? = some v) : v = .int (a + (k : Int) * c) := by
  have key : ∀ {f : Nat → MV} {m : Nat}, ((List.range m).map f)[k]? = some v → v = f k := fun h => by
    rw [List.getElem?_map, Option.map_eq_some_iff] at h
    obtain ⟨j, h1, h2⟩ := h
    obtain ⟨hl, e⟩ := List.getElem?_eq_some_iff.mp h1
    rw [List.getElem_range] at e
    rw [← h2, e]
  rcases hc with rfl | rfl
  · rw [rngItems, if_pos rfl] at h
    rw [key h, Int.mul_one]
  · rw [rngItems, if_neg (by decide)] at h
    rw [key h, Int.mul_neg_one]; rfl
theorem rng_small {a b c : Int} (h : rngOk a b c = true) : Builtin.Range.small a b c = true ∧ (c = 1 ∨ c = -1) := by
  obtain ⟨hc, h1, h2, h3, h4⟩ := of_decide_eq_true h
  refine ⟨?_, hc⟩
  have hs := rngItems_len (a := a) (b := b) hc
  have hz : (rngItems a b c).length ≤ 4000 := by
    rcases hc with rfl | rfl
    · rw [rngItems, if_pos rfl, List.length_map, List.length_range]; omega
    · rw [rngItems, if_neg (by decide), List.length_map, List.length_range]; omega
  unfold Builtin.Range.small Builtin.Range.rangeFitsLong
  simp only [Bool.and_eq_true, Bool.or_eq_true, decide_eq_true_eq, beq_iff_eq]
  rcases hc with rfl | rfl
  · simp; omega
  · simp; omega
section
variable {G : Gd} {ρ ρ₂ ρ₃ : List Addr} {S S₂ S₃ : MS} {q : Sta} {env : Env} {s s₂ s₃ : Shared} {Lo I l : Addr} {A : Around} {E : Value → Shared → Prop} {src : MV} {sk : SK} {vs : List MV} {k : Nat}
theorem iter_start {ro : Value} {Q : Value → Shared → Prop} (hs : itemsOf S src = some (sk, vs)) (R : Rel G ρ S q env s.heap) (hv : VR ρ src ro)
    (hQ : ∀ l o, ro = .ref l → (s.heap.push o).get? s.heap.objs.size = some o → ItAt (s.heap.push o) s.heap.objs.size l 0 vs.length sk → Q (.ref s.heap.objs.size) { s with heap := s.heap.push o }) :
    wpAny (model G.prog G.w) A (pyIter ro) Q E s := by
  obtain ⟨i, rfl, hr⟩ := items_inv hs
  obtain ⟨l, rfl, el⟩ := vr_ref hv
  cases hr with
  | list ho =>
    obtain ⟨items, e, p⟩ := R.at ho el
    exact wpAny_pyIter_list e.isList (hQ l _ rfl (Heap.get?_push_size _ rfl) ⟨_, Heap.get?_push_size _ rfl, rfl, rfl⟩)
  | tup ho =>
    obtain ⟨items, n, e, p⟩ := R.at ho el
    exact wpAny_pyIter_tuple (isTuple_of e) (hQ l _ rfl (Heap.get?_push_size _ rfl) ⟨_, Heap.get?_push_size _ rfl, rfl, rfl⟩)
  | @rng a b c ho hok =>
    obtain ⟨t, u, v, e⟩ := R.at ho el
    obtain ⟨hsm, hc⟩ := rng_small hok
    refine wpAny_pyIter_range e hsm (hQ l _ rfl (Heap.get?_push_size _ rfl) ?_)
    show IsRangeIter _ _ _ _ _
    rw [rngItems_len hc, Int.natCast_zero, Int.zero_mul, Int.add_zero, Int.sub_zero]
    exact Heap.get?_push_size _ rfl
theorem iter_item {v : MV} {Q : Option Value → Shared → Prop} (hs : itemsOf S src = some (sk, vs)) (R : Rel G ρ S q env s.heap) (hv : VR ρ src (.ref l)) (it : ItAt s.heap I l k vs.length sk) (hk : vs[k]? = some v)
    (hQ : ∀ rv h' t, VR ρ v rv → ItAt h' I l (k + 1) vs.length sk → Heap.SameBut I s.heap h' → Q (some rv) { s with heap := h', toks := t }) : wpAny (model G.prog G.w) A (pyNext (.ref I)) Q E s := by
  obtain ⟨i, rfl, hr⟩ := items_inv hs
  obtain ⟨l', e', el⟩ := vr_ref hv
  cases e'
  cases hr with
  | list ho =>
    obtain ⟨items, e, p⟩ := R.at ho el
    obtain ⟨rv, e1, e2⟩ := pd_get p hk
    exact wpAny_pyNext_list_item it e.isList (x := rv) ((Array.getElem?_toList ..).symm.trans e1) fun h' h1 h2 => hQ rv h' s.toks e2 h1 h2
  | tup ho =>
    obtain ⟨items, n, e, p⟩ := R.at ho el
    obtain ⟨rv, e1, e2⟩ := pd_get p hk
    exact wpAny_pyNext_tuple_item it (isTuple_of e) (x := rv) ((Array.getElem?_toList ..).symm.trans e1) fun h' h1 h2 => hQ rv h' s.toks e2 h1 h2
  | @rng a b c ho hok =>
    obtain ⟨hsm, hc⟩ := rng_small hok
    have hl := (List.getElem?_eq_some_iff.mp hk).1
    cases rngItems_get hc hk
    refine wpAny_pyNext_range_item it (by omega) fun h' h1 h2 => hQ _ h' (s.toks + 1) (.int _ _) ?_ h2
    show IsRangeIter _ _ _ _ _
    rw [Int.natCast_succ, Int.add_mul, Int.one_mul, ← Int.add_assoc, ← Int.sub_sub]; exact h1
theorem iter_end {Q : Option Value → Shared → Prop} (hh : A.handled = none) (hs : itemsOf S src = some (sk, vs)) (R : Rel G ρ S q env s.heap) (hv : VR ρ src (.ref l)) (it : ItAt s.heap I l vs.length vs.length sk)
    (hQ : ∀ h', Heap.ExtBut I s.heap h' → Q none { s with heap := h' }) : wpAny (model G.prog G.w) A (pyNext (.ref I)) Q E s := by
  obtain ⟨i, rfl, hr⟩ := items_inv hs
  obtain ⟨l', e', el⟩ := vr_ref hv
  cases e'
  cases hr with
  | list ho =>
    obtain ⟨items, e, p⟩ := R.at ho el
    exact wpAny_pyNext_list_end hh it e.isList (Array.getElem?_eq_none (Nat.le_of_eq (pd_size p).symm)) hQ
  | tup ho =>
    obtain ⟨items, n, e, p⟩ := R.at ho el
    exact wpAny_pyNext_tuple_end hh it (isTuple_of e) (Array.getElem?_eq_none (Nat.le_of_eq (pd_size p).symm)) hQ
  | @rng a b c ho hok => exact wpAny_pyNext_range_end hh it (by rw [Int.sub_self]; decide) hQ
theorem iter_self {n : Nat} {Q : Value → Shared → Prop} (it : ItAt s.heap I l k n sk) (hQ : Q (.ref I) s) : wpAny (model G.prog G.w) A (pyIter (.ref I)) Q E s := by
  cases sk with
  | list => exact wpAny_pyIter_listiter it hQ
  | tup => exact wpAny_pyIter_tupleiter it hQ
  | rng a b c => exact wpAny_pyIter_rangeiter it hQ
/-- amid a walk: what lies in the block, seen from the block that it began in -/
structure Wk (G : Gd) (q : Sta) (env : Env) (Lo : Addr) (ρ : List Addr) (s : Shared) (src : MV) (l I : Addr) (sk : SK) (n k : Nat) (ρ₂ : List Addr) (S₂ : MS) (s₂ : Shared) : Prop where
  R : Rel G ρ₂ S₂ q env s₂.heap
  X : Ext G ρ ρ₂ Lo s s₂
  O : Off G ρ₂ env.locals I
  v : VR ρ₂ src (.ref l)
  it : ItAt s₂.heap I l k n sk
  n0 : s.heap.get? I = none
  lo : env.locals = Lo ∨ s.heap.get? env.locals = none
theorem Wk.next (W : Wk G q env Lo ρ s src l I sk vs.length k ρ₂ S₂ s₂) {v : MV} {Q : Option Value → Shared → Prop} (hs : itemsOf S₂ src = some (sk, vs)) (hk : vs[k]? = some v)
    (hQ : ∀ rv h' t, VR ρ₂ v rv → StaysBut I s₂.heap h' → Wk G q env Lo ρ s src l I sk vs.length (k + 1) ρ₂ S₂ { s₂ with heap := h', toks := t } → Q (some rv) { s₂ with heap := h', toks := t }) : wpAny (model G.prog G.w) A (pyNext (.ref I)) Q E s₂ :=
  iter_item hs W.R W.v W.it hk fun rv h' t hv it' hsb =>
    have kk : StaysBut I s₂.heap h' := fun b o hb e => (hsb.2 b hb).trans e
    W.it.obj.elim fun _ z => hQ rv h' t hv kk ⟨W.R.off W.O kk (codeRec_off kk z.1 z.2), W.X.offStep W.n0 kk, W.O, W.v, it', W.n0, W.lo⟩
theorem Wk.over (W : Wk G q env Lo ρ s src l I sk vs.length vs.length ρ₂ S₂ s₂) {Q : Option Value → Shared → Prop} (hh : A.handled = none) (hs : itemsOf S₂ src = some (sk, vs))
    (hQ : ∀ h', StaysBut I s₂.heap h' → Rel G ρ₂ S₂ q env h' → Ext G ρ ρ₂ Lo s { s₂ with heap := h', toks := s₂.toks } → Q none { s₂ with heap := h' }) : wpAny (model G.prog G.w) A (pyNext (.ref I)) Q E s₂ :=
  iter_end hh hs W.R W.v W.it fun h' hb =>
    have kk : StaysBut I s₂.heap h' := fun b o hb' e => hb b o hb' e
    W.it.obj.elim fun _ z => hQ h' kk (W.R.off W.O kk (codeRec_off kk z.1 z.2)) (W.X.offStep W.n0 kk)
theorem Wk.go (W : Wk G q env Lo ρ s src l I sk vs.length k ρ₂ S₂ s₂) (R : Rel G ρ₃ S₃ q env s₃.heap) (X : Ext G ρ₂ ρ₃ env.locals s₂ s₃) : Wk G q env Lo ρ s src l I sk vs.length k ρ₃ S₃ s₃ :=
  W.it.obj.elim fun _ z => have O := W.O.ext X z.1
    ⟨R, W.X.inner X W.lo, O.1, X.vr W.v, W.it.at (O.2.trans z.1.symm), W.n0, W.lo⟩
theorem folded_not {e : Expr} (h : notSet e = true) (x : Value) : foldedSetIterable e env x = pure x := by
  cases e <;> first | rfl | exact (nomatch h)
theorem letOwned_name {t : Expr} (h : isName t = true) (it v : Value) : letOwnedTupleGo t it v = pure () := by
  cases t <;> first | rfl | exact (nomatch h)
theorem drop_cons {α : Type} {vs r : List α} {v : α} (h : vs.drop k = v :: r) : vs[k]? = some v ∧ vs.drop (k + 1) = r := by
  refine ⟨?_, ?_⟩
  · have := congrArg (·[0]?) h
    rw [List.getElem?_drop] at this
    exact this
  · rw [← List.drop_drop, h]; rfl
theorem dropE_nil {α : Type} {vs : List α} (h : vs.drop k = []) (hk : k ≤ vs.length) : k = vs.length := Nat.le_antisymm hk (List.drop_eq_nil_iff.mp h)
theorem drop_lt {α : Type} {vs r : List α} {v : α} (h : vs.drop k = v :: r) : k + 1 ≤ vs.length := (List.getElem?_eq_some_iff.mp (drop_cons h).1).1
end
section
variable {G : Gd} {n : Nat} {q : Sta} {S : MS} {p : Pos}
noncomputable abbrev KFb (I : List MV → MS → Prop) (r : List MV) (Q : QF) : QF := fun f S₃ => match f with | .next => I r S₃ | .ret u => Q (.ret u) S₃
noncomputable abbrev KFa (G : Gd) (n : Nat) (q : Sta) (b : List Stmt) (I : List MV → MS → Prop) (r : List MV) (Q : QF) : QU := fun _ S₂ => WB G n q b S₂ (KFb I r Q)
noncomputable abbrev KFor (G : Gd) (n : Nat) (q : Sta) (t : Expr) (b : List Stmt) (Q : QF) : QE := fun src S₁ => ∃ (sk : SK) (vs : List MV) (I : List MV → MS → Prop), itemsOf S₁ src = some (sk, vs) ∧ I vs S₁ ∧
      (∀ v r S', I (v :: r) S' → itemsOf S' src = some (sk, vs) ∧ WA G n q t v S' (KFa G n q b I r Q)) ∧
      (∀ S', I [] S' → itemsOf S' src = some (sk, vs) ∧ Q .next S')
theorem X_For {t it : Expr} {b : List Stmt} {Q : QF} (hi : notSet it = true) (ht : isName t = true) (h : WE G n q it S (KFor G n q t b Q)) : WX G (n + 1) q (.For t it b [] p) S Q := ⟨fun {env A E s ρ Qv} R hA g => by
  rw [arm_exec_For]
  refine wpAny_bind (wpAny_standAt (wpAny_bind (h.w R hA.down fun src S₁ s₁ ρ₁ ro h1 R₁ X₁ v₁ => ?_)))
  refine wpAny_bind (wpAny_of_eq (folded_not hi ro) (wpAny_bind (wpAny_standAt (wpAny_bind (wpAny_holding ?_)))))
  obtain ⟨sk, vs, I, hs, h0, hstep, hend⟩ := h1
  refine iter_start hs R₁ v₁ fun l o hro ho it₂ => ?_
  subst hro
  have hn := size_none s₁.heap
  have k₂ := push_stays s₁.heap o
  refine wpAny_runOwn (codeAny_forLoop_any (fun m s' => ∃ k r ρ' S₂, m = r.length + 1 ∧ k ≤ vs.length ∧ vs.drop k = r ∧ I r S₂ ∧ Wk G q env env.locals ρ s src l s₁.heap.objs.size sk vs.length k ρ' S₂ s') ?_ (vs.length + 1)
    ⟨0, vs, ρ₁, S₁, rfl, Nat.zero_le _, rfl, h0, R₁.keeps k₂, X₁.trans (Ext.grow (t := s₁.toks) k₂), R₁.offNew hn, v₁, it₂, X₁.gone hn, .inl rfl⟩)
  rintro m s₂ ⟨k, r, ρ₂, S₂, rfl, hkl, hr, hi₂, W⟩
  cases r with
  | cons v r =>
    obtain ⟨hs₂, ha⟩ := hstep v r S₂ hi₂
    refine W.next hs₂ (drop_cons hr).1 fun rv h₃ t₃ hv _ W₃ => wpAny_of_eq (letOwned_name ht _ _) ?_
    refine ha.w W₃.R hA.down hv fun _ S₄ s₄ ρ₄ _ h4 R₄ X₄ _ => ?_
    have W₄ := W₃.go R₄ X₄
    refine h4.w R₄ hA.down fun f S₅ s₅ ρ₅ fl h5 R₅ X₅ hfl => ?_
    have W₅ := W₄.go R₅ X₅
    cases hfl with
    | next => exact ⟨r.length + 1, Nat.lt_succ_self _, k + 1, r, ρ₅, S₅, rfl, drop_lt hr, (drop_cons hr).2, h5, W₅⟩
    | ret hv => exact g.at h5 s₅ ρ₅ _ R₅ W₅.X (.ret hv)
  | nil =>
    obtain ⟨hs₂, hq⟩ := hend S₂ hi₂
    cases dropE_nil hr hkl
    exact W.over hA.handled hs₂ fun h₃ _ R₃ X₃ => wpAny_execs_nil (g.at hq { s₂ with heap := h₃ } ρ₂ _ R₃ X₃ .next)⟩
end
end Mine
end
section
open PySem PySem.W PyProof.Rows PySem.Calls
namespace Mine
section
variable {prog : Program} {w : World} {A : Around} {E : Value → Shared → Prop} {R : Result → Shared → Prop} {s : Shared}
theorem compLoop_rule {elt target iter : Expr} {ifs : List Expr} {scope : Scope} {pos : Pos} {it acc : Value} {env : Env} (I : Nat → Shared → Prop)
    (turn : ∀ n s (E : Value → Shared → Prop), I n s → wpAny (model prog w) A (pyNext it) (fun r s₁ => match r with
      | none => R (.ok .next) s₁
      | some v => wpAny (model prog w) A (letOwnedTupleGo target it v) (fun _ s₁' => wpAny (model prog w) A (assign target env v) (fun _ s₂ =>
          wpAny (model prog w) A (forIn ifs true fun c r => if r = true then do let ok ← isTrue c env (eval c env); pure (ForInStep.yield ok) else pure (ForInStep.yield r)) (fun ok s₃ =>
            if ok = true then wpAny (model prog w) A (eval elt env) (fun x s₄ =>
              wpAny (model prog w) A (call (.builtin "list.append") [acc, x]) (fun _ s₅ => ∃ m, m < n ∧ I m s₅) E s₄) E s₃
            else ∃ m, m < n ∧ I m s₃) E s₂) E s₁') E s₁) E s)
    (n : Nat) (h : I n s) : codeAny (model prog w) A (.compLoop (.ListComp elt [⟨target, iter, ifs, 0⟩] scope pos) 0 it acc env) R s := by
  refine codeAny_loop rfl I (fun n s hI => ?_) n h
  show wpAny _ A ((compTurn (.ListComp elt [⟨target, iter, ifs, 0⟩] scope pos) 0 it acc env).onRaise (fun x => do noteFrame x env; theTreesLotGoes x)) _ _ s
  refine wpAny_noted ?_
  rw [compTurn_list]
  refine wpAny_bind (wpAny_standAt (wpAny_bind (wpAny_mono (turn n s _ hI) (fun r s₁ h₁ => ?_) fun _ _ h' => h')))
  cases r with
  | none => exact wpAny_pure h₁
  | some v =>
    refine wpAny_bind (wpAny_mono h₁ (fun _ s₁' h₁' => ?_) fun _ _ h' => h')
    refine wpAny_bind (wpAny_mono h₁' (fun _ s₂ h₂ => wpAny_bind (wpAny_mono h₂ (fun ok s₃ h₃ => ?_) fun _ _ h' => h')) fun _ _ h' => h')
    cases ok with
    | false => exact wpAny_pure ⟨rfl, h₃⟩
    | true =>
      exact wpAny_bind (wpAny_bind (wpAny_mono h₃ (fun x s₄ h₄ => wpAny_bind (wpAny_mono h₄ (fun _ s₅ h₅ => wpAny_pure (wpAny_pure ⟨rfl, h₅⟩)) fun _ _ h' => h')) fun _ _ h' => h'))
end
section
variable {G : Gd} {ρ : List Addr} {S S' : MS} {q : Sta} {env : Env}
theorem capsOf_get {m : Str → Option Nat} : ∀ {names : List (Str × NameKind)} {cap : List (Str × Nat)}, capsOf m names = some cap → ∀ {x : Str} {i : Nat}, cap.lookup x = some i → m x = some i
  | [], cap, h, x, i, hx => by cases h; simp at hx
  | (y, k) :: r, cap, h, x, i, hx => by
    unfold capsOf at h
    split at h
    · split at h
      · rename_i j l h1 h2
        cases h
        rw [List.lookup_cons] at hx
        split at hx
        · rename_i hb; cases hx; rw [beq_iff_eq.mp hb]; exact h1
        · exact capsOf_get h2 hx
      · cases h
    · exact capsOf_get h hx
theorem closure_go {m : Str → Option Nat} (hm : ∀ x (i : Nat), m x = some i → ∃ c, env.cells.lookup x = some c ∧ ρ[i]? = some c) : ∀ (names : List (Str × NameKind)) (cap : List (Str × Nat)) (acc : List (Str × Addr)), capsOf m names = some cap →
    (∀ x c, acc.lookup x = some c → env.cells.lookup x = some c) →
    ∃ cl, (forIn names acc fun x cs => if x.2 == NameKind.free then do let a ← cellOf env x.1; pure (ForInStep.yield ((x.1, a) :: cs)) else pure (ForInStep.yield cs) : Sem _) = pure cl ∧
      (∀ x c, cl.lookup x = some c → env.cells.lookup x = some c) ∧ (∀ x, (∃ i, cap.lookup x = some i) ∨ (∃ c, acc.lookup x = some c) → ∃ c, cl.lookup x = some c)
  | [], cap, acc, h, ha => by
    cases h
    exact ⟨acc, by simp, ha, fun x hx => hx.elim (fun ⟨i, e⟩ => by simp at e) id⟩
  | (y, k) :: r, cap, acc, h, ha => by
    unfold capsOf at h
    rw [List.forIn_cons]
    split at h
    · rename_i hk
      split at h
      · rename_i j l h1 h2
        cases h
        obtain ⟨c, hc, _⟩ := hm _ _ h1
        have ec : cellOf env y = pure c := by unfold cellOf; rw [hc]
        obtain ⟨cl, e1, e2, e3⟩ := closure_go hm r l ((y, c) :: acc) h2 (fun x c' hx => by
          rw [List.lookup_cons] at hx
          split at hx
          · rename_i hb; cases hx; rw [beq_iff_eq.mp hb]; exact hc
          · exact ha x c' hx)
        refine ⟨cl, ?_, e2, fun x hx => ?_⟩
        · rw [if_pos hk, ec]; simpa using e1
        · by_cases hxy : (x == y) = true
          · exact e3 x (.inr ⟨c, by rw [List.lookup_cons, hxy]⟩)
          · rcases hx with ⟨i, hx⟩ | ⟨c', hx⟩
            · exact e3 x (.inl ⟨i, by rw [List.lookup_cons] at hx; simpa [hxy] using hx⟩)
            · exact e3 x (.inr ⟨c', by rw [List.lookup_cons]; simpa [hxy] using hx⟩)
      · cases h
    · rename_i hk
      obtain ⟨cl, e1, e2, e3⟩ := closure_go hm r cap acc h ha
      exact ⟨cl, by rw [if_neg hk]; simpa using e1, e2, e3⟩
theorem closure_sim {sc : Scope} {cap : List (Str × Nat)} (hm : ∀ x (i : Nat), S.cel x = some i → ∃ c, env.cells.lookup x = some c ∧ ρ[i]? = some c) (h : capsOf S.cel sc.names = some cap) :
    ∃ cl, closureFor sc env = pure cl ∧ ∀ x (i : Nat), cap.lookup x = some i → ∃ c, cl.lookup x = some c ∧ ρ[i]? = some c := by
  obtain ⟨cl, e1, e2, e3⟩ := closure_go hm sc.names cap [] h (fun x c e => by simp at e)
  refine ⟨cl, ?_, fun x i hx => ?_⟩
  · unfold closureFor
    simp only [bind_pure]
    exact e1
  · obtain ⟨c, hc⟩ := e3 x (.inl ⟨i, hx⟩)
    obtain ⟨c', h1, h2⟩ := hm x i (capsOf_get h hx)
    rw [e2 x c hc] at h1
    cases h1
    exact ⟨c, hc, h2⟩
theorem relabel_kind {sc : Scope} {x : Str} {k : NameKind} (h : nameKind sc x = some k) : ∃ k', (relabel sc env).names.lookup x = some k' ∧ kindFits k k' := by
  unfold nameKind at h
  unfold relabel
  simp only
  generalize sc.names = l at h
  induction l with
  | nil => simp at h
  | cons p r ih =>
    obtain ⟨y, ky⟩ := p
    rw [List.map_cons]
    rw [List.lookup_cons] at h
    cases hb : x == y with
    | true =>
      rw [hb] at h
      cases h
      split
      · rename_i hc
        simp only [Bool.and_eq_true, beq_iff_eq] at hc
        exact ⟨.cell, by simp [List.lookup_cons, hb], .inr ⟨hc.1.1, rfl⟩⟩
      · exact ⟨k, by simp [List.lookup_cons, hb], .inl rfl⟩
    | false =>
      rw [hb] at h
      obtain ⟨k', e, f⟩ := ih h
      refine ⟨k', ?_, f⟩
      split <;> simpa [List.lookup_cons, hb] using e
theorem capM_some {sc : Scope} {cap : List (Str × Nat)} (h : capM sc S = some (cap, S')) : capsOf S.cel sc.names = some cap ∧ (∀ y ∈ sc.names, y.2 ≠ .cell) ∧ (∀ x ∈ sc.names, x.2 = .local → sc.names.lookup x.1 = some .local) ∧
    sc.kind = .function ∧ sc.isGenerator = false ∧ sc.isCoroutine = false := by
  unfold capM at h
  split at h
  · rename_i hc
    obtain ⟨h1, h2, h3, h4⟩ := hc
    have hall := fun x hx => Bool.and_eq_true_iff.mp (List.all_eq_true.mp h1 x hx)
    refine ⟨?_, fun y hy => bne_iff_ne.mp (hall y hy).1, fun x hx hl => ?_, h2, h3, h4⟩
    · cases hq : capsOf S.cel sc.names with
      | none => rw [hq] at h; cases h
      | some c => rw [hq] at h; cases h; rfl
    · exact ((Bool.or_eq_true _ _).mp (hall x hx).2).elim (fun hn => absurd hl (bne_iff_ne.mp hn)) fun he => eq_of_beq he
  · cases h
end
end Mine
end
section
open PySem PySem.W PyProof.Rows PySem.Calls
namespace Mine
noncomputable def emptyLoc : Str → Option MV := fun _ => none
noncomputable def emptyCel : Str → Option Nat := fun _ => none
/-- a row built by a comprehension -/
noncomputable abbrev KQ3 (I : List MV → List MV → MS → Prop) (r out : List MV) : QE := fun x S₃ => I r (out ++ [x]) S₃
noncomputable abbrev KQ2 (G : Gd) (n : Nat) (q : Sta) (elt : Expr) (I : List MV → List MV → MS → Prop) (r out : List MV) : QU := fun _ S₂ => WE G n q elt S₂ (KQ3 I r out)
noncomputable abbrev KQ5 (G : Gd) (n : Nat) (q : Sta) (elt : Expr) (I : List MV → List MV → MS → Prop) (r out : List MV) : QB := fun ok S₃ => if ok then WE G n q elt S₃ (KQ3 I r out) else I r out S₃
noncomputable abbrev KQ4 (G : Gd) (n : Nat) (q : Sta) (elt c : Expr) (I : List MV → List MV → MS → Prop) (r out : List MV) : QU := fun _ S₂ => WT G n q c S₂ (KQ5 G n q elt I r out)
noncomputable abbrev KQ1 (G : Gd) (n : Nat) (q q' : Sta) (t : Expr) (cap : List (Str × Nat)) (Q : QE) (k : (List MV → List MV → MS → Prop) → List MV → List MV → QU) : QE := fun src S₁ => ∃ (sk : SK) (vs : List MV) (I : List MV → List MV → MS → Prop), itemsOf S₁ src = some (sk, vs) ∧ (isName t = true ∨ (isTupleE t = true ∧ sk = .list)) ∧ vs.length ≤ stopLen ∧
      I vs [] { S₁ with loc := emptyLoc, cel := fun y => cap.lookup y } ∧
      (∀ v r out S', I (v :: r) out S' → itemsOf S' src = some (sk, vs) ∧ WA G n q' t v S' (k I r out)) ∧
      (∀ out S', I [] out S' → itemsOf S' src = some (sk, vs) ∧ Q (.ref S'.objs.length) { objs := S'.objs ++ [.list out], loc := S₁.loc, cel := S₁.cel })
/-- the tests behind a turn's target, and what is put into the row -/
structure Turn (G : Gd) (n : Nat) (q : Sta) (ifs : List Expr) (elt : Expr) (S : MS) (I : List MV → List MV → MS → Prop) (r out : List MV) : Prop where
  w : ∀ {env A E s ρ} {Qt : Bool → Shared → Prop}, Rel G ρ S q env s.heap → AOk n A → Go G ρ q env s VB (KQ5 G n q elt I r out) Qt →
    wpAny (model G.prog G.w) A (forIn ifs true fun c r => if r = true then do let ok ← isTrue c env (eval c env); pure (ForInStep.yield ok) else pure (ForInStep.yield r)) Qt E s
section
variable {G : Gd} {n : Nat} {q : Sta} {S : MS} {p : Pos} {Q : QE} {elt t iter c : Expr} {csc : Scope} {cap : List (Str × Nat)} {ifs : List Expr}
theorem letOwned_any {A : Around} {E : Value → Shared → Prop} {s : Shared} {sk : SK} {I l : Addr} {k m : Nat} {rv : Value} {Q : Unit → Shared → Prop} (ht : isName t = true ∨ (isTupleE t = true ∧ sk = .list)) (it : ItAt s.heap I l k m sk) (hv : isTupleE t = true → ∃ a, rv = .ref a) (hQ : Q () s) :
    wpAny (model G.prog G.w) A (letOwnedTupleGo t (.ref I) rv) Q E s := by
  rcases ht with ht | ⟨ht, rfl⟩
  · exact wpAny_of_eq (letOwned_name ht _ _) hQ
  · obtain ⟨a, rfl⟩ := hv ht
    cases t <;> first | exact wpAny_letOwnedTupleGo_listiter it hQ | cases ht
/-- amid a comprehension: the list in the making, and the block without -/
structure Cst (G : Gd) (L Da : Addr) (oL : Obj) (Lc : Addr) (k : Nat) (out : List MV) (items : Array Value) (ρ : List Addr) (h : Heap) : Prop where
  O : Off G ρ Lc Da
  l : h.PlainList Da items
  v : VRs ρ out items.toList
  k : out.length ≤ k
  L : Off G ρ Lc L ∧ h.get? L = some oL
theorem Cst.go {L Da Lc : Addr} {oL : Obj} {k : Nat} {out : List MV} {items : Array Value} {ρ ρ' : List Addr} {s s' : Shared} (C : Cst G L Da oL Lc k out items ρ s.heap) (X : Ext G ρ ρ' Lc s s') : Cst G L Da oL Lc k out items ρ' s'.heap :=
  C.l.elim fun m e => have O := C.O.ext X e
    ⟨O.1, ⟨m, O.2⟩, X.vrs C.v, C.k, C.L.1.ext X C.L.2⟩
theorem Cst.but {L Da Lc I : Addr} {oL : Obj} {k : Nat} {out : List MV} {items : Array Value} {ρ : List Addr} {h h' : Heap} (C : Cst G L Da oL Lc k out items ρ h) (kk : StaysBut I h h') (hD : Da ≠ I) (hL : L ≠ I) : Cst G L Da oL Lc k out items ρ h' :=
  ⟨C.O, C.l.elim fun m e => ⟨m, kk _ _ hD e⟩, C.v, C.k, C.L.1, kk _ _ hL C.L.2⟩
theorem comp_c (h1 : notSet iter = true) (hc : capM csc S = some (cap, S)) {K : (List MV → List MV → MS → Prop) → List MV → List MV → QU} (hK : ∀ {I r out S'}, K I r out () S' → Turn G n ⟨csc, q.fn⟩ ifs elt S' I r out) (h : WE G n q iter S (KQ1 G n q ⟨csc, q.fn⟩ t cap Q K))
    {use : Option (Value → Sem Unit)} {env : Env} {A : Around} {E : Value → Shared → Prop} {s : Shared} {ρ : List Addr} {Qv : Value → Shared → Prop} (R : Rel G ρ S q env s.heap) (hA : AOk (n + 1) A)
    (hQ : ∀ v S' s' ρ' rv C m, Q v S' → Rel G ρ' S' q env s'.heap → Ext G ρ ρ' env.locals s s' → VR ρ' v rv → Off G ρ' env.locals C → s'.heap.Ns C m → s.heap.get? C = none → compPost (model G.prog G.w) A E use Qv rv C (.ok .next) s') :
    wpAny (model G.prog G.w) A (comprehension (.ListComp elt [⟨t, iter, ifs, 0⟩] csc p) csc env (firstIterPos [⟨t, iter, ifs, 0⟩] p) (newList []) false (eval iter env) use) Qv E s := by
  obtain ⟨hcap, hcell, hnames, hkind, _, _⟩ := capM_some hc
  obtain ⟨cl, hclos, hcl⟩ := closure_sim R.cel hcap
  refine wpAny_comprehension_free rfl (fun x => folded_not h1 x) hclos hkind hnames (h.w R hA.down fun src S₁ s₁ ρ₁ ro g R₁ X₁ v₁ => ?_)
  obtain ⟨sk, vs, I, hs, ht, hlen, h0, hstep, hend⟩ := g
  refine iter_start hs R₁ v₁ fun l o hro ho it₂ => ?_
  subst hro
  have hI₁ := size_none s₁.heap
  have OI := R₁.offNew hI₁
  have k₂ := push_stays s₁.heap o
  generalize s₁.heap.objs.size = Ia at ho it₂ hI₁ OI
  generalize s₁.heap.push o = h₂ at ho it₂ k₂
  refine wpAny_newObj_type (wpAny_newFunctionEnv hcell (by intro y hy; cases hy) (fun h₄ hns₄ hsb₄ => ?_) hkind)
  dsimp only at hns₄ hsb₄ ⊢
  have R₂ := R₁.keeps k₂
  have hD₂ := size_none h₂
  have OD := R₂.offNew hD₂
  have hDo : (h₂.push { cls := .type "list", dict := none, data := .seq ([] : List Value).toArray }).get? h₂.objs.size = some { cls := .type "list", dict := none, data := .seq ([] : List Value).toArray } := Heap.get?_push_size _ rfl
  have k₃ : Stays h₂ (h₂.push { cls := .type "list", dict := none, data := .seq ([] : List Value).toArray }) := push_stays _ _
  generalize h₂.objs.size = Da at hD₂ OD hDo
  generalize h₂.push { cls := .type "list", dict := none, data := .seq ([] : List Value).toArray } = h₃ at hns₄ hsb₄ hDo k₃ ⊢
  have hC₃ := size_none h₃
  have R₃ := R₂.keeps k₃
  have OC := R₃.offNew hC₃
  have k₃₄ : Stays h₃ h₄ := fun b o e => (hsb₄.2 b (Nat.ne_of_lt (Heap.lt_size e))).trans (Heap.get?_push_of_some _ e)
  generalize h₃.objs.size = Ca at hns₄ hsb₄ hC₃ OC
  have R₄ := R₃.keeps k₃₄
  have k₁₄ : Stays s₁.heap h₄ := fun b o e => k₃₄ b o (k₃ b o (k₂ b o e))
  have hC₁ : s₁.heap.get? Ca = none := none_of_stays (fun o e => k₃ _ o (k₂ _ o e)) hC₃
  have hD₁ : s₁.heap.get? Da = none := none_of_stays (k₂ Da) hD₂
  have hDC : Da ≠ Ca := ne_of_get hDo hC₃
  have hID : Ia ≠ Da := ne_of_get ho hD₂
  obtain ⟨oL, hoL⟩ := R₁.Llt
  let cenv := compEnvC csc cl Ca env
  have RC : Rel G ρ₁ { S₁ with loc := emptyLoc, cel := fun y => cap.lookup y } ⟨csc, q.fn⟩ cenv h₄ :=
    ⟨R₄.T, ⟨hkind, R.b.globals, R.b.builtins, fun x k hx => relabel_kind hx, fun l hl => R.b.lam l hl⟩, OC.toOut, ⟨_, hns₄, fun x v hx => nomatch hx⟩, fun x i hx => (hcl x i hx).elim fun c z => ⟨c, z.1, X₁.get z.2⟩⟩
  have loop : ∀ s₄ : Shared, s₄.heap = h₄ → s₄.gens = s₁.gens → s₄.drawn = s₁.drawn → s₄.os = s₁.os → codeAny (model G.prog G.w) A (.compLoop (.ListComp elt [⟨t, iter, ifs, 0⟩] csc p) 0 (.ref Ia) (.ref Da) cenv) (compPost (model G.prog G.w) A E use Qv (.ref Da) Ca) s₄ := by
    intro s₄ hh hg hd hos
    refine compLoop_rule (fun m s' => ∃ k r ρ' S₃ out items, m = r.length + 1 ∧ k ≤ vs.length ∧ vs.drop k = r ∧ I r out S₃ ∧ Wk G ⟨csc, q.fn⟩ cenv env.locals ρ₁ s₁ src l Ia sk vs.length k ρ' S₃ s' ∧ Cst G env.locals Da oL Ca k out items ρ' s'.heap) ?_ (vs.length + 1)
      ⟨0, vs, ρ₁, _, [], #[], rfl, Nat.zero_le _, rfl, h0, ⟨hh ▸ RC, Ext.refl (fun b o e => by rw [hh]; exact k₁₄ b o e) hg hd hos, ⟨OI.toOut, ne_of_get (k₃ _ _ ho) hC₃⟩, v₁, hh ▸ it₂.at ((k₃₄ _ _ (k₃ _ _ ho)).trans ho.symm), hI₁, .inr hC₁⟩,
        ⟨⟨OD.toOut, hDC⟩, hh ▸ ⟨0, k₃₄ _ _ hDo⟩, .nil, Nat.le_refl _, ⟨R₁.o, Ne.symm OC.l⟩, hh ▸ k₁₄ _ _ hoL⟩⟩
    rintro m s₅ E₅ ⟨k, r, ρ₅, S₃, out, items, rfl, hkl, hr, hi, W, C⟩
    cases r with
    | cons v r =>
      obtain ⟨hs₅, ha⟩ := hstep v r out S₃ hi
      refine W.next hs₅ (drop_cons hr).1 fun rv h₆ t₆ hv₆ k₆ W₆ => ?_
      have C₆ := C.but k₆ (Ne.symm hID) (Ne.symm OI.l)
      refine letOwned_any ht W₆.it (fun htt => (ha.tup htt).elim fun j hj => ?_) ?_
      · subst hj
        obtain ⟨a, e, _⟩ := vr_ref hv₆
        exact ⟨a, e⟩
      refine ha.w W₆.R hA.down hv₆ fun _ S₇ s₇ ρ₇ _ h7 R₇ X₇ _ => ?_
      refine (hK h7).w R₇ hA.down fun b S₈ s₈ ρ₈ b' h8 R₈ X₈ hb => ?_
      cases (hb : b = b')
      have X78 := X₇.trans X₈
      have W₈ := W₆.go R₈ X78
      have C₈ := Cst.go (s := { s₅ with heap := h₆, toks := t₆ }) C₆ X78
      cases b with
      | false => exact ⟨r.length + 1, Nat.lt_succ_self _, k + 1, r, ρ₈, S₈, out, items, rfl, drop_lt hr, (drop_cons hr).2, h8, W₈, ⟨C₈.O, C₈.l, C₈.v, Nat.le_succ_of_le C₈.k, C₈.L⟩⟩
      | true =>
        refine WE.w h8 R₈ hA.down fun x S₉ s₉ ρ₉ rx h9 R₉ X₉ vx => ?_
        have W₉ := W₈.go R₉ X₉
        have C₉ := C₈.go X₉
        obtain ⟨nP, eD₉⟩ := C₉.l
        refine wpAny_list_append_plain C₉.l (fun h₁₀ hp₁₀ hs₁₀ => ?_) (Nat.le_trans (Nat.le_of_eq (pd_size C₉.v).symm) (Nat.le_trans (Nat.le_trans C₉.k hkl) (le_line hlen)))
        have k₁₀ : StaysBut Da s₉.heap h₁₀ := fun b o hb e => (hs₁₀.2 b hb).trans e
        exact ⟨r.length + 1, Nat.lt_succ_self _, k + 1, r, ρ₉, S₉, out ++ [x], items.push rx, rfl, drop_lt hr, (drop_cons hr).2, h9,
          ⟨W₉.R.off C₉.O k₁₀ (codeRec_off k₁₀ eD₉ fun vs hx => nomatch hx), W₉.X.offStep hD₁ k₁₀, W₉.O, W₉.v, W₉.it.at (hs₁₀.2 _ hID), W₉.n0, W₉.lo⟩,
          ⟨C₉.O, hp₁₀, by rw [Array.toList_push]; exact pd_app C₉.v (.cons vx .nil), by rw [List.length_append]; exact Nat.succ_le_succ C₉.k, C₉.L.1, k₁₀ _ _ (Ne.symm OD.l) C₉.L.2⟩⟩
    | nil =>
      obtain ⟨hs₅, hq⟩ := hend out S₃ hi
      cases dropE_nil hr hkl
      refine W.over hA.handled hs₅ fun h₆ k₆ R₆ X₆ => ?_
      have C₆ := C.but k₆ (Ne.symm hID) (Ne.symm OI.l)
      have RO := R₁.outer R₆ W.X.pre hoL C₆.L.2 C₆.L.1.r
      have RA := RO.adopt (o := .list out) C₆.O.toOut OD.l ⟨items, C₆.l, C₆.v.pre .app⟩
      obtain ⟨mC, eC, _⟩ := R₆.ns
      exact hQ _ _ { s₅ with heap := h₆, toks := s₅.toks } _ (.ref Da) Ca mC hq RA (X₁.trans (X₆.adopt hD₁)) (vr_new (s := { s₅ with heap := h₆ }) R₆)
        ⟨⟨fun hm => (List.mem_append.mp hm).elim R₆.o.r fun hm => hDC (List.mem_singleton.mp hm).symm, OC.h, OC.e⟩, OC.l⟩ eC (X₁.gone hC₁)
  exact codeAny_compStart_list (loop _ rfl rfl rfl rfl) (iter_self (G := G) (it₂.at ((k₃₄ _ _ (k₃ _ _ ho)).trans ho.symm)) (loop _ rfl rfl rfl rfl))
/-- a comprehension -/
theorem E_Comp (h1 : notSet iter = true) (hc : capM csc S = some (cap, S)) {K : (List MV → List MV → MS → Prop) → List MV → List MV → QU} (hK : ∀ {I r out S'}, K I r out () S' → Turn G n ⟨csc, q.fn⟩ ifs elt S' I r out) (h : WE G n q iter S (KQ1 G n q ⟨csc, q.fn⟩ t cap Q K)) :
    WE G (n + 1) q (.ListComp elt [⟨t, iter, ifs, 0⟩] csc p) S Q :=
  ⟨fun {env A E s ρ Qv} R hA k => by
    rw [arm_eval_ListComp]
    refine comp_c (use := none) h1 hc hK h R hA fun v S' s' ρ' rv C m hq R' X' hv O hC hn => ⟨m, hC, fun h' hs' => ?_⟩
    have kk : StaysBut C s'.heap h' := fun b o hb e => (hs'.2 b hb).trans e
    obtain ⟨o, es, ep, e, hd, _⟩ := hC
    exact k.at hq { s' with heap := h', toks := s'.toks } ρ' rv (R'.off O kk (codeRec_off kk e fun vs hx => by rw [hd] at hx; cases hx)) (X'.offStep hn kk) hv,
   fun he => by cases he; exact comp_c h1 hc hK h⟩
theorem E_Comp0 (h1 : notSet iter = true) (hc : capM csc S = some (cap, S)) (h : WE G n q iter S (KQ1 G n q ⟨csc, q.fn⟩ t cap Q (KQ2 G n ⟨csc, q.fn⟩ elt))) : WE G (n + 1) q (.ListComp elt [⟨t, iter, [], 0⟩] csc p) S Q :=
  E_Comp h1 hc (fun hk => ⟨fun {env A E s ρ Qt} R _ g => wpAny_tests_nil (g true _ s ρ true ((if_pos rfl).mpr hk) R Ext.id rfl)⟩) h
theorem E_Comp1 (h1 : notSet iter = true) (hc : capM csc S = some (cap, S)) (h : WE G n q iter S (KQ1 G n q ⟨csc, q.fn⟩ t cap Q (KQ4 G n ⟨csc, q.fn⟩ elt c))) : WE G (n + 1) q (.ListComp elt [⟨t, iter, [c], 0⟩] csc p) S Q :=
  E_Comp h1 hc (fun hk => ⟨fun R hA g => wpAny_tests_one (hk.w R hA g)⟩) h
end
end Mine
end
section
open PySem PySem.W PyProof.Rows PySem.Calls
namespace Mine
section
variable {P : PP} {n : Nat} {q : Sta} {S : MS} {p : Pos} {Q : QE} {ρ : List Addr} {env : Env} {s : Shared}
/-- what a method's name gives -/
noncomputable def Callee (G : Gd) (s : Shared) (rv : Value) (name : Str) (m : MN) : Prop := ∃ f, methFn G m = some f ∧ (∀ (pl : Sem Bool) (A : Around) (E : Value → Shared → Prop) (Q : Value × List Value → Shared → Prop), Q (f, [rv]) s → wpAny (model G.prog G.w) A (getMethod rv name pl) Q E s) ∧ ∀ h : Heap, Stays G.h₀ h → KeepOk G h f
theorem ifs {α : Type} {a b : Str} {x m : α} {r : Option α} {C : Prop} (h : (if a = b then some x else r) = some m) (k : a = b → x = m → C) (k2 : r = some m → C) : C := by
  by_cases hab : a = b
  · rw [if_pos hab] at h; exact k hab (Option.some.inj h)
  · rw [if_neg hab] at h; exact k2 h
theorem str_meth {x : List Nat} {rv : Value} {id : String} (hv : VR ρ (.str x) rv) {b name : Str} {m' m : MN} (hf : methFn (TK P) m' = some (.builtin id)) (slot : Slot "str" b id) (hty : typeOf (.builtin id) = pure (.type "method_descriptor")) (hn : name = b) (hm : m' = m) : Callee (TK P) s rv name m := by
  subst hn; subst hm
  obtain ⟨sx, t, rfl, _⟩ := vr_str hv
  exact ⟨_, hf, fun pl A E Q hQ => getMethod_builtin (typeIs_str _ _ _) F.plainAttrs_str slot hty (fun a e => nomatch e) hQ, fun _ _ => keep_builtin⟩
theorem list_meth {a : Addr} {items : Array Value} {id : String} (e : s.heap.PlainList a items) {b name : Str} {m' m : MN} (hf : methFn (TK P) m' = some (.builtin id)) (slot : Slot "list" b id) (hty : typeOf (.builtin id) = pure (.type "method_descriptor")) (hn : name = b) (hm : m' = m) : Callee (TK P) s (.ref a) name m := by
  subst hn; subst hm
  obtain ⟨n, e⟩ := e
  exact ⟨_, hf, fun pl A E Q hQ => getMethod_builtin ⟨_, e, rfl⟩ F.plainAttrs_list slot hty (fun b hb => by cases hb; exact ⟨_, e, rfl⟩) hQ, fun _ _ => keep_builtin⟩
theorem callee {v : MV} {k : MK} {name : Str} {m : MN} {rv : Value} (hk : KindAt S v k) (hm : methName k name = some m) (R : Rel (TK P) ρ S q env s.heap) (hv : VR ρ v rv) : Callee (TK P) s rv name m := by
  cases hk with
  | str x =>
    exact ifs hm (str_meth hv rfl F.slot_str_find F.type_str_find) fun hm => ifs hm (str_meth hv rfl F.slot_str_startswith F.type_str_startswith) fun hm => ifs hm (str_meth hv rfl F.slot_str_endswith F.type_str_endswith) fun hm =>
      ifs hm (str_meth hv rfl F.slot_str_lower F.type_str_lower) fun hm => ifs hm (str_meth hv rfl F.slot_str_upper F.type_str_upper) fun hm => ifs hm (str_meth hv rfl F.slot_str_join F.type_str_join) nofun
  | list e =>
    obtain ⟨a, rfl, ea⟩ := vr_ref hv
    obtain ⟨items, e, p⟩ := R.at e ea
    exact ifs hm (list_meth e rfl F.slot_list_append F.type_list_append) fun hm => ifs hm (list_meth e rfl F.slot_list_insert F.type_list_insert) nofun
  | acc e ed =>
    obtain ⟨a, rfl, ea⟩ := vr_ref hv
    obtain ⟨f, h3, h4, h5⟩ := P.AM.callee hm
    exact ⟨f, h3, h4 R e ⟨_, ed⟩ ea, h5⟩
theorem back_all {es : List Expr} : es.all notStar = true → (backTo p (starEach es env)).all (fun x => !x.1) = true ∧ (backTo p (starEach es env)).any (·.1) = false := by
  induction es with
  | nil => exact fun _ => ⟨rfl, rfl⟩
  | cons e r ih =>
    intro h
    have h := Bool.and_eq_true_iff.mp h
    rw [starEach_cons h.1]
    exact ih h.2
theorem kws_all {kws : List Keyword} : kws.all (·.arg.isSome) = true → (backToKw p (keywordEach kws env)).all (·.1.isSome) = true ∧ (backToKw p (keywordEach kws env)).any (·.1.isNone) = false := by
  induction kws with
  | nil => exact fun _ => ⟨rfl, rfl⟩
  | cons k r ih =>
    obtain ⟨x, e, kp⟩ := k
    cases x with
    | none => exact nofun
    | some x => exact fun h => ih h
theorem evalArgs_sim {A : Around} {E : Value → Shared → Prop} {f : Value} {es : List Expr} {Ql : List MV → MS → Prop} {Qv : Args → Shared → Prop} (hs : es.all notStar = true) (h : WL (TK P) n q es S Ql) (R : Rel (TK P) ρ S q env s.heap) (hA : AOk n A)
    (hQ : Go (TK P) ρ q env s VRs Ql fun rs s' => Qv ⟨rs, []⟩ s') : wpAny (model (TK P).prog (TK P).w) A (evalArgs f true (backTo p (starEach es env)) []) Qv E s := by
  cases es with
  | nil => exact PySem.evalArgs_none (hQ [] S s ρ [] (h.nil rfl) R Ext.id .nil)
  | cons e r =>
    have := h.w (p := p) (E := E) hs R hA fun v S' s' ρ' a x R' X hv => hQ v S' s' ρ' a x R' X hv.1
    rw [starEach_cons (Bool.and_eq_true_iff.mp hs).1] at this ⊢
    exact evalArgs_plain this
/-- a method called -/
theorem E_Meth {o : Expr} {name : Str} {ap cp : Pos} {args : List Expr} (c1 : ap.endLine = cp.line) (c2 : decide (args.length < 20) = true) (c3 : notCall o = true) (c4 : args.all notStar = true) (h : WE (TK P) n q o S (KM1 (TK P) n q name args Q)) :
    WE (TK P) (n + 1) q (.Call (.Attribute o name ap) args [] cp) S Q := .mk' rfl fun {env A E s ρ Qv} R hA k => by
  rw [arm_eval_Call, attributeBase_not c3]
  refine wpAny_bind (h.w R hA.down fun ov S₁ s₁ ρ₁ ro h1 R₁ X₁ vo => wpAny_bind (wpAny_standAt ?_))
  obtain ⟨kk, hk, m, hm, h2⟩ := h1.w.elim fun kk z => (⟨kk, z.1, z.2.w⟩ : ∃ kk, KindAt S₁ ov kk ∧ ∃ m, methName kk name = some m ∧ KM3 (TK P) n q args Q ov m S₁)
  obtain ⟨f, hf, hg, hkp⟩ := callee hk hm R₁ vo
  have few : methodCallForm (args.length + ([] : List Keyword).length) (backTo cp (starEach args env)) (backToKw cp (keywordEach [] env)) = true := by
    unfold methodCallForm
    rw [(back_all c4).1]
    exact decide_eq_true (Nat.lt_trans (of_decide_eq_true c2) (by decide))
  unfold methodCall
  rw [few]
  have hpos : methodCallPos true o env ap cp = pure cp := by
    unfold methodCallPos
    exact if_pos (beq_iff_eq.mpr c1)
  rw [hpos]
  refine wpAny_bind (wpAny_holding (hg _ _ _ _ ?_))
  refine wpAny_bind (wpAny_pure ?_)
  refine callWith_of (P := fun h => KeepOk (TK P) h f) (by rw [(back_all c4).2]; rfl) (fun h x => x) ?_
  exact evalArgs_sim c4 h2 R₁ hA.down fun vs S₂ s₂ ρ₂ rs h3 R₂ X₂ vrs => ⟨hkp _ R₂.keep, h3.w hA.low R₂ (X₂.vr vo) vrs hf (k.after (X₁.trans X₂))⟩
/-- a call of a name -/
theorem E_Call {x : Str} {args : List Expr} {kws : List Keyword} {cp : Pos} (c1 : args.all notStar = true) (hkw : kws.all (·.arg.isSome) = true) (h : WE (TK P) n q (.Name x p) S (KF1 (TK P) n q args kws Q)) : WE (TK P) (n + 1) q (.Call (.Name x p) args kws cp) S Q := .mk' rfl fun {env A E s ρ Qv} R hA k => by
  show wpAny _ _ (eval (.Name x p) env >>= fun f => callWith cp f [] (backTo cp (starEach args env)) (backToKw cp (keywordEach kws env))) _ _ _
  refine wpAny_bind (h.w R hA.down fun fv S₁ s₁ ρ₁ rf h1 R₁ X₁ vf => ?_)
  have last : ∀ {vs : List MV} {S₂ : MS} {s₂ : Shared} {ρ₂ : List Addr} {rs : List Value}, KF2 (TK P) n q kws Q fv vs S₂ → Rel (TK P) ρ₂ S₂ q env s₂.heap → Ext (TK P) ρ₁ ρ₂ env.locals s₁ s₂ → VRs ρ₂ vs rs →
      wpAny (model (TK P).prog (TK P).w) A (evalAll ((backToKw cp (keywordEach kws env)).map (·.2))) (fun ks s₃ => KeepOk (TK P) s₃.heap rf ∧ wpAny (model (TK P).prog (TK P).w) A (call rf rs (((backToKw cp (keywordEach kws env)).filterMap (·.1)).zip ks)) Qv E s₃) E s₂ :=
    fun h2 R₂ X₂ vrs => h2.w R₂ hA.down fun ks S₃ s₃ ρ₃ rk h3 R₃ X₃ vks => h3.w R₃ hA.down ((X₂.trans X₃).vr vf) (X₃.vrs vrs) vks (k.after ((X₁.trans X₂).trans X₃))
  refine callWith_of (P := fun h => KeepOk (TK P) h rf) (by rw [(back_all c1).2, (kws_all hkw).2]; rfl) (fun h x => x) ?_
  cases args with
  | nil => exact evalArgs_kw2_nil (kws_all hkw).1 (last (h1.nil rfl) R₁ Ext.id .nil)
  | cons e r => exact evalArgs_kw2 (kws_all hkw).1 (h1.w c1 R₁ hA.down fun vs S₂ s₂ ρ₂ rs h2 R₂ X₂ vrs => last h2 R₂ X₂ vrs.1) (starEach_cons (Bool.and_eq_true_iff.mp c1).1)
end
end Mine
end
section
open PySem PySem.W PyProof.Rows PySem.Calls
namespace Mine
section
variable {G : Gd} {n : Nat} {S : MS} {Q : QE}
theorem C_len {v : MV} (h : PL G v S Q) : WC G (n + 1) (.glob (.builtin "len")) [v] [] S Q := ⟨fun {q env A E s ρ Qv rf rp rk} R hA hf hp hk k => by
  cases vr_glob hf
  exact ⟨keep_builtin, pd_nil hk (pd_one hp fun b hb => h.w hA.low R hb k)⟩⟩
section
variable {a b c : Int}
theorem mk_rng {q : Sta} {env : Env} {s : Shared} {ρ : List Addr} {Qv : Value → Shared → Prop} {t : Nat} {x y z : Tok} (R : Rel G ρ S q env s.heap) (hQ : Post G ρ { S with objs := S.objs ++ [.rng a b c] } q env s VR (.ref S.objs.length) Qv) :
    Qv (.ref s.heap.objs.size) { s with heap := s.heap.push { cls := .type "range", data := .fields #[.int a x, .int b y, .int c z] }, toks := t } :=
  new_done (o := .rng a b c) R (push_stays _ _) (size_none _) ⟨_, _, _, Heap.get?_push_size _ rfl⟩ hQ
theorem C_range1 (_ : -1000 ≤ b ∧ b ≤ 1000) (h : Q (.ref S.objs.length) { S with objs := S.objs ++ [.rng 0 b 1] }) : WC G (n + 1) (.glob (.type "range")) [.int b] [] S Q := ⟨fun {q env A E s ρ Qv rf rp rk} R _ hf hp hk k => by
  cases vr_glob hf
  exact ⟨keep_type, pd_nil hk (pd_one hp fun v hv => vr_intE hv fun _ => call_range_1 (mk_rng R (k.at h)))⟩⟩
theorem C_range2 (_ : 0 ≤ a ∧ a ≤ 1000 ∧ 0 ≤ b ∧ b ≤ 1000) (h : Q (.ref S.objs.length) { S with objs := S.objs ++ [.rng a b 1] }) : WC G (n + 1) (.glob (.type "range")) [.int a, .int b] [] S Q := ⟨fun {q env A E s ρ Qv rf rp rk} R _ hf hp hk k => by
  cases vr_glob hf
  refine ⟨keep_type, pd_nil hk (pd_cons hp fun v t hv ht => vr_intE hv fun x => pd_one (C := fun t => wpAny _ _ (call _ (.int a x :: t) []) _ _ _) ht fun u hu => vr_intE hu fun _ => call_range_2 (mk_rng R (k.at h)))⟩⟩
theorem C_range3 (hb : 0 ≤ a ∧ a ≤ 1000) (h : Q (.ref S.objs.length) { S with objs := S.objs ++ [.rng a (-1) (-1)] }) : WC G (n + 1) (.glob (.type "range")) [.int a, .int (-1), .int (-1)] [] S Q := ⟨fun {q env A E s ρ Qv rf rp rk} R _ hf hp hk k => by
  cases vr_glob hf
  refine ⟨keep_type, pd_nil hk (pd_cons hp fun v t hv ht => vr_intE hv fun x => pd_cons (C := fun t => wpAny _ _ (call _ (.int a x :: t) []) _ _ _) ht fun u t hu ht => vr_intE hu fun y =>
    pd_one (C := fun t => wpAny _ _ (call _ (.int a x :: .int (-1) y :: t) []) _ _ _) ht fun w hw => vr_intE hw fun _ => call_range_3 (by decide) (mk_rng R (k.at h)) (.inl (PyProof.noPylong_small (by decide))))⟩⟩
theorem C_list {j : Nat} (e : S.objs[j]? = some (.rng a b 1)) (hb : 0 ≤ a ∧ a ≤ 1000 ∧ 0 ≤ b ∧ b ≤ 1000) (h : Q (.ref S.objs.length) { S with objs := S.objs ++ [.list (rngItems a b 1)] }) : WC G (n + 1) (.glob (.type "list")) [.ref j] [] S Q := ⟨fun {q env A E s ρ Qv rf rp rk} R hA hf hp hk k => by
  cases vr_glob hf
  refine ⟨keep_type, pd_nil hk (pd_one hp fun v hv => vr_refE hv fun x ex => ?_)⟩
  obtain ⟨t, u, w, e⟩ := R.at e ex
  refine call_list_range (n := (b - a).toNat) hA.handled e (small_one (by omega) (by omega) (by omega) (by omega)) (by rw [rangeSize_one]; split <;> omega) (by omega) (fun h' tk acc c hk hl hi => ?_)
  refine new_done (h' := h') (t := tk) (o := .list _) R hk (size_none _) ⟨acc, ⟨c, hl⟩, VRs.pre .app ?_⟩ (k.at h)
  rw [rngItems, if_pos rfl]
  have hz : acc.toList.length = (b - a).toNat := hi.1
  clear hl hk
  have key : ∀ (l : List Value) (m k : Nat), l.length = m → (∀ (i : Nat) v, l[i]? = some v → ∃ t, v = .int (a + ((k + i : Nat) : Int)) t) → VRs ρ ((List.range' k m).map fun (j : Nat) => MV.int (a + (j : Int))) l := by
    intro l
    induction l with
    | nil => intro m k hm _; subst hm; exact .nil
    | cons y l ih =>
      intro m k hm hv
      subst hm
      rw [List.length_cons, List.range'_succ, List.map_cons]
      obtain ⟨t, ht⟩ := hv 0 y rfl
      refine .cons (ht ▸ .int _ _) (ih _ (k + 1) rfl fun i v hi => ?_)
      obtain ⟨t, ht⟩ := hv (i + 1) v hi
      exact ⟨t, by rw [ht, Nat.add_assoc, Nat.add_comm 1 i]⟩
  rw [List.range_eq_range']
  refine key acc.toList _ 0 hz fun i v hv => ?_
  obtain ⟨t, ht⟩ := hi.2 i v ((Array.getElem?_toList ..).symm.trans hv)
  exact ⟨t, by rw [ht, Int.mul_one, Nat.zero_add]⟩⟩
end
variable {P : PP}
theorem C_str {j d : Nat} {vs : List MV} {l : List Pc} (e : S.objs[j]? = some (.acc d vs)) (ht : Pieces S.objs vs l) (hl : (catL l).length ≤ stopLen ∧ vs.length ≤ stopLen) (h : Q (.str (catL l)) S) : WC (TK P) (n + 1) (.glob (.type "str")) [.ref j] [] S Q := ⟨fun {q env A E s ρ Qv rf rp rk} R hA hf hp hk k => by
  cases vr_glob hf
  exact ⟨keep_type, pd_nil hk (pd_one hp fun v hv => vr_refE hv fun x ex => acc_str P.R0 hA R e ex ht hl.1 hl.2 (k.at h))⟩⟩
/-- a row of the own class made -/
theorem C_new {k : Int} (h : Q (.ref (S.objs.length + 1)) { S with objs := S.objs ++ [.dict [(sizeKey, .int k)]] ++ [.acc S.objs.length []] }) : WC (TK P) (n + 1) (.glob (.ref (TK P).T.cls)) [.int k] [] S Q := ⟨fun {q env A E s ρ Qv rf rp rk} R hA hf hp hk g => by
  cases vr_glob hf
  exact ⟨acc_keep P.R0 _ R.keep, pd_nil hk (pd_one hp fun v hv => vr_intE hv fun _ => acc_make P.R0 hA R (g.at h))⟩⟩
end
end Mine
end
section
open PySem PySem.W PyProof.Rows PySem.Calls
namespace Mine
section
variable {G : Gd} {n : Nat} {q : Sta} {S : MS} {Q : QE}
/-- a lambda, its table found or grown, pushed onto the heap -/
theorem lam_done (B : Base G) {env : Env} {s : Shared} {ρ : List Addr} {Qv : Value → Shared → Prop} {f : Addr} {l : Addr × Addr × Str × Pos} {x : Str} {ap : Pos} {body : Expr} {lsc : Scope} {cap : List (Str × Nat)} {clos : List (Str × Addr)} {c' : Addr} {ctv pm : Value} {h' : Heap} {tk : Nat}
    (R : Rel G ρ S q env s.heap) (hl : G.T.lam f = some l) (k : StaysBut l.2.1 s.heap h') (hcr : Codes s.heap h') (ht : TabOK G h' l) (hrec : h'.CodeRec (.ref c') l.2.2.1) (hsc : lsc.kind = .function ∧ lsc.isGenerator = false ∧ lsc.isCoroutine = false ∧ ∀ y ∈ lsc.names, y.2 ≠ .cell)
    (hcl : ∀ x (i : Nat), cap.lookup x = some i → ∃ c, clos.lookup x = some c ∧ ρ[i]? = some c) (hQ : Post G ρ { S with objs := S.objs ++ [.clo x body lsc cap] } q env s VR (.ref S.objs.length) Qv) :
    Qv (.ref h'.objs.size) { s with heap := h'.push (kla_obj "<lambda>" l.2.2.1 (oneArg x ap) body lsc clos pm c' ctv), toks := tk } := by
  have R₁ := R.tabSet B hl k hcr ht
  have hn := size_none h'
  have hx := ht.1
  obtain ⟨ps, eP, _⟩ := ht.2
  have hns : s.heap.get? h'.objs.size = none := none_of_stays (k _ · (ne_of_get eP hn).symm) hn
  refine hQ { s with heap := h'.push (kla_obj "<lambda>" l.2.2.1 (oneArg x ap) body lsc clos pm c' ctv), toks := tk } _ _
    (R₁.new (o := .clo x body lsc cap) (push_stays _ _) hn ⟨_, l.2.2.1, _, c', ctv, clos, ap, Heap.get?_push_size _ rfl, hrec.push _, hsc, fun x i hx => (hcl x i hx).elim fun c z => ⟨c, z.1, Pre.app _ _ z.2⟩⟩)
    ⟨Pre.app, fun a ha => (List.mem_append.mp ha).elim .inl fun ha => .inr (List.mem_singleton.mp ha ▸ hns), fun a o e _ _ h3 => Heap.get?_push_of_some _ (k _ _ (fun hb => h3 (hb ▸ hx)) e), fun a o e => ?_, fun h => h, rfl, rfl⟩ (vr_new (s := { s with heap := h' }) R₁)
  by_cases hb : a = l.2.1
  · exact ⟨_, Heap.get?_push_of_some _ (hb ▸ eP)⟩
  · exact ⟨_, Heap.get?_push_of_some _ (k _ _ hb e)⟩
variable {P : PP}
/-- a lambda made -/
theorem E_Lam {x : Str} {ap : Pos} {body : Expr} {lsc : Scope} {pos : Pos} {cap : List (Str × Nat)} {c t : Addr} {nm : Str} (hl : (TK P).T.lam q.fn = some (c, t, nm, pos)) (hc : capM lsc S = some (cap, S)) (h : Q (.ref S.objs.length) { S with objs := S.objs ++ [.clo x body lsc cap] }) :
    WE (TK P) (n + 1) q (.Lambda ⟨[], [⟨x, none, ap⟩], none, [], [], none, []⟩ body lsc pos) S Q := .mk' rfl fun {env A E s ρ Qv} R hA k => by
  obtain ⟨hcap, hcell, _, hkind, hgen, hco⟩ := capM_some hc
  obtain ⟨clos, hclos, hcl⟩ := closure_sim R.cel hcap
  obtain ⟨hcode, hqual⟩ := R.b.lam _ hl
  have B := P.B
  obtain ⟨hC, hPx⟩ := B.lam _ _ hl
  obtain ⟨_, ps, eP, hps⟩ := R.T.tab _ _ hl
  have hP0 := B.ex t hPx
  have hg := B.g.keeps R.keep
  have hC' := hC.keeps R.keep
  have hb : s.heap.BuiltinsAt (TK P).mg t := by
    obtain ⟨bm, ob, b1, b2, b3, b4, b5, b6, b7⟩ := B.bm
    exact ⟨bm, ob, b1, b2, b3, ne_of_get b4 hP0, R.keep _ _ b4, b5, b6, b7⟩
  have hgP : mainGlobals ≠ t := B.g.elim fun o z => z.elim fun _ z => z.elim fun _ z => ne_of_get z.1 hP0
  have hsc : lsc.kind = .function ∧ lsc.isGenerator = false ∧ lsc.isCoroutine = false ∧ ∀ y ∈ lsc.names, y.2 ≠ .cell := ⟨hkind, hgen, hco, hcell⟩
  refine kla_eval rfl ?_
  rw [show env.qual ++ "<lambda>" = nm from hqual]
  rcases hps with rfl | ⟨c', rfl, hrec⟩
  · refine kla_makeFunction hclos R.b.globals hg hcode hC' eP trivial rfl hgP hb fun c' ctv h' tk hx _ _ hrec htab => ?_
    have kk : StaysBut t s.heap h' := fun b o hb' e => hx b o hb' e
    exact lam_done B R hl kk (codeRec_off kk eP fun vs hv => by cases hv; exact nofun) ⟨hPx, _, htab, .inr ⟨c', rfl, hrec⟩⟩ hrec hsc hcl (k.at h)
  · have hf : codeAmong pos (#[rawInt pos.line, rawInt pos.col, Value.ref c'] : Array Value).toList = some (.ref c') := by
      have := codeAmong_snoc (pos := pos) (c := .ref c') [] trivial rfl
      simpa using this
    refine kla_makeFunctionHit hclos R.b.globals hg hcode hC' eP trivial hf hb fun ctv h' tk kk _ => ?_
    exact lam_done B R hl (fun b o _ e => kk b o e) (Stays.codes kk) ⟨hPx, _, kk _ _ eP, .inr ⟨c', rfl, hrec.keeps kk⟩⟩ (hrec.keeps kk) hsc hcl (k.at h)
/-- what a lambda's body needs of the stack -/
structure COk (n : Nat) (A : Around) : Prop where
  handled : A.handled = none
  depth : A.depth + n + 11 < recursionLimit
  units : A.units + 8 * n + 43 < cLine
noncomputable def Bind1 (x : Str) (body : Expr) (sc : Scope) : Prop := ∀ (name qual : Str) (ap : Pos) (clos : List (Str × Addr)) (pm ctv : Value) (c' : Addr) (rv : Value), bindArgs (kla_fn name qual (oneArg x ap) body sc clos pm (.ref c') ctv) ⟨[rv], []⟩ = pure [(x, rv)]
/-- a lambda called -/
structure WClo (G : Gd) (n : Nat) (j : Nat) (v : MV) (S : MS) (Q : QE) : Prop where
  w : ∀ {q env A E s ρ Qv a rv}, Rel G ρ S q env s.heap → COk n A → ρ[j]? = some a → VR ρ v rv → (∀ v S' s' ρ' r, Q v S' → Rel G ρ' S' q env s'.heap → (∀ L, Ext G ρ ρ' L s s') → VR ρ' v r → Qv r s') → KeepOk G s.heap (.ref a) ∧ wpAny (model G.prog G.w) A (call (.ref a) [rv] []) Qv E s
theorem W_clo {j : Nat} {x : Str} {body : Expr} {sc : Scope} {cap : List (Str × Nat)} {v : MV} (e : S.objs[j]? = some (.clo x body sc cap)) (hk : nameKind sc x = some .local) (hb : Bind1 x body sc)
    (h : WE (TK P) n ⟨sc, 0⟩ body { objs := S.objs, loc := fun y => if y = x then some v else none, cel := fun y => cap.lookup y } fun u S' => Q u { S' with loc := S.loc, cel := S.cel }) : WClo (TK P) n j v S Q := ⟨fun {q env A E s ρ Qv a rv} R hA ea hv k => by
  have B := P.B
  obtain ⟨name, qual, pm, c', ctv, clos, ap, eo, hrec, ⟨hkind, hgen, hco, hcell⟩, hcl⟩ := R.at e ea
  refine ⟨⟨.frame, .inl rfl, (Looks.ld (part := none) eo).andThen .now⟩, ?_⟩
  refine wpAny_call (kla_callFunE (Nat.lt_of_le_of_lt (Nat.le_trans (Nat.le_add_right _ _) (Nat.le_add_right _ _)) hA.depth) eo rfl hco hgen rfl hrec ?_)
  rw [hb]
  have hn := size_none s.heap
  have O := R.offNew hn
  obtain ⟨oL, hoL⟩ := R.Llt
  refine wpAny_pure (wpAny_newFunctionEnv hcell (by intro y hy; cases List.mem_singleton.mp hy; exact hk) (fun h₁ hns hsb => ?_) hkind)
  have k₁ : Stays s.heap h₁ := fun b o e => (hsb.2 b (Nat.ne_of_lt (Heap.lt_size e))).trans (Heap.get?_push_of_some _ e)
  generalize s.heap.objs.size = La at hn O hns hsb ⊢
  have R₁ := R.keeps k₁
  refine ⟨(B.nl.keeps R.keep).keeps k₁, kla_codeExpr ?_⟩
  let env' : Env := newEnv sc La mainGlobals clos (qual ++ ".<locals>.") (some a) (.ref c') none builtinsNs
  have RC : Rel (TK P) ρ { objs := S.objs, loc := fun y => if y = x then some v else none, cel := fun y => cap.lookup y } ⟨sc, 0⟩ env' h₁ :=
    ⟨R₁.T, ⟨hkind, rfl, rfl, fun x k hx => ⟨k, hx, .inl rfl⟩, fun l hl => nomatch B.lam0.symm.trans hl⟩, O.toOut, ⟨_, hns, fun y w hy _ => by
      by_cases hyx : y = x
      · cases (if_pos hyx).symm.trans hy
        subst hyx
        exact ⟨rv, by simp [List.lookup_cons], hv⟩
      · cases (if_neg hyx).symm.trans hy⟩, hcl⟩
  have hA' : AOk n (A.deeper env') := ⟨hA.handled, by have := hA.depth; show A.depth + 1 + n + 10 < recursionLimit; exact llt [_, _, _] [.lt (.a (.a (.v 0) (.v 1)) (.n 11)) (.v 2)] [1] (.a (.a (.a (.v 0) (.n 1)) (.v 1)) (.n 10)) (.v 2) (by exact yes) this, by have := hA.units; show A.units + 3 + 8 * n + 40 < cLine; exact llt [_, _, _] [.lt (.a (.a (.v 0) (.m 8 (.v 1))) (.n 43)) (.v 2)] [1] (.a (.a (.a (.v 0) (.n 3)) (.m 8 (.v 1))) (.n 40)) (.v 2) (by exact yes) this⟩
  have X₁ : ∀ L, Ext (TK P) ρ ρ L s { s with heap := h₁, toks := s.toks + [(x, rv)].length } := fun L => Ext.grow k₁
  refine h.w (s := { s with heap := h₁, toks := s.toks + [(x, rv)].length }) RC hA' fun u S₂ s₂ ρ₂ r hq R₂ X₂ hr => ?_
  obtain ⟨OL, eL⟩ := Off.ext (I := env.locals) (s := { s with heap := h₁, toks := s.toks + [(x, rv)].length }) ⟨R.o, Ne.symm O.l⟩ X₂ (k₁ _ _ hoL)
  exact k u _ s₂ ρ₂ r hq (R.outer R₂ X₂.pre hoL eL OL.r) (fun L => (X₁ L).inner X₂ (.inr hn)) hr⟩
theorem C_clo' {j : Nat} {v : MV} (h : WClo G n j v S Q) : WC G (n + 1) (.ref j) [v] [] S Q := ⟨fun {q env A E s ρ Qv rf rp rk} R hA hf hp hk k => by
  obtain ⟨a, rfl, ea⟩ := vr_ref hf
  exact pd_nil hk (pd_one hp fun b hb => h.w R ⟨hA.handled, by have := hA.depth; exact llt [_, _, _] [.lt (.a (.a (.v 0) (.a (.v 1) (.n 1))) (.n 10)) (.v 2)] [1] (.a (.a (.v 0) (.v 1)) (.n 11)) (.v 2) (by exact yes) this, by have := hA.units; exact llt [_, _, _] [.lt (.a (.a (.v 0) (.m 8 (.a (.v 1) (.n 1)))) (.n 40)) (.v 2)] [1] (.a (.a (.v 0) (.m 8 (.v 1))) (.n 43)) (.v 2) (by exact yes) this⟩ ea hb fun v S' s' ρ' r hq R' X' hv => k v S' s' ρ' r hq R' (X' _) hv)⟩
theorem C_clo {j : Nat} {x : Str} {body : Expr} {sc : Scope} {cap : List (Str × Nat)} {v : MV} (e : S.objs[j]? = some (.clo x body sc cap)) (hk : nameKind sc x = some .local) (hb : Bind1 x body sc)
    (h : WE (TK P) n ⟨sc, 0⟩ body { objs := S.objs, loc := fun y => if y = x then some v else none, cel := fun y => cap.lookup y } fun u S' => Q u { S' with loc := S.loc, cel := S.cel }) : WC (TK P) (n + 1) (.ref j) [v] [] S Q := C_clo' (W_clo e hk hb h)
end
end Mine
end
section
open PySem PySem.W PyProof.Rows PySem.Calls
namespace Mine
theorem bd_some {α β : Type} {m : Mm α} {f : α → Mm β} {S S' : MS} {b : β} (h : bd m f S = some (b, S')) : ∃ a S₁, m S = some (a, S₁) ∧ f a S₁ = some (b, S') := by
  unfold bd at h
  cases hm : m S with
  | none => rw [hm] at h; cases h
  | some r => rw [hm] at h; exact ⟨r.1, r.2, rfl, h⟩
theorem ret_some {α : Type} {a b : α} {S S' : MS} (h : mret a S = some (b, S')) : a = b ∧ S = S' := by
  cases h; exact ⟨rfl, rfl⟩
theorem cellsFrom_eq : ∀ (names : List (Str × NameKind)) (b : Nat) (acc : List (Str × Addr)), cellsFrom b names acc = ((names.filterMap fun x => if x.2 == .cell then some x.1 else none).zipIdx b).reverse ++ acc
  | [], _, _ => rfl
  | (x, k) :: r, b, acc => by
    unfold cellsFrom
    split
    · rename_i hk
      rw [cellsFrom_eq r, List.filterMap_cons, if_pos hk]
      simp [List.zipIdx_cons]
    · rename_i hk
      rw [cellsFrom_eq r, List.filterMap_cons, if_neg hk]
/-- the same place in two numberings -/
theorem zip_at {x : Str} : ∀ {l : List Str} {b c : Nat} {i : Nat}, (l.zipIdx b).reverse.lookup x = some i → b ≤ i ∧ i < b + l.length ∧ (l.zipIdx c).reverse.lookup x = some (c + (i - b)) ∧ l[i - b]? = some x := by
  intro l
  induction l with
  | nil => intro b c i h; simp at h
  | cons y r ih =>
    intro b c i h
    rw [List.zipIdx_cons, List.reverse_cons, List.lookup_append] at h ⊢
    rcases Option.or_eq_some_iff.mp h with h0 | ⟨h0, h'⟩
    · obtain ⟨h1, h2, h3, h4⟩ := ih (c := c + 1) h0
      refine ⟨by exact lle [_, _] [.le (.a (.v 0) (.n 1)) (.v 1)] [1] (.v 0) (.v 1) (by exact yes) h1, by simp; exact llt [_, _, _] [.lt (.v 0) (.a (.a (.v 1) (.n 1)) (.v 2))] [1] (.v 0) (.a (.v 1) (.a (.v 2) (.n 1))) (by exact yes) h2, ?_, ?_⟩
      · rw [h3]; simp only [Option.some_or]; congr 1; exact leq [_, _, _, _, _] [.eq (.a (.v 1) (.a (.v 3) (.n 1))) (.v 4), .eq (.a (.v 2) (.v 3)) (.v 4)] [1, -1] [-1, 1] (.a (.a (.v 0) (.n 1)) (.v 1)) (.a (.v 0) (.v 2)) (by exact yes) (by exact yes) (Nat.sub_add_cancel (h1)) (Nat.sub_add_cancel (lle [_, _] [.le (.a (.v 0) (.n 1)) (.v 1)] [1] (.v 0) (.v 1) (by exact yes) h1))
      · rw [show i - b = (i - (b + 1)) + 1 by exact leq [_, _, _, _] [.eq (.a (.v 0) (.v 2)) (.v 3), .eq (.a (.v 1) (.a (.v 2) (.n 1))) (.v 3)] [1, -1] [-1, 1] (.v 0) (.a (.v 1) (.n 1)) (by exact yes) (by exact yes) (Nat.sub_add_cancel (lle [_, _] [.le (.a (.v 0) (.n 1)) (.v 1)] [1] (.v 0) (.v 1) (by exact yes) h1)) (Nat.sub_add_cancel (h1)), List.getElem?_cons_succ]; exact h4
    · rw [List.lookup_cons] at h'
      split at h'
      · rename_i hx
        cases h'
        have hn : (r.zipIdx (c + 1)).reverse.lookup x = none := by
          cases hq : (r.zipIdx (c + 1)).reverse.lookup x with
          | none => rfl
          | some j =>
            obtain ⟨_, _, h3, _⟩ := ih (c := b + 1) hq
            rw [h3] at h0; cases h0
        refine ⟨Nat.le_refl _, by simp, ?_, by simp [beq_iff_eq.mp hx]⟩
        rw [hn, Option.none_or, List.lookup_cons, hx]; simp
      · cases h'
theorem zip_inj {x y : Str} {l : List Str} {b i : Nat} (hx : (l.zipIdx b).reverse.lookup x = some i) (hy : (l.zipIdx b).reverse.lookup y = some i) : x = y := by
  have h1 := (zip_at (c := b) hx).2.2.2
  have h2 := (zip_at (c := b) hy).2.2.2
  rw [h1] at h2; exact Option.some.inj h2
section
variable {ρ : List Addr}
/-- the binding of the parameters, in both -/
theorem bindAll_sim {sc : Scope} {kindOf : Str → Option NameKind} (hk : ∀ x k, nameKind sc x = some k → kindOf x = some k) {n₀ : Nat} {l : List Str} : ∀ (bs : List (Str × MV)) (binds : List (Str × Value)) {S₁ S₂ : MS} {u : Unit} {m cm : Str → Option Value},
    bindAll sc bs S₁ = some (u, S₂) → KW ρ bs binds → (∀ y, S₁.cel y = (l.zipIdx n₀).reverse.lookup y) → S₁.objs.length = n₀ + l.length →
    (∀ x v, S₁.loc x = some v → ∃ rv, m x = some rv ∧ VR ρ v rv) →
    (∀ x (i : Nat), S₁.cel x = some i → ∃ v, S₁.objs[i]? = some (.cell v) ∧ ∀ y, v = some y → ∃ rv, cm x = some rv ∧ VR ρ y rv) →
    (∀ x ∈ binds, sc.names.lookup x.1 = some .local ∨ (sc.names.lookup x.1 = some .cell ∧ ((l.zipIdx n₀).reverse.lookup x.1).isSome = true)) ∧
    S₂.cel = S₁.cel ∧ S₂.objs.length = S₁.objs.length ∧ (∀ i, i < n₀ → S₂.objs[i]? = S₁.objs[i]?) ∧
    (∀ x v, S₂.loc x = some v → ∃ rv, bindL kindOf binds m x = some rv ∧ VR ρ v rv) ∧
    (∀ x (i : Nat), S₂.cel x = some i → ∃ v, S₂.objs[i]? = some (.cell v) ∧ ∀ y, v = some y → ∃ rv, bindC kindOf binds cm x = some rv ∧ VR ρ y rv)
  | [], _, S₁, S₂, u, m, cm, h, hb, hcel, hlen, hl, hc => by
    obtain ⟨_, rfl⟩ := ret_some h
    cases hb
    exact ⟨fun x hx => (nomatch hx), rfl, rfl, fun _ _ => rfl, hl, hc⟩
  | (x, v) :: r, _, S₁, S₂, u, m, cm, h, hb, hcel, hlen, hl, hc => by
    cases hb with
    | @cons a b l₁ l₂ h1 ht =>
    obtain ⟨y, rv⟩ := b
    obtain ⟨hxy, hv⟩ := h1
    simp only at hxy hv
    subst hxy
    unfold bindAll at h
    obtain ⟨_, S₃, h2, h3⟩ := bd_some h
    generalize hkx : nameKind sc x = kx at h2
    match kx, hkx, h2 with
    | some .local, hkx, h2 =>
      cases h2
      have key := bindAll_sim hk (m := fun y => if y = x then some rv else m y) (cm := cm) r l₂ h3 ht hcel hlen (fun z w hz => by
        simp only [upd] at hz
        split at hz
        · rename_i hzx; cases hz; exact ⟨rv, by simp [hzx], hv⟩
        · rename_i hzx; obtain ⟨rw', e1, e2⟩ := hl z w hz; exact ⟨rw', by simp [hzx, e1], e2⟩) hc
      obtain ⟨k1, k2, k3, k4, k5, k6⟩ := key
      refine ⟨fun z hz => ?_, k2, k3, k4, ?_, ?_⟩
      · rcases List.mem_cons.mp hz with rfl | hz
        · exact .inl hkx
        · exact k1 z hz
      · unfold bindL; rw [if_pos (hk _ _ hkx)]; exact k5
      · unfold bindC; rw [if_pos (hk _ _ hkx)]; exact k6
    | some .cell, hkx, h2 =>
      have hnl : ¬ kindOf x = some .local := by rw [hk _ _ hkx]; decide
      unfold storeC at h2
      simp only at h2
      split at h2
      · rename_i i hi
        split at h2
        · rename_i w hw
          cases h2
          have hil : i < S₁.objs.length := (List.getElem?_eq_some_iff.mp hw).1
          have key := bindAll_sim (S₁ := { S₁ with objs := S₁.objs.set i (.cell (some v)) }) hk (m := m) (cm := fun y => if y = x then some rv else cm y) r l₂ h3 ht hcel (by simp [hlen]) hl (fun z j hz => by
            by_cases hzx : z = x
            · subst hzx
              have : j = i := by rw [hi] at hz; exact (Option.some.inj hz).symm
              subst this
              exact ⟨some v, by simp [List.getElem?_set_self hil], fun y hy => ⟨rv, by simp, by cases hy; exact hv⟩⟩
            · obtain ⟨w', e1, e2⟩ := hc z j hz
              have hij : i ≠ j := fun e => by
                subst e
                rw [hcel] at hz hi
                exact hzx (zip_inj hz hi)
              exact ⟨w', by simp [List.getElem?_set_ne hij, e1], fun y hy => by simp only [hzx, if_false]; exact e2 y hy⟩)
          obtain ⟨k1, k2, k3, k4, k5, k6⟩ := key
          refine ⟨fun z hz => ?_, k2, by rw [k3]; simp, fun j hj => ?_, ?_, ?_⟩
          · rcases List.mem_cons.mp hz with rfl | hz
            · exact .inr ⟨hkx, by rw [← hcel, hi]; rfl⟩
            · exact k1 z hz
          · have hij : i ≠ j := by
              rw [hcel] at hi
              have := (zip_at (c := 0) hi).1
              exact fun hz => lif [_, _, _] [.eq (.v 0) (.v 1), .lt (.v 1) (.v 2), .le (.v 2) (.v 0)] [1, 1, 1] (by exact yes) hz hj this
            rw [k4 j hj]; simp [List.getElem?_set_ne hij]
          · unfold bindL; rw [if_neg hnl]; exact k5
          · unfold bindC; rw [if_neg hnl]; exact k6
        · cases h2
      · cases h2
theorem zip_name {l : List Str} (hd : l.Nodup) {b i : Nat} (h1 : b ≤ i) (h2 : i < b + l.length) : ∃ x, (l.zipIdx b).reverse.lookup x = some i := by
  have hi : i - b < l.length := by exact llt [_, _, _, _] [.lt (.v 2) (.a (.v 3) (.v 1)), .eq (.a (.v 0) (.v 3)) (.v 2)] [1, 1] (.v 0) (.v 1) (by exact yes) h2 (Nat.sub_add_cancel (h1))
  refine ⟨l[i - b], ?_⟩
  cases hq : (l.zipIdx b).reverse.lookup l[i - b] with
  | none =>
    rw [List.lookup_eq_none_iff] at hq
    have := hq (l[i - b], i) (by
      rw [List.mem_reverse, List.mk_mem_zipIdx_iff_le_and_getElem?_sub]
      exact ⟨h1, List.getElem?_eq_getElem hi⟩)
    simp at this
  | some j =>
    obtain ⟨g1, g2, _, g4⟩ := zip_at (c := 0) hq
    obtain ⟨g5, g6⟩ := List.getElem?_eq_some_iff.mp g4
    have hp := List.pairwise_iff_getElem.mp hd
    congr 1
    rcases Nat.lt_trichotomy (j - b) (i - b) with h | h | h
    · exact absurd g6 (hp _ _ g5 hi h)
    · exact leq [_, _, _, _, _] [.eq (.v 2) (.v 3), .eq (.a (.v 2) (.v 4)) (.v 0), .eq (.a (.v 3) (.v 4)) (.v 1)] [1, -1, 1] [-1, 1, -1] (.v 0) (.v 1) (by exact yes) (by exact yes) h (Nat.sub_add_cancel (g1)) (Nat.sub_add_cancel (h1))
    · exact absurd g6.symm (hp _ _ hi g5 h)
end
end Mine
end
section
open PySem PySem.W PyProof.Rows PySem.Calls
namespace Mine
noncomputable def celOf (l : List Str) (n : Nat) : Str → Option Nat := fun y => match (l.zipIdx n).reverse.lookup y with | some i => some i | none => none
theorem celOf_eq (l : List Str) (n : Nat) (y : Str) : celOf l n y = (l.zipIdx n).reverse.lookup y := by
  unfold celOf
  cases (l.zipIdx n).reverse.lookup y <;> rfl
theorem Ext.any {G : Gd} {ρ ρ' : List Addr} {s s' : Shared} {Lo : Addr} (X : Ext G ρ ρ' Lo s s') (hL : s.heap.get? Lo = none) (L' : Addr) : Ext G ρ ρ' L' s s' :=
  ⟨X.pre, X.fresh, fun a o e h1 _ h3 => X.kp a o e h1 (ne_of_get e hL) h3, X.alive, X.bare, X.drawn, X.os⟩
theorem none_ge {h : Heap} {b : Addr} (hb : h.objs.size ≤ b) : h.get? b = none := by
  cases hq : h.get? b with
  | none => rfl
  | some o => exact absurd (Heap.lt_size hq) (Nat.not_lt.mpr hb)
section
variable {P : PP} {n : Nat} {q : Sta} {S : MS} {Q : QE}
/-- a call of a def, from a heap that has no block yet -/
theorem fn_top {a : Addr} {pos : List MV} {kw bs : List (Str × MV)} {S₁ : MS} {QF' : QF} {ρ : List Addr} {objs : List MO} {A : Around} {E : Value → Shared → Prop} {s : Shared} {rp : List Value} {rk : List (Str × Value)} {Qv : Value → Shared → Prop}
    (F : FnK P a) (hnd : (cellNames (scK P a)).Nodup) (hb : Bnd P a pos kw bs) (hS : bindAll (scK P a) bs { objs := objs ++ (cellNames (scK P a)).map fun _ => .cell none, loc := emptyLoc, cel := celOf (cellNames (scK P a)) objs.length } = some ((), S₁))
    (h : WB (TK P) n ⟨scK P a, a⟩ (bodyK P a) S₁ QF') (R : RelT (TK P) ρ objs s.heap) (hA : AOk (n + 1) A) (hp : VRs ρ pos rp) (hk : KW ρ kw rk)
    (hQ : ∀ f S' s' ρ' rv env', QF' f S' → Rel (TK P) ρ' S' ⟨scK P a, a⟩ env' s'.heap → Ext (TK P) ρ ρ' s.heap.objs.size s s' → VR ρ' (retOf f) rv → Qv rv s') :
    wpAny (model (TK P).prog (TK P).w) A (call (.ref a) rp rk) Qv E s := by
  obtain ⟨o, eo, ed⟩ := F.get
  obtain ⟨hkind, hgen, hco⟩ := F.kind
  obtain ⟨binds, hbs, hbt⟩ := hb hp hk
  refine wpAny_call (codeAny_call_function (Nat.lt_of_le_of_lt (Nat.le_trans (Nat.le_add_right _ _) (Nat.le_add_right _ _)) hA.depth) (R.keep _ _ eo) ed hco hgen F.body (F.code.keeps R.keep) (hbt s R.keep _ _ _ _ ?_))
  have hcells : ∀ b, cellsFrom b (scK P a).names [] = ((cellNames (scK P a)).zipIdx b).reverse := fun b => by rw [cellsFrom_eq, List.append_nil]; rfl
  obtain ⟨k1, k2, k3, k4, k5, k6⟩ := bindAll_sim (ρ := ρ) (sc := scK P a) (kindOf := fun x => (scK P a).names.lookup x) (fun x k hx => hx) (n₀ := objs.length) (l := cellNames (scK P a)) (m := fun _ => none) (cm := fun _ => none) bs binds hS hbs (celOf_eq _ _) (by rw [List.length_append, List.length_map])
    (fun _ _ hx => (Option.some_ne_none _ hx.symm).elim) (fun x i hx => by
      have hx := (celOf_eq _ _ x).symm.trans hx
      obtain ⟨g1, g2, _, _⟩ := zip_at (c := 0) hx
      refine ⟨none, ?_, nofun⟩
      show (objs ++ (cellNames (scK P a)).map fun _ => MO.cell none)[i]? = _
      rw [List.getElem?_append_right g1, List.getElem?_map, List.getElem?_eq_getElem (Nat.sub_lt_left_of_lt_add g1 g2)]; rfl)
  have hcel : ∀ y, S₁.cel y = ((cellNames (scK P a)).zipIdx objs.length).reverse.lookup y := fun y => by rw [k2]; exact celOf_eq _ _ y
  rw [F.glob.2.2]
  refine wpAny_newFunctionEnv_cells hkind (fun x hx => (k1 x hx).imp id fun g => ⟨g.1, ?_⟩) (fun env' he s₂ IC => ?_)
  · show ((cellsFrom (s.heap.objs.size + 1) (scK P a).names []).lookup x.1).isSome = true
    rw [hcells]
    obtain ⟨i, hi⟩ := Option.isSome_iff_exists.mp g.2
    rw [(zip_at (c := s.heap.objs.size + 1) hi).2.2.1]; rfl
  obtain ⟨⟨h₂, tk, hs₂⟩, hns, hkeep, _⟩ := IC.toInCall
  have hkind' : env'.kindOf = fun x => (scK P a).names.lookup x := by rw [he]; rfl
  rw [hkind'] at hns
  have hcl : env'.cells = ((cellNames (scK P a)).zipIdx (s.heap.objs.size + 1)).reverse := by rw [he]; exact hcells _
  have hL' : env'.locals = s.heap.objs.size := by rw [he]; rfl
  have R₁ : RelT (TK P) ρ objs s₂.heap := R.mv (fun b o _ => hkeep b o) (Stays.codes hkeep)
  refine ⟨(P.B.nl.keeps R.keep).keeps hkeep, codeAny_func ?_⟩
  have hlen : ρ.length = objs.length := R.len
  have hmem : ∀ c ∈ List.range' (s.heap.objs.size + 1) (cellNames (scK P a)).length, s.heap.objs.size < c := fun c hc => by
    rw [List.mem_range'] at hc
    obtain ⟨i, _, rfl⟩ := hc
    exact llt [_, _] [] [] (.v 0) (.a (.a (.v 0) (.n 1)) (.m 1 (.v 1))) (by exact yes)
  have O := fun {c} hc => R.out (none_ge (h := s.heap) (b := c) hc)
  have hρ : ∀ (i : Nat) x, ((cellNames (scK P a)).zipIdx objs.length).reverse.lookup x = some i → (ρ ++ List.range' (s.heap.objs.size + 1) (cellNames (scK P a)).length)[i]? = some (s.heap.objs.size + 1 + (i - objs.length)) := fun i x hx => by
    obtain ⟨g1, g2, _, _⟩ := zip_at (c := 0) hx
    rw [List.getElem?_append_right (hlen ▸ g1), hlen, List.getElem?_eq_getElem (by rw [List.length_range']; exact Nat.sub_lt_left_of_lt_add g1 g2), List.getElem_range', Nat.one_mul]
  have RC : Rel (TK P) (ρ ++ List.range' (s.heap.objs.size + 1) (cellNames (scK P a)).length) S₁ ⟨scK P a, a⟩ env' s₂.heap :=
    { T :=
      { len := by rw [k3, List.length_append, List.length_append, List.length_map, List.length_range', hlen]
        nd := List.nodup_append.mpr ⟨R.nd, List.nodup_range', fun x hx y hy e => (O (Nat.le_of_lt (hmem y hy))).r (e ▸ hx)⟩
        low := fun i b e => by
          by_cases hi : i < ρ.length
          · rw [List.getElem?_append_left hi] at e
            rw [k4 i (hlen ▸ hi), List.getElem?_append_left (hlen ▸ hi)]
            exact R.low i b e
          · rw [List.getElem?_append_right (Nat.le_of_not_lt hi)] at e
            have := O (Nat.le_of_lt (hmem _ (List.mem_of_getElem? e)))
            exact ⟨.inl this.h, this.e⟩
        obj := fun i o e => by
          by_cases hi : i < objs.length
          · rw [k4 i hi, List.getElem?_append_left hi] at e
            exact (R₁.obj i o e).elim fun b z => ⟨b, Pre.app _ _ z.1, z.2.mv .app (fun _ x => x) fun _ _ x => x⟩
          · have hil := (List.getElem?_eq_some_iff.mp e).1
            rw [k3, List.length_append, List.length_map] at hil
            obtain ⟨x, hx⟩ := zip_name hnd (Nat.le_of_not_lt hi) hil
            obtain ⟨w, e1, e2⟩ := k6 x i (by rw [hcel]; exact hx)
            cases e1.symm.trans e
            have hc' := IC.cell x (s.heap.objs.size + 1 + (i - objs.length)) (by rw [hcl]; exact (zip_at hx).2.2.1)
            rw [hkind'] at hc'
            exact ⟨_, hρ i x hx, _, hc', fun y hy => (e2 y hy).elim fun rv z => ⟨rv, z.1, z.2.pre .app⟩⟩
        keep := R₁.keep
        exl := R₁.exl
        tab := R₁.tab }
      b := ⟨by rw [he]; exact hkind, by rw [he]; exact F.glob.1, by rw [he]; exact F.glob.2.1, fun x k hx => ⟨k, by rw [hkind']; exact hx, .inl rfl⟩, fun l hl => by rw [he]; exact F.lam l hl⟩
      o := by
        rw [hL']
        have O := O (Nat.le_refl _)
        exact ⟨fun hm => (List.mem_append.mp hm).elim O.r fun hm => Nat.lt_irrefl _ (hmem _ hm), O.h, O.e⟩
      ns := ⟨_, hns, fun x v hx _ => (k5 x v hx).elim fun rv z => ⟨rv, z.1, z.2.pre .app⟩⟩
      cel := fun x i hx => by
        rw [hcel] at hx
        exact ⟨s.heap.objs.size + 1 + (i - objs.length), by rw [hcl]; exact (zip_at hx).2.2.1, hρ i x hx⟩ }
  have hA' : AOk n (A.deeper env') := ⟨hA.handled, by have := hA.depth; show A.depth + 1 + n + 10 < recursionLimit; exact llt [_, _, _] [.lt (.a (.a (.v 0) (.a (.v 1) (.n 1))) (.n 10)) (.v 2)] [1] (.a (.a (.a (.v 0) (.n 1)) (.v 1)) (.n 10)) (.v 2) (by exact yes) this, by have := hA.units; show A.units + 3 + 8 * n + 40 < cLine; exact llt [_, _, _] [.lt (.a (.a (.v 0) (.m 8 (.a (.v 1) (.n 1)))) (.n 40)) (.v 2)] [1] (.a (.a (.a (.v 0) (.n 3)) (.m 8 (.v 1))) (.n 40)) (.v 2) (by exact yes) this⟩
  have X₁ : Ext (TK P) ρ (ρ ++ List.range' (s.heap.objs.size + 1) (cellNames (scK P a)).length) s.heap.objs.size s s₂ := by
    subst hs₂
    exact ⟨.app, fun b hb => (List.mem_append.mp hb).imp id fun hb => none_ge (Nat.le_of_lt (hmem b hb)), fun b o e _ _ _ => hkeep b o e, fun b o e => ⟨o, hkeep b o e⟩, fun h => h, rfl, rfl⟩
  refine h.w RC hA' fun f S₃ s₃ ρ₃ fl h3 R₃ X₃ hf => ?_
  have X := X₁.inner X₃ (.inl hL')
  cases hf with
  | next => exact hQ _ S₃ s₃ ρ₃ _ env' h3 R₃ X .none
  | ret hv => exact hQ _ S₃ s₃ ρ₃ _ env' h3 R₃ X hv
/-- a call of a def -/
theorem C_fnc {a : Addr} {pos : List MV} {kw bs : List (Str × MV)} {l : List Str} {S₁ : MS} (F : FnK P a) (h0 : cellNames (scK P a) = l) (hnd : decide l.Nodup = true) (hb : Bnd P a pos kw bs)
    (hS : bindAll (scK P a) bs { objs := S.objs ++ l.map fun _ => .cell none, loc := emptyLoc, cel := celOf l S.objs.length } = some ((), S₁)) (h : WB (TK P) n ⟨scK P a, a⟩ (bodyK P a) S₁ fun f S₂ => Q (retOf f) { S₂ with loc := S.loc, cel := S.cel }) :
    WC (TK P) (n + 1) (.glob (.ref a)) pos kw S Q := ⟨fun {q env A E s ρ Qv rf rp rk} R hA hf hp hk k => by
  subst h0
  cases vr_glob hf
  obtain ⟨o, eo, ed⟩ := F.get
  refine ⟨⟨.frame, .inl rfl, (Looks.ld (part := none) (R.keep _ _ eo)).andThen ?_⟩, fn_top F (of_decide_eq_true hnd) hb hS h R.T hA hp hk fun f S₂ s₂ ρ₂ rv env' hq R₂ X hv => ?_⟩
  · rw [ed]; exact .now
  · obtain ⟨oL, hoL⟩ := R.Llt
    have X' := X.any (size_none _)
    have OL := Off.ext (Lo := s.heap.objs.size) (I := env.locals) ⟨R.o, ne_of_get hoL (size_none _)⟩ X hoL
    exact k _ _ s₂ ρ₂ rv hq (R.outer R₂ X.pre hoL OL.2 OL.1.r) (X' _) hv⟩
theorem C_fn0 {a : Addr} {pos : List MV} {kw bs : List (Str × MV)} {S₁ : MS} (F : FnK P a) (h0 : cellNames (scK P a) = []) (hb : Bnd P a pos kw bs)
    (hS : bindAll (scK P a) bs { objs := S.objs, loc := emptyLoc, cel := emptyCel } = some ((), S₁)) (h : WB (TK P) n ⟨scK P a, a⟩ (bodyK P a) S₁ fun f S₂ => Q (retOf f) { S₂ with loc := S.loc, cel := S.cel }) :
    WC (TK P) (n + 1) (.glob (.ref a)) pos kw S Q := C_fnc F h0 rfl hb (by rw [List.map_nil, List.append_nil]; exact hS) h
end
end Mine
end
section
open PySem PySem.W PyProof.Rows PySem.Calls
namespace Mine
/-- every question is of places below n; what comes out is so -/
noncomputable def allK {α : Type} (n : Nat) (P : α → Prop) : KasT α → Prop
  | .ret a => P a
  | .ask i j k => i < n ∧ j < n ∧ ∀ b, allK n P (k b)
theorem allK_bind {α β : Type} {n : Nat} {P : α → Prop} {Q : β → Prop} {f : α → KasT β} (hf : ∀ a, P a → allK n Q (f a)) : ∀ {t : KasT α}, allK n P t → allK n Q (t.bind f)
  | .ret a, h => hf a h
  | .ask i j k, h => ⟨h.1, h.2.1, fun b => allK_bind hf (h.2.2 b)⟩
noncomputable def El (n : Nat) (p : Array Nat) : Prop := ∀ x ∈ p, x < n
theorem El.get {n : Nat} {p : Array Nat} (h : El n p) (h0 : 0 < n) (k : Nat) : p.getD k 0 < n := by
  rw [Array.getD_eq_getD_getElem?]
  cases hq : p[k]? with
  | none => exact h0
  | some x => exact h x (Array.mem_of_getElem? hq)
theorem El.rev {n : Nat} {p : Array Nat} (h : El n p) (i j : Nat) : El n (kas_rev p i j) := fun x hx => h x ((mirror_perm p i j _).mem_iff.mp hx)
theorem El.bub {n : Nat} {p : Array Nat} (h : El n p) (i j : Nat) : El n (bubble p i j) := fun x hx => h x ((bubble_perm p i j).mem_iff.mp hx)
theorem asc_all {n : Nat} (h0 : 0 < n) {p : Array Nat} (hp : El n p) : ∀ (f k : Nat), allK n (fun _ => True) (kas_asc p f k)
  | 0, _ => trivial
  | f + 1, k => ⟨hp.get h0 _, hp.get h0 _, fun b => by cases b <;> simp [allK, asc_all h0 hp f (k + 1)]⟩
theorem desc_all {n : Nat} (h0 : 0 < n) : ∀ (f : Nat) {p : Array Nat} (k q : Nat), El n p → allK n (fun r => El n r.1) (kas_desc f p k q)
  | 0, _, _, _, hp => hp
  | f + 1, p, k, q, hp => ⟨hp.get h0 _, hp.get h0 _, fun b => by
    cases b with
    | true =>
      simp only [if_true]
      split
      · exact desc_all h0 f _ _ (hp.rev _ _)
      · exact desc_all h0 f _ _ hp
    | false =>
      simp only [Bool.false_eq_true, if_false]
      refine ⟨hp.get h0 _, hp.get h0 _, fun b => ?_⟩
      cases b with
      | true => exact hp
      | false => exact desc_all h0 f _ _ hp⟩
theorem tail3_all {n : Nat} (h0 : 0 < n) {p : Array Nat} (hp : El n p) (k nrem : Nat) : allK n (fun r => El n r.2) (kas_tail3 k nrem p) :=
  allK_bind (fun _ _ => by exact hp.rev _ _) (asc_all h0 (hp.rev _ _) _ _)
theorem descPart_all {n : Nat} (h0 : 0 < n) {p : Array Nat} (hp : El n p) (k nrem : Nat) : allK n (fun r => El n r.2) (kas_descPart k nrem p) :=
  allK_bind (fun r hr => by
    split
    · exact tail3_all h0 (El.rev hr _ _) _ _
    · exact tail3_all h0 hr _ _) (desc_all h0 _ _ _ hp)
theorem count_all {n : Nat} (h0 : 0 < n) {p : Array Nat} (hp : El n p) (nrem : Nat) : allK n (fun r => El n r.2) (kas_count nrem p) :=
  allK_bind (fun m _ => by
    split
    · exact hp
    · split
      · refine ⟨hp.get h0 _, hp.get h0 _, fun b => ?_⟩
        cases b with
        | true => exact hp
        | false => exact descPart_all h0 (hp.rev _ _) _ _
      · exact descPart_all h0 hp _ _) (asc_all h0 hp _ _)
theorem place_all {n : Nat} (h0 : 0 < n) {p : Array Nat} (hp : El n p) (k : Nat) : ∀ (f l r : Nat), allK n (fun _ => True) (kas_place p k f l r)
  | 0, _, _ => trivial
  | f + 1, l, r => by
    unfold kas_place
    split
    · trivial
    · refine ⟨hp.get h0 _, hp.get h0 _, fun b => ?_⟩
      cases b with
      | true => exact place_all h0 hp k f _ _
      | false => exact place_all h0 hp k f _ _
theorem bin_all {n : Nat} (h0 : 0 < n) : ∀ (f : Nat) {p : Array Nat} (k : Nat), El n p → allK n (fun p => El n p) (kas_bin f p k)
  | 0, _, _, hp => hp
  | f + 1, p, k, hp => allK_bind (fun _ _ => bin_all h0 f _ (hp.bub _ _)) (place_all h0 hp k _ _ _)
theorem sort_all {n : Nat} (h0 : 0 < n) : allK n (fun p => El n p) (kas_sort n) := by
  have he : El n (List.toArray (List.range n)) := fun x hx => by simpa using hx
  exact allK_bind (fun r hr => by
    split
    · exact bin_all h0 _ _ hr
    · exact hr) (count_all h0 he n)
theorem kasWp_run {α : Type} {n : Nat} {cmp : Nat → Nat → (Bool → Shared → Prop) → Shared → Prop} {lt : Nat → Nat → Bool} {P : α → Prop} {s : Shared} (hc : ∀ i j C, i < n → j < n → C (lt i j) s → cmp i j C s) {Q : α → Shared → Prop} :
    ∀ {t : KasT α}, allK n P t → (P (runK lt t) → Q (runK lt t) s) → t.kasWp cmp Q s
  | .ret a, h, hQ => hQ h
  | .ask i j k, h, hQ => hc i j _ h.1 h.2.1 (kasWp_run hc (h.2.2 (lt i j)) hQ)
noncomputable def fullBut (h : Heap) (L I : Addr) : List (Addr × Obj) := (full h L).filter fun p => p.1 != I
theorem mem_fullBut {h : Heap} {L I a : Addr} {o : Obj} : (a, o) ∈ fullBut h L I ↔ h.get? a = some o ∧ a ≠ L ∧ a ≠ I := by
  unfold fullBut
  rw [List.mem_filter, mem_full]
  simp [and_assoc]
theorem news_but {h : Heap} {L I : Addr} {o : Obj} (e : h.get? I = some o) (hI : I ≠ L) : News nullH L h ((I, o) :: fullBut h L I) := fun p hp => by
  rcases List.mem_cons.mp hp with rfl | hp
  · exact ⟨e, hI, nullH_get _⟩
  · obtain ⟨a, ob⟩ := p
    obtain ⟨h1, h2, _⟩ := mem_fullBut.mp hp
    exact ⟨h1, h2, nullH_get a⟩
theorem upd_but {h : Heap} {L I : Addr} {o : Obj} : UpdF I o ((I, o) :: fullBut h L I) fun o' => (I, o') :: fullBut h L I :=
  .head fun p hp => by obtain ⟨a, ob⟩ := p; exact (mem_fullBut.mp hp).2.2
section
variable {P : PP} {n : Nat} {q : Sta} {S : MS} {p : Pos}
theorem T_Search {x : Str} {ap cp : Pos} {a : Expr} {Q : QB} (c1 : ap.endLine = cp.line) (c2 : notStar a = true)
    (h : WE (TK P) n q (.Name x p) S fun f S₁ => f = .glob (.ref (TK P).T.pat) ∧ WE (TK P) n q a S₁ fun v S₂ => ∃ t, v = .str t ∧ t.length ≤ stopLen ∧ Q (ipAt t) S₂) : WT (TK P) (n + 1) q (.Call (.Attribute (.Name x p) (Str.ofString "search") ap) [a] [] cp) S Q := ⟨fun {env A E s ρ Qv} R hA k => by
  show wpAny _ _ (eval _ env >>= fun v => standAt _ >>= fun _ => holding [v] (truthy v)) _ _ _
  rw [arm_eval_Call, attributeBase_not rfl]
  refine wpAny_bind (wpAny_bind (h.w R hA.down fun fv S₁ s₁ ρ₁ ro h1 R₁ X₁ vo => wpAny_bind (wpAny_standAt ?_)))
  obtain ⟨rfl, h1⟩ := h1
  cases vr_glob vo
  have c4 : [a].all notStar = true := by show (notStar a && true) = true; rw [c2]; rfl
  have few : methodCallForm ([a].length + ([] : List Keyword).length) (backTo cp (starEach [a] env)) (backToKw cp (keywordEach [] env)) = true := by
    unfold methodCallForm
    rw [(back_all c4).1]
    rfl
  unfold methodCall
  rw [few]
  have hpos : methodCallPos true (.Name x p) env ap cp = pure cp := by
    unfold methodCallPos
    exact if_pos (beq_iff_eq.mpr c1)
  rw [hpos]
  have X₀ := KIn P.R0 R₁.keep
  have hT : s₁.TypeIs (.ref (TK P).T.pat) "re.Pattern" := ⟨_, X₀ 162 _ rfl, rfl⟩
  refine wpAny_bind (wpAny_holding (getMethod_builtin hT plainAttrs_re slot_re_search type_re_search (fun b hb => by cases hb; exact ⟨_, X₀ 162 _ rfl, rfl⟩) ?_))
  refine wpAny_bind (wpAny_pure ?_)
  refine callWith_of (P := fun h => KeepOk (TK P) h (.builtin "re.Pattern.search")) (by rw [(back_all c4).2]; rfl) (fun h x => x) ?_
  refine evalArgs_sim (Ql := fun vs S₂ => ∃ t, vs = [.str t] ∧ t.length ≤ stopLen ∧ Q (ipAt t) S₂) c4 (WL_cons (WE_post h1 fun v S₂ h2 => by
    obtain ⟨t, rfl, h2⟩ := h2
    exact WL_nil ⟨t, rfl, h2⟩)) R₁ hA.down fun vs S₂ s₂ ρ₂ rs h2 R₂ X₂ vrs => ⟨keep_builtin (G := TK P), ?_⟩
  obtain ⟨t, rfl, ht, hq⟩ := h2
  refine pd_one vrs fun b hb => ?_
  obtain ⟨sx, tx, rfl, rfl⟩ := vr_str hb
  have X12 := X₁.trans X₂
  refine search_call (KIn P.R0 R₂.keep) (show sx.cps.toList.length ≤ 4096 from ht) (fun hf => ?_) (fun hf h' m kk hm => ?_)
  · exact wpAny_bind (wpAny_standAt (wpAny_holding (wpAny_pure (k.at hq s₂ ρ₂ false R₂ X12 hf))))
  · exact wpAny_bind (wpAny_standAt (wpAny_holding (truthy_match hm (k.at hq { s₂ with heap := h' } ρ₂ true (R₂.keeps kk) (X12.trans (Ext.grow (t := s₂.toks) kk)) hf))))⟩
end
theorem strsAre_of {ρ : List Addr} : ∀ {ks : List (List Nat)} {rs : List Value}, VRs ρ (ks.map .str) rs → ∃ ss : List Str, StrsAre rs ss ∧ ks = ss.map fun x => x.cps.toList := by
  intro ks
  induction ks with
  | nil => exact fun p => pd_nil (C := fun rs => ∃ ss : List Str, StrsAre rs ss ∧ [] = ss.map fun x => x.cps.toList) p ⟨[], .nil, rfl⟩
  | cons k ks ih =>
    refine fun p => pd_cons (C := fun rs => ∃ ss : List Str, StrsAre rs ss ∧ k :: ks = ss.map fun x => x.cps.toList) p fun b t hb ht => ?_
    obtain ⟨s, u, rfl, rfl⟩ := vr_str hb
    obtain ⟨ss, e1, rfl⟩ := ih ht
    exact ⟨s :: ss, .cons _ _ e1, rfl⟩
theorem strsAre_getD {rs : List Value} {ss : List Str} (p : StrsAre rs ss) : ∀ {i : Nat}, i < rs.length → ∃ x t, rs.getD i .none = .str x t ∧ (ss.map fun x => x.cps.toList).getD i [] = x.cps.toList := by
  induction p with
  | nil => intro i hi; exact absurd hi (Nat.not_lt_zero _)
  | cons x t h ih =>
    intro i hi
    cases i with
    | zero => exact ⟨x, t, rfl, rfl⟩
    | succ i => exact ih (by simpa using hi)
theorem pd_getD {ρ : List Addr} {vs : List MV} {rs : List Value} (p : VRs ρ vs rs) : ∀ i, VR ρ (vs.getD i .none) (rs.getD i .none) := by
  induction p with
  | nil => intro i; exact .none
  | cons h t ih =>
    intro i
    cases i with
    | zero => exact h
    | succ i => exact ih i
theorem pd_map {ρ : List Addr} {f : Nat → MV} {g : Nat → Value} (hfg : ∀ i, VR ρ (f i) (g i)) : ∀ l : List Nat, VRs ρ (l.map f) (l.map g)
  | [] => .nil
  | i :: r => .cons (hfg i) (pd_map hfg r)
section
variable {G : Gd} {ρ : List Addr} {S : MS} {q : Sta} {env : Env} {h h' : Heap} {I : Addr}
/-- grown by a rule that tells of the frame by its names, and of one thing that stands off -/
theorem Rel.ledger (R : Rel G ρ S q env h) {m : Str → Option Value} (hn : h.Ns env.locals m) (hm : NsRel ρ S q m) (hn' : h'.Ns env.locals m) (O : Off G ρ env.locals I) {oI : Obj} (eI : h.get? I = some oI) (nI : ∀ vs, oI.data ≠ .fields vs)
    (k : ∀ b o, b ≠ env.locals → b ≠ I → h.get? b = some o → h'.get? b = some o) : Rel G ρ S q env h' := by
  obtain ⟨oL, es, ep, hL, hd, _⟩ := hn
  refine R.led hm hn' (fun b o x => k b o (R.o.ne x) (O.toOut.ne x)) ?_
  rintro c qn ⟨a, o, vs, t, e, g, d, r⟩
  refine ⟨a, o, vs, t, e, k _ _ (fun hb => ?_) (fun hb => ?_) g, d, r⟩
  · subst hb; rw [hL] at g; cases g; rw [hd] at d; cases d
  · subst hb; rw [eI] at g; cases g; exact nI _ d
/-- a state amid a sort with keys -/
structure SrtSt (G : Gd) (ρ₀ : List Addr) (s₀ : Shared) (q : Sta) (env : Env) (m : Str → Option Value) (kS D : Addr) (e1 : Nat) (S : MS) (ρ : List Addr) (done : List Value) (e : Nat) (s : Shared) : Prop where
  R : Rel G ρ S q env s.heap
  ns : s.heap.Ns env.locals m
  nsr : NsRel ρ S q m
  ek : s.heap.get? kS = some (seqObj "list" (List.toArray done) e)
  ed : s.heap.get? D = some (seqObj "list" #[] e1)
  ok : Off G ρ env.locals kS
  od : Off G ρ env.locals D
  kd : kS ≠ D
  nk : s₀.heap.get? kS = none
  nd : s₀.heap.get? D = none
  X : Ext G ρ₀ ρ env.locals s₀ s
theorem keys_loop {n : Nat} {m : Str → Option Value} {kS D : Addr} {e1 j : Nat} {a : Addr} {Fin : List Value → Nat → Shared → Prop} {s₀ : Shared} {ρ₀ : List Addr} {A : Around} (hA : COk n A) {r : List MV} {ks : List (List Nat)} (hk : Paired (fun v k => WClo G n j v S fun u S' => u = .str k ∧ S' = S) r ks) :
    ∀ {rr done : List Value} {ρ : List Addr} {e : Nat} {s : Shared}, VRs ρ r rr → ρ[j]? = some a → SrtSt G ρ₀ s₀ q env m kS D e1 S ρ done e s →
    (∀ ρ' rk e' s', SrtSt G ρ₀ s₀ q env m kS D e1 S ρ' (done ++ rk) e' s' → VRs ρ' (ks.map .str) rk → Pre ρ ρ' → Fin (done ++ rk) e' s') → KatKeys G.prog G.w A nullH env.locals m kS (.ref a) Fin rr done e s := by
  induction hk with
  | nil =>
    intro rr done ρ e s hv ha T hf
    cases hv
    have := hf ρ [] e s (by rw [List.append_nil]; exact T) .nil .refl
    rw [List.append_nil] at this
    exact .nil this
  | @cons v k r ks hw hr ih =>
    intro rr done ρ e s hv ha T hf
    cases hv with
    | @cons _ rx _ rr hx ht =>
    refine .cons (hw.w T.R hA ha hx fun u S₂ s₂ ρ₂ rv hu R₂ X₂ v₂ => ?_).2
    obtain ⟨rfl, rfl⟩ := hu
    have XL := X₂ env.locals
    obtain ⟨oL, es, ep, hL, r'⟩ := T.ns
    have ns₂ : s₂.heap.Ns env.locals m := ⟨oL, es, ep, (X₂ s.heap.objs.size).kp _ _ hL T.R.o.r (ne_of_get hL (size_none _)) T.R.o.e, r'⟩
    obtain ⟨ok₂, ek₂⟩ := T.ok.ext XL T.ek
    obtain ⟨od₂, ed₂⟩ := T.od.ext XL T.ed
    have nsr₂ := T.nsr.pre (S' := S₂) XL.pre rfl
    refine KatBack.intro (fr_full ns₂) (news_but ek₂ T.ok.l) upd_but fun h' c F' N' => ?_
    have kk : ∀ b o, b ≠ env.locals → b ≠ kS → s₂.heap.get? b = some o → h'.get? b = some o := fun b o g1 g2 g3 => (N' (b, o) (.tail _ (mem_fullBut.mpr ⟨g3, g1, g2⟩))).1
    have ek₃ : h'.get? kS = some (seqObj "list" (List.toArray (done ++ [rv])) c) := (N' _ (.head _)).1
    have X := T.X.trans XL
    have T' : SrtSt G ρ₀ s₀ q env m kS D e1 S₂ ρ₂ (done ++ [rv]) c { s₂ with heap := h' } :=
      ⟨R₂.ledger ns₂ nsr₂ F'.ns ok₂ ek₂ (fun vs => nofun) kk, F'.ns, nsr₂, ek₃, kk _ _ T.od.l (Ne.symm T.kd) ed₂, ok₂, od₂, T.kd, T.nk, T.nd,
        ⟨X.pre, X.fresh, fun b o g1 g2 g3 g4 => kk b o g3 (ne_of_get g1 T.nk) (X.kp b o g1 g2 g3 g4), fun b o g1 => by
          by_cases hb : b = env.locals
          · subst hb; exact F'.ns.elim fun o' z => z.elim fun _ z => z.elim fun _ z => ⟨o', z.1⟩
          · exact (X.alive b o g1).elim fun o' e' => ⟨o', kk b o' hb (ne_of_get g1 T.nk) e'⟩, X.bare, X.drawn, X.os⟩⟩
    refine ih (XL.vrs ht) (XL.get ha) T' fun ρ' rk e' s' T'' v'' hp => ?_
    have := hf ρ' (rv :: rk) e' s' (by rw [List.append_cons]; exact T'') (.cons (v₂.pre hp) v'') (XL.pre.trans hp)
    rw [List.append_cons] at this
    exact this
theorem pd_idx {α β : Type} {F : α → β → Prop} : ∀ {l : List α} {r : List β}, l.length = r.length → (∀ (i : Nat) a b, l[i]? = some a → r[i]? = some b → F a b) → Paired F l r := by
  intro l
  induction l with
  | nil =>
    intro r hl _
    cases List.eq_nil_of_length_eq_zero hl.symm
    exact .nil
  | cons a l ih =>
    intro r hl h
    cases r with
    | nil => cases hl
    | cons b r => exact .cons (h 0 a b rfl rfl) (ih (Nat.succ.inj hl) fun i => h (i + 1))
theorem C_sorted {n j i : Nat} {vs : List MV} {ks : List (List Nat)} {Q : QE} (e : S.objs[i]? = some (.list vs)) (hl : 2 ≤ vs.length ∧ vs.length < 64) (hn : vs.length = ks.length)
    (hk : ∀ (i : Nat) v k, vs[i]? = some v → ks[i]? = some k → WClo G n j v S fun r S' => r = .str k ∧ S' = S)
    (h : Q (.ref S.objs.length) { S with objs := S.objs ++ [.list ((runK (ltL ks) (kas_sort vs.length)).toList.map fun i => vs.getD i .none)] }) : WC G (n + 1) (.glob (.builtin "sorted")) [.ref i] [("key", .ref j)] S Q := ⟨fun {q env A E s ρ Qv rf rp rk} R hA hf hp hkw k => by
  cases vr_glob hf
  refine ⟨keep_builtin, pd_one hp fun v hv => vr_refE hv fun a ea => kw_one (C := fun rk => wpAny _ _ (call _ [.ref a] rk) _ _ _) hkw fun v hv => vr_refE hv fun f ef => ?_⟩
  obtain ⟨items, e, p⟩ := R.at e ea
  have hil : s.heap.IsList a items.toList.toArray := e.isList
  have hsz : vs.length = items.toList.length := pd_len p
  obtain ⟨m, hns, hm⟩ := R.ns
  refine kat_sortedK (b := false) (f := .ref f) (fr_full hns) news_full hil (by exact lle [_, _] [.le (.n 2) (.v 1), .eq (.v 1) (.v 0)] [1, 1] (.n 2) (.v 0) (by exact yes) hl.1 hsz) (by exact llt [_, _] [.lt (.v 1) (.n 64), .eq (.v 1) (.v 0)] [1, -1] (.v 0) (.n 64) (by exact yes) hl.2 hsz) (ksk_s1 _ _) (fun x => ksk_l1 _ _) (fun x => ksk_t1 _ _) (fun D kS e1 h' F N hDk hlt => ?_)
  have ek : h'.get? kS = some (seqObj "list" (List.toArray []) 0) := (N _ (.head _)).1
  have ed : h'.get? D = some (seqObj "list" #[] e1) := (N _ (.tail _ (.head _))).1
  have kk : StaysBut env.locals s.heap h' := back_full N fun p hp => .tail _ (.tail _ hp)
  have fresh : ∀ b, D ≤ b → b ≠ env.locals → s.heap.get? b = none := fun b hb hbL => by
    cases hq : s.heap.get? b with
    | none => rfl
    | some o => exact absurd (hlt _ (mem_full.mpr ⟨hq, hbL⟩)) (Nat.not_lt.mpr hb)
  have nD := fresh D (Nat.le_refl _) (N _ (.tail _ (.head _))).2.1
  have nK := fresh kS (Nat.le_of_lt hDk) (N _ (.head _)).2.1
  have T : SrtSt G ρ s q env m kS D e1 S ρ [] 0 { s with heap := h' } :=
    ⟨R.keepsN hns hm F.ns kk, F.ns, hm, ek, ed, R.offNew nK, R.offNew nD, Nat.ne_of_gt hDk, nK, nD, Ext.but (t := s.toks) (.inr rfl) kk (F.ns.elim fun o' z => z.elim fun _ z => z.elim fun _ z => ⟨o', z.1⟩)⟩
  have hA' : COk n A.in1.in1 := ⟨hA.handled, by have := hA.depth; show A.depth + n + 11 < recursionLimit; exact llt [_, _, _] [.lt (.a (.a (.v 0) (.a (.v 1) (.n 1))) (.n 10)) (.v 2)] [1] (.a (.a (.v 0) (.v 1)) (.n 11)) (.v 2) (by exact yes) this, by have := hA.units; show A.units + 1 + 1 + 8 * n + 43 < cLine; exact llt [_, _, _] [.lt (.a (.a (.v 0) (.m 8 (.a (.v 1) (.n 1)))) (.n 40)) (.v 2)] [1] (.a (.a (.a (.a (.v 0) (.n 1)) (.n 1)) (.m 8 (.v 1))) (.n 43)) (.v 2) (by exact yes) this⟩
  refine keys_loop hA' (pd_idx hn hk) p ef T fun ρ' rk e' s' T' v' hp => ?_
  rw [List.nil_append] at T' ⊢
  obtain ⟨ss, hss, rfl⟩ := strsAre_of v'
  have hkl : rk.length = vs.length := (pd_len v').symm.trans ((List.length_map _).trans hn.symm)
  have hkind : keyKind' (List.toArray rk) = pure oneType' := by
    match rk, hss, hkl with
    | r1 :: r2 :: rr, hss, _ => exact keyKind_strs hss
    | [], _, hz => exact absurd hz (by simp; exact fun hz => lif [_] [.eq (.n 0) (.v 0), .le (.n 2) (.v 0)] [-1, 1] (by exact yes) hz hl.1)
    | [_], _, hz => exact absurd hz (by simp; exact fun hz => lif [_] [.eq (.n 1) (.v 0), .le (.n 2) (.v 0)] [-1, 1] (by exact yes) hz hl.1)
  refine wpAny_of_eq hkind ?_
  rw [← hsz]
  refine kasWp_run (n := vs.length) (lt := ltL (ss.map fun x => x.cps.toList)) (fun i j C hi hj hC => ?_) (sort_all (by exact llt [_] [.le (.n 2) (.v 0)] [1] (.n 0) (.v 0) (by exact yes) hl.1)) fun hp' => ?_
  · obtain ⟨x, t, g1, g2⟩ := strsAre_getD hss (i := i) (hkl ▸ hi)
    obtain ⟨y, u, g3, g4⟩ := strsAre_getD hss (i := j) (hkl ▸ hj)
    unfold kas_ask katRev
    rw [if_neg nofun, g1, g3]
    refine kas_lt_str ?_
    unfold ltL at hC
    rw [g2, g4] at hC
    exact hC
  · unfold katRev
    rw [if_neg nofun]
    refine KatFin.intro (fr_full T'.ns) (news_but T'.ek T'.ok.l) upd_but fun h₁ c F₁ N₁ => ?_
    have k₁ : ∀ b o, b ≠ env.locals → b ≠ kS → s'.heap.get? b = some o → h₁.get? b = some o := fun b o g1 g2 g3 => (N₁ (b, o) (.tail _ (mem_fullBut.mpr ⟨g3, g1, g2⟩))).1
    have R₁ := T'.R.ledger T'.ns T'.nsr F₁.ns T'.ok T'.ek (fun vs => nofun) k₁
    have ed₁ := k₁ _ _ T'.od.l (Ne.symm T'.kd) T'.ed
    refine KasFin.intro (s := { s' with heap := h₁ }) (fr_full F₁.ns) (news_but ed₁ T'.od.l) upd_but fun h₂ c₂ F₂ N₂ => ?_
    have k₂ : ∀ b o, b ≠ env.locals → b ≠ D → h₁.get? b = some o → h₂.get? b = some o := fun b o g1 g2 g3 => (N₂ (b, o) (.tail _ (mem_fullBut.mpr ⟨g3, g1, g2⟩))).1
    have R₂ := R₁.ledger F₁.ns T'.nsr F₂.ns T'.od ed₁ (fun vs => nofun) k₂
    have eD₂ := (N₂ _ (.head _)).1
    have R₃ := R₂.adopt (o := .list ((runK (ltL (ss.map fun x => x.cps.toList)) (kas_sort vs.length)).toList.map fun i => vs.getD i .none)) T'.od.toOut T'.od.l
      ⟨_, ⟨c₂, eD₂⟩, by
        have := pd_map (ρ := ρ' ++ [D]) (f := fun i => vs.getD i .none) (g := fun i => items.toList.getD i Value.none) (fun i => (pd_getD p i).pre (hp.trans .app)) (runK (ltL (ss.map fun x => x.cps.toList)) (kas_sort vs.length)).toList
        simpa using this⟩
    refine k.at h { s' with heap := h₂, toks := s'.toks } _ (.ref D) R₃ (Ext.adopt ?_ nD) (vr_new (s := { s' with heap := h₂ }) R₂)
    have X := T'.X
    refine ⟨X.pre, X.fresh, fun b o g1 g2 g3 g4 => k₂ b o g3 (ne_of_get g1 nD) (k₁ b o g3 (ne_of_get g1 nK) (X.kp b o g1 g2 g3 g4)), fun b o g1 => ?_, X.bare, X.drawn, X.os⟩
    by_cases hb : b = env.locals
    · subst hb; exact F₂.ns.elim fun o' z => z.elim fun _ z => z.elim fun _ z => ⟨o', z.1⟩
    · exact (X.alive b o g1).elim fun o' e' => ⟨o', k₂ b o' hb (ne_of_get g1 nD) (k₁ b o' hb (ne_of_get g1 nK) e')⟩⟩
end
end Mine
end
section
open PySem PySem.W PyProof.Rows PySem.Calls
namespace Mine
/-- told alike -/
inductive EqF : MV → MV → Prop
  | none : EqF .none .none
  | str (x : List Nat) : EqF (.str x) (.str x)
inductive EqT (S : MS) : MV → MV → Prop
  | flat {a b : MV} (h : EqF a b) : EqT S a b
  | tup {i j : Nat} {xs ys : List MV} (hij : i ≠ j) (h1 : S.objs[i]? = some (.tup xs)) (h2 : S.objs[j]? = some (.tup ys)) (h : Paired EqF xs ys) : EqT S (.ref i) (.ref j)
theorem all_t (n : Nat) : (List.range n).all (fun _ => true) = true := List.all_eq_true.mpr fun _ _ => rfl
theorem pd_at {α : Type} {F : α → α → Prop} {l r : List α} (p : Paired F l r) : ∀ {j : Nat} {a b : α}, l[j]? = some a → r[j]? = some b → F a b := fun h1 h2 => (pd_get p h1).elim fun _ z => Option.some.inj (z.1.symm.trans h2) ▸ z.2
theorem pd_nth {ρ : List Addr} {vs : List MV} {items : Array Value} (p : VRs ρ vs items.toList) {j : Nat} (hj : j < items.size) : ∃ v, vs[j]? = some v ∧ VR ρ v items[j] := by
  have hl : j < vs.length := by rw [pd_size p]; exact hj
  obtain ⟨b, e1, e2⟩ := pd_get p (List.getElem?_eq_getElem hl)
  rw [Array.getElem?_toList, Array.getElem?_eq_getElem hj] at e1
  cases e1
  exact ⟨_, List.getElem?_eq_getElem hl, e2⟩
section
variable {G : Gd} {ρ : List Addr} {S : MS} {q : Sta} {env : Env} {A : Around} {s : Shared}
theorem eqF_at {a b : MV} {ra rb : Value} (h : EqF a b) (ha : VR ρ a ra) (hb : VR ρ b rb) : SeqAt.EqAt A s ra rb true := by
  cases h with
  | none => cases vr_none ha; cases vr_none hb; exact SeqAt.EqAt.same _
  | str x =>
    obtain ⟨sx, tx, rfl, rfl⟩ := vr_str ha
    obtain ⟨sy, ty, rfl, e⟩ := vr_str hb
    cases str_inj e
    exact beq_self_eq_true sx ▸ SeqAt.EqAt.str_str _ _ _ _
theorem eqT_at {a b : MV} {ra rb : Value} (hu : A.units < cLine) (h : EqT S a b) (R : Rel G ρ S q env s.heap) (ha : VR ρ a ra) (hb : VR ρ b rb) : SeqAt.EqAt A s ra rb true := by
  cases h with
  | flat h => exact eqF_at h ha hb
  | tup hij h1 h2 h =>
    obtain ⟨x, rfl, ex⟩ := vr_ref ha
    obtain ⟨y, rfl, ey⟩ := vr_ref hb
    obtain ⟨i1, n1, e1, p1⟩ := R.at h1 ex
    obtain ⟨i2, n2, e2, p2⟩ := R.at h2 ey
    refine SeqAt.EqAt.of_refs (fun e => hij (nodup_inj R.T.nd ex (e ▸ ey))) ?_
    have hg := SeqAt.RcAt.tuples (e := fun _ => true) (s := s) (isTuple_of e1) (isTuple_of e2) hu (fun j j1 j2 => (pd_nth p1 j1).elim fun u z => (pd_nth p2 j2).elim fun v z2 => eqF_at (pd_at h z.1 z2.1) z.2 z2.2)
    have hz : i1.size = i2.size := (pd_size p1).symm.trans ((pd_len h).trans (pd_size p2))
    rw [all_t, hz, beq_self_eq_true] at hg
    exact hg
end
section
variable {G : Gd} {S : MS} {i j : Nat} {xs ys : List MV} {Q : QB}
theorem C_eql (e1 : S.objs[i]? = some (.list xs)) (e2 : S.objs[j]? = some (.list ys)) (hb : Paired (EqT S) xs ys) (h : Q true S) : PC G .Eq (.ref i) (.ref j) S Q := ⟨_, h, fun {q env A E s ρ ra rb Qv} hA R ha hb' hq => by
  obtain ⟨x, rfl, ex⟩ := vr_ref ha
  obtain ⟨y, rfl, ey⟩ := vr_ref hb'
  obtain ⟨i1, e1, p1⟩ := R.at e1 ex
  obtain ⟨i2, e2, p2⟩ := R.at e2 ey
  exact SeqAt.eq_listAt (e := fun _ => true) e1.isList e2.isList ((pd_size p1).symm.trans ((pd_len hb).trans (pd_size p2))) (hA.u (k := 0) (by decide)) (fun j j1 j2 => (pd_nth p1 j1).elim fun u z => (pd_nth p2 j2).elim fun v z2 => eqT_at (hA.u (k := 1) (by decide)) (pd_at hb z.1 z2.1) R z.2 z2.2) (by rw [all_t]; exact hq)⟩
theorem C_nel (e1 : S.objs[i]? = some (.list xs)) (e2 : S.objs[j]? = some (.list ys)) (hb : Paired (EqT S) xs ys) (h : Q false S) : PC G .NotEq (.ref i) (.ref j) S Q := ⟨_, h, fun {q env A E s ρ ra rb Qv} hA R ha hb' hq => by
  obtain ⟨x, rfl, ex⟩ := vr_ref ha
  obtain ⟨y, rfl, ey⟩ := vr_ref hb'
  obtain ⟨i1, e1, p1⟩ := R.at e1 ex
  obtain ⟨i2, e2, p2⟩ := R.at e2 ey
  exact SeqAt.RcNeAt.lists (e := fun _ => true) e1.isList e2.isList ((pd_size p1).symm.trans ((pd_len hb).trans (pd_size p2))) (hA.u (k := 0) (by decide)) (fun j j1 j2 => (pd_nth p1 j1).elim fun u z => (pd_nth p2 j2).elim fun v z2 => eqT_at (hA.u (k := 1) (by decide)) (pd_at hb z.1 z2.1) R z.2 z2.2) _ _ _ _ (by rw [all_t]; exact hq)⟩
/-- is the list empty -/
theorem C_eq0 (e1 : S.objs[i]? = some (.list xs)) (e2 : S.objs[j]? = some (.list [])) (h : Q xs.isEmpty S) : PC G .Eq (.ref i) (.ref j) S Q := by
  cases xs with
  | nil => exact C_eql e1 e2 .nil h
  | cons a r => exact ⟨_, h, fun {q env A E s ρ ra rb Qv} hA R ha hb' hq => by
      obtain ⟨x, rfl, ex⟩ := vr_ref ha
      obtain ⟨y, rfl, ey⟩ := vr_ref hb'
      obtain ⟨i1, e1, p1⟩ := R.at e1 ex
      obtain ⟨i2, e2, p2⟩ := R.at e2 ey
      exact SeqAt.eq_list_lengthsAt e1.isList e2.isList (by rw [← pd_size p1, ← pd_size p2]; rfl) (hA.u (k := 0) (by decide)) hq⟩
theorem C_ne0 (e1 : S.objs[i]? = some (.list xs)) (e2 : S.objs[j]? = some (.list [])) (h : Q (!xs.isEmpty) S) : PC G .NotEq (.ref i) (.ref j) S Q := by
  cases xs with
  | nil => exact C_nel e1 e2 .nil h
  | cons a r => exact ⟨_, h, fun {q env A E s ρ ra rb Qv} hA R ha hb' hq => by
      obtain ⟨x, rfl, ex⟩ := vr_ref ha
      obtain ⟨y, rfl, ey⟩ := vr_ref hb'
      obtain ⟨i1, e1, p1⟩ := R.at e1 ex
      obtain ⟨i2, e2, p2⟩ := R.at e2 ey
      exact SeqAt.RcNeAt.lists_lengths e1.isList e2.isList (by rw [← pd_size p1, ← pd_size p2]; rfl) (hA.u (k := 0) (by decide)) _ _ _ _ hq⟩
end
end Mine
end
section
open PySem PySem.W PyProof.Rows
namespace Mine
/-- the old objects stand -/
noncomputable def Keeps (S S' : MS) : Prop := ∀ (i : Nat) (o : MO), S.objs[i]? = some o → S'.objs[i]? = some o
theorem Keeps.refl (S : MS) : Keeps S S := fun _ _ h => h
theorem Keeps.trans {S S₁ S₂ : MS} (h : Keeps S S₁) (h2 : Keeps S₁ S₂) : Keeps S S₂ := fun i o e => h2 i o (h i o e)
theorem get_app {objs ob : List MO} {i : Nat} {o : MO} (h : objs[i]? = some o) : (objs ++ ob)[i]? = some o := by
  rw [List.getElem?_append_left (List.getElem?_eq_some_iff.mp h).1]; exact h
theorem get_new {objs : List MO} {o : MO} : (objs ++ [o])[objs.length]? = some o := by simp
theorem get_lt {objs : List MO} {i : Nat} {o : MO} (h : objs[i]? = some o) : i < objs.length := (List.getElem?_eq_some_iff.mp h).1
theorem get_set {objs : List MO} {i j : Nat} {o o' : MO} (h : objs[i]? = some o) (hj : i ≠ j) : (objs.set j o')[i]? = some o := by
  rw [List.getElem?_set_ne (Ne.symm hj)]; exact h
theorem get_set_same {objs : List MO} {i : Nat} {o o' : MO} (h : objs[i]? = some o) : (objs.set i o')[i]? = some o' := by
  rw [List.getElem?_set_self (get_lt h)]
theorem keeps_app {S S' : MS} {ob : List MO} (h : S'.objs = S.objs ++ ob) : Keeps S S' := fun i o e => by rw [h]; exact get_app e
section
theorem celOf2_1 {x y : Str} {n : Nat} (h : (x == y) = false := by rfl) : celOf [x, y] n x = some n := by
  unfold celOf
  simp [List.lookup, h]
theorem celOf2_2 {x y : Str} {n : Nat} : celOf [x, y] n y = some (n + 1) := by
  unfold celOf
  simp [List.lookup]
theorem get_set_lt {objs : List MO} {i : Nat} {o' : MO} (h : i < objs.length) : (objs.set i o')[i]? = some o' := List.getElem?_set_self h
theorem get_newAt {objs : List MO} {o : MO} {i : Nat} (h : i = objs.length) : (objs ++ [o])[i]? = some o := by subst h; exact get_new
end
theorem upd_ne {m : Str → Option MV} {x y : Str} {v : MV} {r : Option MV} (h : decide (y = x) = false) (e : m y = r) : upd m x v y = r := (if_neg (of_decide_eq_false h)).trans e
theorem Pieces.uncons {objs : List MO} {v : MV} {r : List MV} {l : List Pc} (h : Pieces objs (v :: r) l) : ∃ i p l', v = .ref i ∧ l = p :: l' ∧ objs[i]? = some (.tup [.str p.1, .str p.2]) ∧ Pieces objs r l' := by
  obtain ⟨⟩ | ⟨⟨i, e, g⟩, h⟩ := h
  exact ⟨i, _, _, e, rfl, g, h⟩
theorem Pieces.unnil {objs : List MO} {l : List Pc} (h : Pieces objs [] l) : l = [] := by cases h; rfl
variable (P : PP)
theorem b_169 {v : MV} : Bnd P 169 [v] [] [("text", v)] := bnd1 (by intro _; kernel_rfl)
theorem b_176 {v : MV} : Bnd P 176 [v] [] [("text", v)] := bnd1 (by intro _; kernel_rfl)
theorem b_183 {v w : MV} : Bnd P 183 [v, w] [] [("A", v), ("B", w)] := bnd2 (by intro _ _; kernel_rfl)
theorem b_190 {v : MV} : Bnd P 190 [v] [] [("h", v)] := bnd1 (by intro _; kernel_rfl)
theorem b_197 {v : MV} : Bnd P 197 [v] [] [("localetuple", v)] := bnd1 (by intro _; kernel_rfl)
theorem b_204 {v w : MV} : Bnd P 204 [v, w] [] [("cell", v), ("ground", w)] := bnd2 (by intro _ _; kernel_rfl)
theorem b_209 {v w : MV} : Bnd P 209 [v, w] [] [("places", v), ("above", w)] := bnd2 (by intro _ _; kernel_rfl)
theorem b_216 {v : MV} : Bnd P 216 [v] [] [("piece", v)] := bnd1 (by intro _; kernel_rfl)
theorem b_223 {v : MV} : Bnd P 223 [v] [] [("pieces", v)] := bnd1 (by intro _; kernel_rfl)
theorem b_230 {v : MV} : Bnd P 230 [v] [] [("seen", v)] := bnd1 (by intro _; kernel_rfl)
theorem b_237 {v w : MV} : Bnd P 237 [v, w] [] [("pile", v), ("host", w)] := bnd2 (by intro _ _; kernel_rfl)
theorem b_244 {v w z : MV} : Bnd P 244 [v, w, z] [] [("hosts", v), ("within", w), ("first", z)] := bnd3 (by intro _ _ _; kernel_rfl)
theorem b_249 {v : MV} : Bnd P 249 [v] [] [("script", v)] := bnd1 (by intro _; kernel_rfl)
end Mine
end
section
open PySem PySem.W PyProof.Rows
namespace Mine
local macro_rules | `(tactic| array_get_dec) => `(tactic| ((try dsimp only); (repeat (first | exact get_new | with_reducible assumption | exact get_newAt (by first | with_reducible assumption | (simp only [List.length_append, List.length_cons, List.length_nil, List.length_set]; first | done | omega)) | refine get_app ?_ | exact get_set_lt (by first | with_reducible assumption | omega | (simp only [List.length_append, List.length_cons, List.length_nil, List.length_set]; first | done | omega)) | refine get_set ?_ (by first | with_reducible assumption | omega | (simp only [List.length_append, List.length_cons, List.length_nil, List.length_set]; first | done | omega)))); done))
local macro_rules | `(tactic| infer_instance) => `(tactic| first
  | refine W_cons ?_ | refine W_nil ?_ | refine X_Assign rfl ?_ | refine X_AssignC ?_ | refine X_AssignN rfl ?_ | refine X_Return ?_ | refine X_If ?_ | refine X_Try ?_ | refine X_Expr ?_ | refine A_local rfl ?_
  | refine E_local rfl rfl rfl ?_ | refine E_local rfl rfl (by repeat (first | with_reducible assumption | refine upd_ne rfl ?_ | dsimp only)) ?_ | refine E_cell rfl rfl rfl (by array_get_dec) ?_ | refine E_free rfl rfl rfl (by array_get_dec) ?_ | refine E_global rfl rfl rfl ?_ | refine E_Const ?_ | refine E_Bin ?_ | refine E_Meth rfl rfl rfl rfl ?_ | refine E_Call rfl rfl ?_
  | refine E_Slice ?_ | refine E_Sub rfl ?_ | refine E_Neg ?_ | refine E_Cmp rfl ?_ | refine WO_none ?_ | refine WO_some ?_ | refine WL_nil ?_ | refine WL_cons ?_ | refine WK_nil ?_ | refine WK_cons ?_
  | refine T_Cmp rfl ?_ | refine T_And ?_ | refine T_Or ?_ | refine T_Not ?_ | refine T_Search rfl rfl ?_ | refine T_Call rfl ?_ | refine T_Name ?_ | refine T_Meth rfl ?_
  | refine E_Tuple rfl rfl ?_ | refine E_List rfl rfl ?_ | refine A_tup2 rfl (items_tup get_new) (.inr rfl) ?_ | refine K_str ?_ | refine N_some rfl ?_ | refine M_find ?_ | refine C_ge ?_ | refine C_lt ?_ | refine C_eqs ?_ | refine C_is rfl ?_ | refine C_is (by with_reducible assumption) ?_ | refine B_add ?_ | refine B_sub ?_ | refine V_bool ?_ | refine M_starts ?_ | refine M_ends ?_
  | refine Q_int ?_ | refine Q_bool ?_ | refine Q_none ?_ | refine Q_str rfl ?_)
theorem findDot_lt {x : List Nat} (h : 0 ≤ findDot x) : (findDot x).toNat < x.length := by
  unfold findDot at *
  split at h
  · rename_i i hi
    have h1 := (List.findIdx?_eq_some_iff_getElem.mp hi).1
    exact h1
  · simp at h
/-- is the text of no address, not empty, its ends no dots -/
noncomputable def isHDN (h : List Nat) : Bool := !ipAt h && (!(h == []) && !(h[0]? == some 46 || h[h.length - 1]? == some 46))
noncomputable def localL : List Nat := [108, 111, 99, 97, 108]
noncomputable def reachL (h : List Nat) : List Nat :=
  if 0 ≤ findDot h then
    (if isHDN h = true ∧ (0 ≤ findDot (h.drop (findDot h + 1).toNat) ∨ h.drop (findDot h + 1).toNat = localL) then 46 :: h.drop (findDot h + 1).toNat else h)
  else h
variable (P : PP)
theorem liberal_W {S : MS} {h : List Nat} {k : Nat} (hl : h.length ≤ stopLen) {Q : MV → MS → Prop} (hQ : Q (.bool !ipAt h) S) : WC (TK P) (k + 6) (.glob (.ref 176)) [.str h] [] S Q := by
  refine C_fn0 (f_176 P) rfl (b_176 P) rfl ?_
  repeat infer_instance
  refine ⟨rfl, ?_⟩
  repeat infer_instance
  refine ⟨_, rfl, hl, B_if (fun hip => ?_) fun hip => ?_⟩
  · repeat infer_instance
    rw [hip] at hQ; exact hQ
  · repeat infer_instance
    rw [hip] at hQ; exact hQ
theorem is_HDN_W {S : MS} {h : List Nat} {k : Nat} (hl : h.length ≤ stopLen) {Q : MV → MS → Prop} (hQ : Q (.bool (isHDN h)) S) : WC (TK P) (k + 12) (.glob (.ref 169)) [.str h] [] S Q := by
  unfold isHDN at hQ
  refine C_fn0 (f_169 P) rfl (b_169 P) rfl ?_
  repeat infer_instance
  refine ⟨rfl, ?_⟩
  repeat infer_instance
  refine ⟨_, rfl, hl, B_if (fun hip => ?_) fun hip => ?_⟩
  · repeat infer_instance
    rw [hip] at hQ; exact hQ
  rw [hip] at hQ
  repeat infer_instance
  refine B_if (fun he => ?_) fun he => ?_
  · repeat infer_instance
    have he : (h == []) = true := he
    rw [he] at hQ; exact hQ
  have he : (h == []) = false := he
  rw [he] at hQ
  have hlen : 0 < h.length := List.length_pos_iff.mpr (by simpa using he)
  obtain ⟨c, hc⟩ : ∃ c, h[0]? = some c := ⟨_, List.getElem?_eq_getElem hlen⟩
  obtain ⟨d, hd⟩ : ∃ d, h[h.length - 1]? = some d := ⟨_, List.getElem?_eq_getElem (by exact llt [_, _] [.eq (.a (.v 0) (.n 1)) (.v 1)] [1] (.v 0) (.v 1) (by exact yes) (Nat.sub_add_cancel (lle [_] [.lt (.n 0) (.v 0)] [1] (.n 1) (.v 0) (by exact yes) hlen)))⟩
  rw [hc, hd] at hQ
  repeat infer_instance
  refine G_strIdx hl (by decide) hc ?_
  repeat infer_instance
  refine B_if (fun h1 => ?_) fun h1 => ?_
  · have h1 : ([c] == [46]) = true := h1
    refine B_if (fun _ => ?_) (fun hx => nomatch hx)
    repeat infer_instance
    rw [show (some c == some 46) = true by simpa using h1] at hQ
    exact hQ
  have h1 : ([c] == [46]) = false := h1
  rw [show (some c == some 46) = false by simpa using h1] at hQ
  repeat infer_instance
  refine G_strLast hl hd ?_
  repeat infer_instance
  refine B_if (fun h2 => ?_) fun h2 => ?_
  · have h2 : ([d] == [46]) = true := h2
    repeat infer_instance
    rw [show (some d == some 46) = true by simpa using h2] at hQ
    exact hQ
  · have h2 : ([d] == [46]) = false := h2
    repeat infer_instance
    rw [show (some d == some 46) = false by simpa using h2] at hQ
    exact hQ
theorem reach_W {S : MS} {h : List Nat} {k : Nat} (hl : h.length ≤ 4000) {Q : MV → MS → Prop} (hQ : Q (.str (reachL h)) S) : WC (TK P) (k + 30) (.glob (.ref 190)) [.str h] [] S Q := by
  have hl' : h.length ≤ stopLen := Nat.le_trans hl (by decide)
  unfold reachL at hQ
  refine C_fn0 (f_190 P) rfl (b_190 P) rfl ?_
  repeat infer_instance
  refine B_if (fun h1 => ?_) fun h1 => ?_
  · have h1 : 0 ≤ findDot h := of_decide_eq_true h1
    rw [if_pos h1] at hQ
    have hlt := findDot_lt h1
    repeat infer_instance
    refine S_from ⟨?_, ?_, hl'⟩ ?_
    · exact Int.add_nonneg h1 (by decide)
    · show (findDot h + 1).toNat ≤ h.length; rw [Int.toNat_add h1 (by decide)]; exact hlt
    repeat infer_instance
    refine is_HDN_W P hl' ?_
    repeat infer_instance
    refine B_if (fun h2 => ?_) fun h2 => ?_
    · repeat infer_instance
      have hlen : (46 :: h.drop (findDot h + 1).toNat).length ≤ stopLen := by
        rw [List.length_cons, List.length_drop]
        have : stopLen = 4096 := rfl
        exact lle [_, _, _] [.eq (.v 1) (.n 4096), .le (.v 2) (.n 4000), .le (.v 0) (.v 2)] [-1, 1, 1] (.a (.v 0) (.n 1)) (.v 1) (by exact yes) this hl (Nat.sub_le _ _)
      refine B_if (fun h3 => ?_) fun h3 => ?_
      · have h3 : 0 ≤ findDot (h.drop (findDot h + 1).toNat) := of_decide_eq_true h3
        rw [if_pos ⟨h2, .inl h3⟩] at hQ
        refine B_if (fun _ => ?_) (fun hx => nomatch hx)
        repeat infer_instance
        refine B_adds hlen ?_
        exact hQ
      · have h3 : ¬ 0 ≤ findDot (h.drop (findDot h + 1).toNat) := of_decide_eq_false h3
        repeat infer_instance
        refine B_if (fun h4 => ?_) fun h4 => ?_
        · have h4 : (h.drop (findDot h + 1).toNat == localL) = true := h4
          rw [if_pos ⟨h2, .inr (eq_of_beq h4)⟩] at hQ
          repeat infer_instance
          refine B_adds hlen ?_
          exact hQ
        · have h4 : (h.drop (findDot h + 1).toNat == localL) = false := h4
          rw [if_neg (by rintro ⟨_, h5 | h5⟩; exact h3 h5; rw [h5] at h4; simp at h4)] at hQ
          repeat infer_instance
          exact hQ
    · rw [if_neg (by rintro ⟨h5, _⟩; rw [h5] at h2; cases h2)] at hQ
      refine B_if (fun hx => nomatch hx) (fun _ => ?_)
      repeat infer_instance
      exact hQ
  · have h1 : ¬ 0 ≤ findDot h := of_decide_eq_false h1
    rw [if_neg h1] at hQ
    repeat infer_instance
    exact hQ
/-- does a user's domain match -/
noncomputable def udm (A B : List Nat) : Bool :=
  if !ipAt (lowL A) && !ipAt (lowL B) then (if [46].isPrefixOf (lowL B) then (lowL B).isSuffixOf (lowL A) else lowL A == lowL B) else lowL A == lowL B
variable (P : PP)
theorem udm_W {S : MS} {A B : List Nat} {k : Nat} (hA : isAsciiL A = true ∧ A.length ≤ stopLen) (hB : isAsciiL B = true ∧ B.length ≤ stopLen) {Q : MV → MS → Prop} (hQ : Q (.bool (udm A B)) S) :
    WC (TK P) (k + 20) (.glob (.ref 183)) [.str A, .str B] [] S Q := by
  have lA : (lowL A).length ≤ stopLen := by unfold lowL; rw [List.length_map]; exact hA.2
  have lB : (lowL B).length ≤ stopLen := by unfold lowL; rw [List.length_map]; exact hB.2
  unfold udm at hQ
  refine C_fn0 (f_183 P) rfl (b_183 P) rfl ?_
  repeat infer_instance
  refine M_lower hA ?_
  repeat infer_instance
  refine M_lower hB ?_
  repeat infer_instance
  refine liberal_W P lA ?_
  repeat infer_instance
  refine B_if (fun g1 => ?_) fun g1 => ?_
  · rw [g1] at hQ
    repeat infer_instance
    refine liberal_W P lB ?_
    repeat infer_instance
    refine B_if (fun g2 => ?_) fun g2 => ?_
    · have g2 : (!ipAt (lowL B)) = false := by simpa using g2
      rw [g2] at hQ
      repeat infer_instance
      refine B_if (fun g3 => ?_) fun g3 => ?_
      · have g3 : (lowL A == lowL B) = true := g3
        rw [g3] at hQ
        repeat infer_instance
        exact hQ
      · have g3 : (lowL A == lowL B) = false := g3
        rw [g3] at hQ
        repeat infer_instance
        exact hQ
    · have g2 : (!ipAt (lowL B)) = true := by simpa using g2
      rw [g2, if_pos (by rfl)] at hQ
      repeat infer_instance
      refine B_if (fun g3 => ?_) fun g3 => ?_
      · have g3' : [46].isPrefixOf (lowL B) = true := g3
        rw [if_pos g3'] at hQ
        repeat infer_instance
        refine B_if (fun g4 => ?_) fun g4 => ?_
        · rw [g4] at hQ
          repeat infer_instance
          exact hQ
        · rw [g4] at hQ
          repeat infer_instance
          refine B_if (fun hx => ?_) (fun _ => ?_)
          · rw [g3] at hx; exact nomatch hx
          · refine B_if (fun hx => nomatch hx) (fun _ => ?_)
            repeat infer_instance
            exact hQ
      · have g3' : [46].isPrefixOf (lowL B) = false := g3
        rw [if_neg (by rw [g3']; decide)] at hQ
        refine B_if (fun hx => nomatch hx) (fun _ => ?_)
        repeat infer_instance
        refine B_if (fun _ => ?_) (fun hx => ?_)
        · repeat infer_instance
          refine B_if (fun g4 => ?_) fun g4 => ?_
          · have g4 : (lowL A == lowL B) = true := g4
            rw [g4] at hQ
            repeat infer_instance
            exact hQ
          · have g4 : (lowL A == lowL B) = false := g4
            rw [g4] at hQ
            repeat infer_instance
            exact hQ
        · rw [g3] at hx; exact nomatch hx
  · rw [g1] at hQ
    refine B_if (fun _ => ?_) (fun hx => nomatch hx)
    repeat infer_instance
    refine B_if (fun g3 => ?_) fun g3 => ?_
    · have g3 : (lowL A == lowL B) = true := g3
      rw [g3] at hQ
      repeat infer_instance
      exact hQ
    · have g3 : (lowL A == lowL B) = false := g3
      rw [g3] at hQ
      repeat infer_instance
      exact hQ
noncomputable def optStr : Option (List Nat) → MV
  | some x => .str x
  | none => .none
/-- the name that is built -/
noncomputable def builtL (l e : Option (List Nat)) : List Nat := match e with
  | none => l.getD [67]
  | some y => l.getD [67] ++ 46 :: y
theorem built_W {S : MS} {v : MV} {sk : SK} {l e : Option (List Nat)} {k : Nat} (hs : itemsOf S v = some (sk, [optStr l, optStr e])) (hk : sk = .list ∨ sk = .tup) (hl : (builtL l e).length ≤ stopLen) {Q : MV → MS → Prop} (hQ : Q (.str (builtL l e)) S) :
    WC (TK P) (k + 20) (.glob (.ref 197)) [v] [] S Q := by
  refine C_fn0 (f_197 P) rfl (b_197 P) rfl ?_
  repeat infer_instance
  have hs' : ∀ loc cel, itemsOf { objs := S.objs, loc := loc, cel := cel } v = some (sk, [optStr l, optStr e]) := fun _ _ => hs
  refine A_pair rfl rfl (hs' _ _) hk ?_
  repeat infer_instance
  cases l with
  | none =>
    repeat infer_instance
    repeat infer_instance
    cases e with
    | none =>
      repeat infer_instance
      repeat infer_instance
      exact hQ
    | some y =>
      repeat infer_instance
      repeat infer_instance
      have hl' : ([67] ++ [46] ++ y).length ≤ stopLen := by simpa [builtL] using hl
      refine B_adds (show (([67] : List Nat) ++ [46]).length ≤ stopLen by decide) ?_
      repeat infer_instance
      refine B_adds hl' ?_
      exact hQ
  | some x =>
    repeat infer_instance
    repeat infer_instance
    cases e with
    | none =>
      repeat infer_instance
      repeat infer_instance
      exact hQ
    | some y =>
      repeat infer_instance
      repeat infer_instance
      have hl' : (x ++ [46] ++ y).length ≤ stopLen := by simpa [builtL] using hl
      refine B_adds (show (x ++ [46]).length ≤ stopLen by simp only [List.length_append] at hl' ⊢; exact lle [_, _, _, _] [.le (.a (.a (.v 0) (.v 1)) (.v 3)) (.v 2)] [1] (.a (.v 0) (.v 1)) (.v 2) (by exact yes) hl') ?_
      repeat infer_instance
      refine B_adds hl' ?_
      have : builtL (some x) (some y) = x ++ [46] ++ y := by simp [builtL]
      rw [this] at hQ
      exact hQ
theorem domain_W {S : MS} {j k : Nat} {b h : List Nat} (e : S.objs[j]? = some (.tup [.str b, .str h])) (hl : h.length ≤ 4000) {Q : MV → MS → Prop} (hQ : Q (.str (reachL h)) S) : WC (TK P) (k + 40) (.glob (.ref 216)) [.ref j] [] S Q := by
  refine C_fn0 (f_216 P) rfl (b_216 P) rfl ?_
  repeat infer_instance
  refine G_tup (by decide) (show _ = some (MO.tup [.str b, .str h]) from e) rfl ?_
  repeat infer_instance
  exact reach_W P hl hQ
noncomputable def ltM : MV → MV → Option Bool
  | .int x, .int y => some (decide (x < y))
  | .str x, .str y => some (decide (x < y))
  | _, _ => none
theorem C_ltM {G : Gd} {S : MS} {a b : MV} {r : Bool} {Q : QB} (e : ltM a b = some r) (h : Q r S) : PC G .Lt a b S Q := by
  cases a with
  | int x => cases b <;> first | (cases e; exact C_lt h) | cases e
  | str x => cases b <;> first | (cases e; exact C_lts h) | cases e
  | _ => cases e
/-- halving: the first place of those from lo below hi at which p fails, where p holds and then fails -/
noncomputable def bisP (p : Nat → Bool) : Nat → Nat → Nat → Nat
  | 0, lo, _ => lo
  | f + 1, lo, hi => if lo < hi then (if p ((lo + hi) / 2) then bisP p f ((lo + hi) / 2 + 1) hi else bisP p f lo ((lo + hi) / 2)) else lo
theorem sub_lt2 {a b c : Nat} (h : a < b + c) (hb : 0 < b) : a - c < b := by
  rcases Nat.lt_or_ge a c with hc | hc
  · rw [Nat.sub_eq_zero_of_le (Nat.le_of_lt hc)]; exact hb
  · exact Nat.sub_lt_right_of_lt_add hc h
theorem half1 {lo hi k : Nat} (h : hi - lo < 2 ^ (k + 1)) : hi - ((lo + hi) / 2 + 1) < 2 ^ k := by
  rw [Nat.pow_succ] at h
  have h1 : hi ≤ (hi - lo) + lo := sbl _ _
  have h2 : hi < 2 ^ k + ((lo + hi) / 2 + 1) := by omega
  exact sub_lt2 h2 (Nat.two_pow_pos k)
theorem half2 {lo hi k : Nat} (h : hi - lo < 2 ^ (k + 1)) : (lo + hi) / 2 - lo < 2 ^ k := by
  rw [Nat.pow_succ] at h
  have h1 : hi ≤ (hi - lo) + lo := sbl _ _
  have h2 : (lo + hi) / 2 < 2 ^ k + lo := by omega
  exact sub_lt2 h2 (Nat.two_pow_pos k)
theorem bisP_eq {p : Nat → Bool} {c : Nat} : ∀ {f lo hi : Nat}, (∀ i, lo ≤ i → i < hi → p i = decide (i < c)) → lo ≤ c → c ≤ hi → hi - lo < 2 ^ f → bisP p f lo hi = c
  | 0, lo, hi, _, h1, h2, h3 => by
    have : hi - lo < 1 := h3
    show lo = c
    exact leq [_, _, _, _] [.le (.v 0) (.v 1), .le (.v 1) (.v 2), .lt (.v 3) (.n 1), .le (.v 2) (.a (.v 3) (.v 0))] [1, 0, 0, 0] [0, 1, 1, 1] (.v 0) (.v 1) (by exact yes) (by exact yes) h1 h2 this (sbl _ _)
  | f + 1, lo, hi, hp, h1, h2, h3 => by
    unfold bisP
    split
    · rename_i hlt
      have hm := hp ((lo + hi) / 2) (by exact lle2 [_, _, _, _] [.lt (.v 0) (.v 2), .eq (.a (.m 2 (.v 1)) (.v 3)) (.a (.v 0) (.v 2)), .lt (.v 3) (.n 2)] [1, -1, 1] (.v 0) (.v 1) (by exact yes) hlt (Nat.div_add_mod _ 2) (Nat.mod_lt _ (by decide))) (by exact llt2 [_, _, _, _] [.lt (.v 2) (.v 1), .eq (.a (.m 2 (.v 0)) (.v 3)) (.a (.v 2) (.v 1))] [1, 1] (.v 0) (.v 1) (by exact yes) hlt (Nat.div_add_mod _ 2))
      rw [hm]
      have h4 : 2 ^ (f + 1) = 2 * 2 ^ f := by rw [Nat.pow_succ]; exact leq [_] [] [] [] (.w (.v 0) 2) (.m 2 (.v 0)) (by exact yes) (by exact yes)
      split
      · rename_i hc
        have hc : (lo + hi) / 2 < c := of_decide_eq_true hc
        exact bisP_eq (fun i g1 g2 => hp i (by exact lle [_, _, _, _, _] [.le (.a (.v 2) (.n 1)) (.v 1), .lt (.v 1) (.v 3), .eq (.a (.m 2 (.v 2)) (.v 4)) (.a (.v 0) (.v 3)), .lt (.v 4) (.n 2)] [2, 1, -1, 1] (.v 0) (.v 1) (by exact yes) g1 g2 (Nat.div_add_mod _ 2) (Nat.mod_lt _ (by decide))) g2) (by exact lle [_, _] [.lt (.v 0) (.v 1)] [1] (.a (.v 0) (.n 1)) (.v 1) (by exact yes) hc) h2 (half1 h3)
      · rename_i hc
        have hc : ¬ (lo + hi) / 2 < c := fun hx => hc (decide_eq_true hx)
        exact bisP_eq (fun i g1 g2 => hp i g1 (by exact llt [_, _, _, _, _] [.le (.v 2) (.v 0), .lt (.v 0) (.v 3), .eq (.a (.m 2 (.v 3)) (.v 4)) (.a (.v 2) (.v 1))] [1, 2, 1] (.v 0) (.v 1) (by exact yes) g1 g2 (Nat.div_add_mod _ 2))) h1 (by exact lle [_, _] [.le (.v 0) (.v 1)] [1] (.v 0) (.v 1) (by exact yes) (Nat.le_of_not_lt hc)) (half2 h3)
    · exact leq [_, _, _] [.le (.v 0) (.v 1), .le (.v 1) (.v 2), .le (.v 2) (.v 0)] [1, 0, 0] [0, 1, 1] (.v 0) (.v 1) (by exact yes) (by exact yes) h1 h2 (Nat.le_of_not_lt ‹¬lo < hi›)
variable (P : PP)
theorem half_eq (lo hi : Nat) : ((lo : Int) + (hi : Int)).fdiv 2 = (((lo + hi) / 2 : Nat) : Int) := by
  rw [Int.fdiv_eq_ediv_of_nonneg _ (by decide)]
  rfl
/-- where a search stands -/
structure BisSt (S₁ : MS) (a x kv : MV) (lo hi : Nat) (S : MS) : Prop where
  o : S.objs = S₁.objs
  a : S.loc "a" = some a
  x : S.loc "x" = some x
  lo : S.loc "lo" = some (.int lo)
  hi : S.loc "hi" = some (.int hi)
  key : S.loc "key" = some kv
theorem bisL_rest {S₁ : MS} {n : Nat} {a x kv : MV} {lo hi : Nat} {vs : List MV} {p : Nat → Bool} {Q : MFlow → MS → Prop} (B : BisSt S₁ a x kv lo hi S₁) (hle : hi ≤ vs.length) (hmax : hi - lo < 2 ^ 62)
    (hg : ∀ (i : Nat) v S' Q', vs[i]? = some v → S'.objs = S₁.objs → Q' v S' → PG (TK P) a (.int i) S' Q')
    (hkey : (kv = .none ∧ ∀ (i : Nat) v, vs[i]? = some v → ltM v x = some (p i)) ∨ (isNone kv = some false ∧ ∀ (i : Nat) v S' Q', vs[i]? = some v → S'.objs = S₁.objs → (∀ u, ltM u x = some (p i) → Q' u S') → WC (TK P) (n + 45) kv [v] [] S' Q'))
    (hQ : ∀ S₂, S₂.objs = S₁.objs → Q (.ret (.int (bisP p 63 lo hi))) S₂) : WB (TK P) (n + 50) ⟨scK P 74, 74⟩ ((bodyK P 74).drop 2) S₁ Q := by
  obtain ⟨_, ha, hx, hlo, hhi, hk⟩ := B
  refine W_cons (X_If (T_Cmp rfl (E_local rfl rfl hk (E_Const (Q_none ?_)))))
  have inv0 : ∃ f lo' hi' : Nat, 64 = f + 1 ∧ BisSt S₁ a x kv lo' hi' S₁ ∧ hi' ≤ hi ∧ bisP p f lo' hi' = bisP p 63 lo hi ∧ hi' - lo' < 2 ^ f := ⟨63, lo, hi, rfl, ⟨rfl, ha, hx, hlo, hhi, hk⟩, Nat.le_refl _, rfl, by exact llt [_] [.lt (.v 0) (.n 4611686018427387904)] [1] (.v 0) (.n 9223372036854775808) (by exact yes) hmax⟩
  have fin : ∀ S lo' hi' k, BisSt S₁ a x kv lo' hi' S → bisP p k lo' hi' = bisP p 63 lo hi → ¬ lo' < hi' → Q (.ret (.int lo')) S := fun S lo' hi' k B hb hn => by
    have e : bisP p k lo' hi' = lo' := by
      cases k with
      | zero => rfl
      | succ k => unfold bisP; rw [if_neg hn]
    have := hQ S B.o
    rw [← hb, e] at this
    exact this
  rcases hkey with ⟨rfl, hkey⟩ | ⟨hkn, hkey⟩
  · refine C_is rfl ?_
    refine W_cons (X_While (fun k S => ∃ f lo' hi' : Nat, k = f + 1 ∧ BisSt S₁ a x .none lo' hi' S ∧ hi' ≤ hi ∧ bisP p f lo' hi' = bisP p 63 lo hi ∧ hi' - lo' < 2 ^ f) inv0 (fun S h => ?_) fun k S h => ?_)
    · obtain ⟨f, _, _, h, _⟩ := h; cases h
    · obtain ⟨f, lo', hi', hkf, Bs, hih, hb, hd⟩ := h
      obtain ⟨ho, ga, gx, glo, ghi, gk⟩ := id Bs
      have hkf : k = f := by exact leq [_, _] [.eq (.a (.v 0) (.n 1)) (.a (.v 1) (.n 1))] [1] [-1] (.v 0) (.v 1) (by exact yes) (by exact yes) hkf
      subst hkf
      repeat infer_instance
      refine B_if (fun g => ?_) fun g => ?_
      · have g : lo' < hi' := Int.ofNat_lt.mp (of_decide_eq_true g)
        cases k with
        | zero => simp at hd; exact (lif [_, _, _] [.lt (.v 0) (.v 1), .eq (.v 2) (.n 0), .le (.v 1) (.a (.v 2) (.v 0))] [1, 1, 1] (by exact yes) g hd (sbl _ _)).elim
        | succ k =>
          have hm : (lo' + hi') / 2 < vs.length := by exact llt2 [_, _, _, _, _, _] [.le (.v 2) (.v 1), .le (.v 3) (.v 2), .lt (.v 4) (.v 3), .eq (.a (.m 2 (.v 0)) (.v 5)) (.a (.v 4) (.v 3))] [2, 2, 1, 1] (.v 0) (.v 1) (by exact yes) hle hih g (Nat.div_add_mod _ 2)
          repeat infer_instance
          refine B_half ?_
          rw [half_eq]
          repeat infer_instance
          refine hg _ _ _ _ (List.getElem?_eq_getElem hm) ho ?_
          repeat infer_instance
          refine C_ltM (hkey _ _ (List.getElem?_eq_getElem hm)) ?_
          have hb' : bisP p (k + 1) lo' hi' = if p ((lo' + hi') / 2) then bisP p k ((lo' + hi') / 2 + 1) hi' else bisP p k lo' ((lo' + hi') / 2) := by
            show (if lo' < hi' then _ else lo') = _
            rw [if_pos g]
          have h2 : 2 ^ (k + 1) = 2 * 2 ^ k := by rw [Nat.pow_succ]; exact leq [_] [] [] [] (.w (.v 0) 2) (.m 2 (.v 0)) (by exact yes) (by exact yes)
          refine B_if (fun g1 => ?_) fun g1 => ?_
          · repeat infer_instance
            rw [g1, if_pos rfl] at hb'
            exact ⟨k, (lo' + hi') / 2 + 1, hi', rfl, ⟨ho, ga, gx, rfl, ghi, gk⟩, hih, by rw [← hb', hb], half1 hd⟩
          · repeat infer_instance
            rw [g1, if_neg (by decide)] at hb'
            exact ⟨k, lo', (lo' + hi') / 2, rfl, ⟨ho, ga, gx, glo, rfl, gk⟩, by exact lle2 [_, _, _, _, _] [.le (.v 2) (.v 1), .lt (.v 3) (.v 2), .eq (.a (.m 2 (.v 0)) (.v 4)) (.a (.v 3) (.v 2))] [2, 1, 1] (.v 0) (.v 1) (by exact yes) hih g (Nat.div_add_mod _ 2), by rw [← hb', hb], half2 hd⟩
      · have g : ¬ lo' < hi' := fun hz => of_decide_eq_false g (Int.ofNat_lt.mpr hz)
        repeat infer_instance
        exact fin S lo' hi' k Bs hb g
  · refine C_is hkn ?_
    refine W_cons (X_While (fun k S => ∃ f lo' hi' : Nat, k = f + 1 ∧ BisSt S₁ a x kv lo' hi' S ∧ hi' ≤ hi ∧ bisP p f lo' hi' = bisP p 63 lo hi ∧ hi' - lo' < 2 ^ f) inv0 (fun S h => ?_) fun k S h => ?_)
    · obtain ⟨f, _, _, h, _⟩ := h; cases h
    · obtain ⟨f, lo', hi', hkf, Bs, hih, hb, hd⟩ := h
      obtain ⟨ho, ga, gx, glo, ghi, gk⟩ := id Bs
      have hkf : k = f := by exact leq [_, _] [.eq (.a (.v 0) (.n 1)) (.a (.v 1) (.n 1))] [1] [-1] (.v 0) (.v 1) (by exact yes) (by exact yes) hkf
      subst hkf
      repeat infer_instance
      refine B_if (fun g => ?_) fun g => ?_
      · have g : lo' < hi' := Int.ofNat_lt.mp (of_decide_eq_true g)
        cases k with
        | zero => simp at hd; exact (lif [_, _, _] [.lt (.v 0) (.v 1), .eq (.v 2) (.n 0), .le (.v 1) (.a (.v 2) (.v 0))] [1, 1, 1] (by exact yes) g hd (sbl _ _)).elim
        | succ k =>
          have hm : (lo' + hi') / 2 < vs.length := by exact llt2 [_, _, _, _, _, _] [.le (.v 2) (.v 1), .le (.v 3) (.v 2), .lt (.v 4) (.v 3), .eq (.a (.m 2 (.v 0)) (.v 5)) (.a (.v 4) (.v 3))] [2, 2, 1, 1] (.v 0) (.v 1) (by exact yes) hle hih g (Nat.div_add_mod _ 2)
          repeat infer_instance
          refine B_half ?_
          rw [half_eq]
          repeat infer_instance
          refine hg _ _ _ _ (List.getElem?_eq_getElem hm) ho ?_
          repeat infer_instance
          refine hkey _ _ _ _ (List.getElem?_eq_getElem hm) ho fun u hu => ?_
          repeat infer_instance
          refine C_ltM hu ?_
          have hb' : bisP p (k + 1) lo' hi' = if p ((lo' + hi') / 2) then bisP p k ((lo' + hi') / 2 + 1) hi' else bisP p k lo' ((lo' + hi') / 2) := by
            show (if lo' < hi' then _ else lo') = _
            rw [if_pos g]
          have h2 : 2 ^ (k + 1) = 2 * 2 ^ k := by rw [Nat.pow_succ]; exact leq [_] [] [] [] (.w (.v 0) 2) (.m 2 (.v 0)) (by exact yes) (by exact yes)
          refine B_if (fun g1 => ?_) fun g1 => ?_
          · repeat infer_instance
            rw [g1, if_pos rfl] at hb'
            exact ⟨k, (lo' + hi') / 2 + 1, hi', rfl, ⟨ho, ga, gx, rfl, ghi, gk⟩, hih, by rw [← hb', hb], half1 hd⟩
          · repeat infer_instance
            rw [g1, if_neg (by decide)] at hb'
            exact ⟨k, lo', (lo' + hi') / 2, rfl, ⟨ho, ga, gx, glo, rfl, gk⟩, by exact lle2 [_, _, _, _, _] [.le (.v 2) (.v 1), .lt (.v 3) (.v 2), .eq (.a (.m 2 (.v 0)) (.v 4)) (.a (.v 3) (.v 2))] [2, 1, 1] (.v 0) (.v 1) (by exact yes) hih g (Nat.div_add_mod _ 2), by rw [← hb', hb], half2 hd⟩
      · have g : ¬ lo' < hi' := fun hz => of_decide_eq_false g (Int.ofNat_lt.mpr hz)
        repeat infer_instance
        exact fin S lo' hi' k Bs hb g
theorem bisL_body {S₁ : MS} {n : Nat} {a x kv vhi : MV} {lo hi : Nat} {vs : List MV} {p : Nat → Bool} {Q : MFlow → MS → Prop} (ha : S₁.loc "a" = some a) (hx : S₁.loc "x" = some x) (hlo : S₁.loc "lo" = some (.int lo)) (hhi : S₁.loc "hi" = some vhi) (hk : S₁.loc "key" = some kv)
    (hv : vhi = .int hi ∨ (vhi = .none ∧ hi = vs.length ∧ ∀ S', S'.objs = S₁.objs → ∀ Q', Q' (.int vs.length) S' → PL (TK P) a S' Q')) (hle : hi ≤ vs.length) (hmax : hi - lo < 2 ^ 62)
    (hg : ∀ (i : Nat) v S' Q', vs[i]? = some v → S'.objs = S₁.objs → Q' v S' → PG (TK P) a (.int i) S' Q')
    (hkey : (kv = .none ∧ ∀ (i : Nat) v, vs[i]? = some v → ltM v x = some (p i)) ∨ (isNone kv = some false ∧ ∀ (i : Nat) v S' Q', vs[i]? = some v → S'.objs = S₁.objs → (∀ u, ltM u x = some (p i) → Q' u S') → WC (TK P) (n + 45) kv [v] [] S' Q'))
    (hQ : ∀ S₂, S₂.objs = S₁.objs → Q (.ret (.int (bisP p 63 lo hi))) S₂) : WB (TK P) (n + 50) ⟨scK P 74, 74⟩ (bodyK P 74) S₁ Q := by
  repeat infer_instance
  rcases hv with rfl | ⟨rfl, rfl, hlen⟩
  · refine C_is rfl (W_nil ?_)
    exact bisL_rest P ⟨rfl, ha, hx, hlo, hhi, hk⟩ hle hmax hg hkey hQ
  · repeat infer_instance
    refine C_len (hlen _ rfl _ (A_local rfl (W_nil ?_)))
    exact bisL_rest P (S₁ := { S₁ with loc := upd S₁.loc "hi" (.int vs.length) }) ⟨rfl, ha, hx, hlo, rfl, hk⟩ hle hmax hg hkey hQ
/-- what the row's items and its length give, for a list or a row of the own class -/
structure SeqAt (P : PP) (S : MS) (a : MV) (vs : List MV) : Prop where
  g : ∀ (i : Nat) v S' Q', vs[i]? = some v → S'.objs = S.objs → Q' v S' → PG (TK P) a (.int i) S' Q'
  len : vs.length ≤ 64
theorem seq_list {P : PP} {S : MS} {j : Nat} {vs : List MV} (e : S.objs[j]? = some (.list vs)) (hl : vs.length ≤ 64) : SeqAt P S (.ref j) vs :=
  ⟨fun i v S' Q' h1 h2 h3 => G_list ⟨by exact Int.natCast_nonneg _, by have := (List.getElem?_eq_some_iff.mp h1).1; exact Int.ofNat_le (n := 4096) |>.mpr (lle [_, _] [.le (.v 1) (.n 64), .lt (.v 0) (.v 1)] [1, 1] (.v 0) (.n 4096) (by exact yes) hl this)⟩ (by rw [h2]; exact e) h1 h3, hl⟩
theorem seq_acc {P : PP} {S : MS} {j d : Nat} {vs : List MV} (e : S.objs[j]? = some (.acc d vs)) (hl : vs.length ≤ 64) : SeqAt P S (.ref j) vs :=
  ⟨fun i v S' Q' h1 h2 h3 => G_acc ⟨by exact Int.natCast_nonneg _, by have := (List.getElem?_eq_some_iff.mp h1).1; exact Int.ofNat_le (n := 4096) |>.mpr (lle [_, _] [.le (.v 1) (.n 64), .lt (.v 0) (.v 1)] [1, 1] (.v 0) (.n 4096) (by exact yes) hl this)⟩ (by rw [h2]; exact e) h1 h3, hl⟩
/-- a plain list, no key -/
theorem bisL2 {S : MS} {k j : Nat} {x : MV} {vs : List MV} {p : Nat → Bool} {Q : MV → MS → Prop} (e : S.objs[j]? = some (.list vs)) (hl : vs.length ≤ 64) (hp : ∀ (i : Nat) v, vs[i]? = some v → ltM v x = some (p i)) (hQ : Q (.int (bisP p 63 0 vs.length)) S) :
    WC (TK P) (k + 51) (.glob (.ref 74)) [.ref j, x] [] S Q := by
  have sq := seq_list (P := P) e hl
  refine C_fn0 (f_74 P) rfl (k_74 P).b20 rfl ?_
  refine bisL_body P (a := .ref j) (x := x) (kv := .none) (vhi := .none) (lo := 0) (hi := vs.length) (vs := vs) (p := p) rfl rfl rfl rfl rfl (.inr ⟨rfl, rfl, fun S' h Q' hq => L_list (by rw [h]; exact e) (Nat.le_trans hl (by decide)) hq⟩) (Nat.le_refl _) (by exact llt [_, _] [.le (.v 1) (.n 64), .le (.v 0) (.v 1)] [1, 1] (.v 0) (.n 4611686018427387904) (by exact yes) hl (Nat.sub_le _ _)) sq.g (.inl ⟨rfl, hp⟩) fun S₂ ho => ?_
  show Q _ { objs := S₂.objs, loc := S.loc, cel := S.cel }
  rw [ho]; exact hQ
/-- by places and a key -/
theorem bisL5 {S : MS} {k : Nat} {a x kv : MV} {lo hi : Nat} {vs : List MV} {p : Nat → Bool} {Q : MV → MS → Prop} (sq : SeqAt P S a vs) (hle : hi ≤ vs.length) (hkn : isNone kv = some false)
    (hkey : ∀ (i : Nat) v S' Q', vs[i]? = some v → S'.objs = S.objs → (∀ u, ltM u x = some (p i) → Q' u S') → WC (TK P) (k + 45) kv [v] [] S' Q') (hQ : Q (.int (bisP p 63 lo hi)) S) :
    WC (TK P) (k + 51) (.glob (.ref 74)) [a, x, .int lo, .int hi] [("key", kv)] S Q := by
  have := sq.len
  refine C_fn0 (f_74 P) rfl (k_74 P).b41 rfl ?_
  refine bisL_body P (a := a) (x := x) (kv := kv) (vhi := .int hi) (lo := lo) (hi := hi) (vs := vs) (p := p) rfl rfl rfl rfl rfl (.inl rfl) hle (by exact llt [_, _, _] [.le (.v 1) (.v 2), .le (.v 2) (.n 64), .le (.v 0) (.v 1)] [1, 1, 1] (.v 0) (.n 4611686018427387904) (by exact yes) hle this (Nat.sub_le _ _)) sq.g (.inr ⟨hkn, hkey⟩) fun S₂ ho => ?_
  show Q _ { objs := S₂.objs, loc := S.loc, cel := S.cel }
  rw [ho]; exact hQ
/-- a plain list, no key, the places told, the end as None -/
theorem bisL4 {S : MS} {k j : Nat} {x : MV} {vs : List MV} {p : Nat → Bool} {Q : MV → MS → Prop} (e : S.objs[j]? = some (.list vs)) (hl : vs.length ≤ 64) (hp : ∀ (i : Nat) v, vs[i]? = some v → ltM v x = some (p i)) (hQ : Q (.int (bisP p 63 0 vs.length)) S) :
    WC (TK P) (k + 51) (.glob (.ref 74)) [.ref j, x, .int 0, .none] [] S Q := by
  have sq := seq_list (P := P) e hl
  refine C_fn0 (f_74 P) rfl (k_74 P).b40 rfl ?_
  refine bisL_body P (a := .ref j) (x := x) (kv := .none) (vhi := .none) (lo := 0) (hi := vs.length) (vs := vs) (p := p) rfl rfl rfl rfl rfl (.inr ⟨rfl, rfl, fun S' h Q' hq => L_list (by rw [h]; exact e) (Nat.le_trans hl (by decide)) hq⟩) (Nat.le_refl _) (by exact llt [_, _] [.le (.v 1) (.n 64), .le (.v 0) (.v 1)] [1, 1] (.v 0) (.n 4611686018427387904) (by exact yes) hl (Nat.sub_le _ _)) sq.g (.inl ⟨rfl, hp⟩) fun S₂ ho => ?_
  show Q _ { objs := S₂.objs, loc := S.loc, cel := S.cel }
  rw [ho]; exact hQ
variable (P : PP)
theorem bisR_rest {S₁ : MS} {n : Nat} {a x kv : MV} {lo hi : Nat} {vs : List MV} {p : Nat → Bool} {Q : MFlow → MS → Prop} (B : BisSt S₁ a x kv lo hi S₁) (hle : hi ≤ vs.length) (hmax : hi - lo < 2 ^ 62)
    (hg : ∀ (i : Nat) v S' Q', vs[i]? = some v → S'.objs = S₁.objs → Q' v S' → PG (TK P) a (.int i) S' Q')
    (hkey : (kv = .none ∧ ∀ (i : Nat) v, vs[i]? = some v → ltM x v = some (!p i)) ∨ (isNone kv = some false ∧ ∀ (i : Nat) v S' Q', vs[i]? = some v → S'.objs = S₁.objs → (∀ u, ltM x u = some (!p i) → Q' u S') → WC (TK P) (n + 45) kv [v] [] S' Q'))
    (hQ : ∀ S₂, S₂.objs = S₁.objs → Q (.ret (.int (bisP p 63 lo hi))) S₂) : WB (TK P) (n + 50) ⟨scK P 56, 56⟩ ((bodyK P 56).drop 2) S₁ Q := by
  obtain ⟨_, ha, hx, hlo, hhi, hk⟩ := B
  refine W_cons (X_If (T_Cmp rfl (E_local rfl rfl hk (E_Const (Q_none ?_)))))
  have inv0 : ∃ f lo' hi' : Nat, 64 = f + 1 ∧ BisSt S₁ a x kv lo' hi' S₁ ∧ hi' ≤ hi ∧ bisP p f lo' hi' = bisP p 63 lo hi ∧ hi' - lo' < 2 ^ f := ⟨63, lo, hi, rfl, ⟨rfl, ha, hx, hlo, hhi, hk⟩, Nat.le_refl _, rfl, by exact llt [_] [.lt (.v 0) (.n 4611686018427387904)] [1] (.v 0) (.n 9223372036854775808) (by exact yes) hmax⟩
  have fin : ∀ S lo' hi' k, BisSt S₁ a x kv lo' hi' S → bisP p k lo' hi' = bisP p 63 lo hi → ¬ lo' < hi' → Q (.ret (.int lo')) S := fun S lo' hi' k B hb hn => by
    have e : bisP p k lo' hi' = lo' := by
      cases k with
      | zero => rfl
      | succ k => unfold bisP; rw [if_neg hn]
    have := hQ S B.o
    rw [← hb, e] at this
    exact this
  rcases hkey with ⟨rfl, hkey⟩ | ⟨hkn, hkey⟩
  · refine C_is rfl ?_
    refine W_cons (X_While (fun k S => ∃ f lo' hi' : Nat, k = f + 1 ∧ BisSt S₁ a x .none lo' hi' S ∧ hi' ≤ hi ∧ bisP p f lo' hi' = bisP p 63 lo hi ∧ hi' - lo' < 2 ^ f) inv0 (fun S h => ?_) fun k S h => ?_)
    · obtain ⟨f, _, _, h, _⟩ := h; cases h
    · obtain ⟨f, lo', hi', hkf, Bs, hih, hb, hd⟩ := h
      obtain ⟨ho, ga, gx, glo, ghi, gk⟩ := id Bs
      have hkf : k = f := by exact leq [_, _] [.eq (.a (.v 0) (.n 1)) (.a (.v 1) (.n 1))] [1] [-1] (.v 0) (.v 1) (by exact yes) (by exact yes) hkf
      subst hkf
      repeat infer_instance
      refine B_if (fun g => ?_) fun g => ?_
      · have g : lo' < hi' := Int.ofNat_lt.mp (of_decide_eq_true g)
        cases k with
        | zero => simp at hd; exact (lif [_, _, _] [.lt (.v 0) (.v 1), .eq (.v 2) (.n 0), .le (.v 1) (.a (.v 2) (.v 0))] [1, 1, 1] (by exact yes) g hd (sbl _ _)).elim
        | succ k =>
          have hm : (lo' + hi') / 2 < vs.length := by exact llt2 [_, _, _, _, _, _] [.le (.v 2) (.v 1), .le (.v 3) (.v 2), .lt (.v 4) (.v 3), .eq (.a (.m 2 (.v 0)) (.v 5)) (.a (.v 4) (.v 3))] [2, 2, 1, 1] (.v 0) (.v 1) (by exact yes) hle hih g (Nat.div_add_mod _ 2)
          repeat infer_instance
          refine B_half ?_
          rw [half_eq]
          repeat infer_instance
          refine hg _ _ _ _ (List.getElem?_eq_getElem hm) ho ?_
          refine C_ltM (hkey _ _ (List.getElem?_eq_getElem hm)) ?_
          have hb' : bisP p (k + 1) lo' hi' = if p ((lo' + hi') / 2) then bisP p k ((lo' + hi') / 2 + 1) hi' else bisP p k lo' ((lo' + hi') / 2) := by
            show (if lo' < hi' then _ else lo') = _
            rw [if_pos g]
          have h2 : 2 ^ (k + 1) = 2 * 2 ^ k := by rw [Nat.pow_succ]; exact leq [_] [] [] [] (.w (.v 0) 2) (.m 2 (.v 0)) (by exact yes) (by exact yes)
          refine B_if (fun g1 => ?_) fun g1 => ?_
          · repeat infer_instance
            rw [show p ((lo' + hi') / 2) = false by simpa using g1, if_neg (by decide)] at hb'
            exact ⟨k, lo', (lo' + hi') / 2, rfl, ⟨ho, ga, gx, glo, rfl, gk⟩, by exact lle2 [_, _, _, _, _] [.le (.v 2) (.v 1), .lt (.v 3) (.v 2), .eq (.a (.m 2 (.v 0)) (.v 4)) (.a (.v 3) (.v 2))] [2, 1, 1] (.v 0) (.v 1) (by exact yes) hih g (Nat.div_add_mod _ 2), by rw [← hb', hb], half2 hd⟩
          · repeat infer_instance
            rw [show p ((lo' + hi') / 2) = true by simpa using g1, if_pos rfl] at hb'
            exact ⟨k, (lo' + hi') / 2 + 1, hi', rfl, ⟨ho, ga, gx, rfl, ghi, gk⟩, hih, by rw [← hb', hb], half1 hd⟩
      · have g : ¬ lo' < hi' := fun hz => of_decide_eq_false g (Int.ofNat_lt.mpr hz)
        repeat infer_instance
        exact fin S lo' hi' k Bs hb g
  · refine C_is hkn ?_
    refine W_cons (X_While (fun k S => ∃ f lo' hi' : Nat, k = f + 1 ∧ BisSt S₁ a x kv lo' hi' S ∧ hi' ≤ hi ∧ bisP p f lo' hi' = bisP p 63 lo hi ∧ hi' - lo' < 2 ^ f) inv0 (fun S h => ?_) fun k S h => ?_)
    · obtain ⟨f, _, _, h, _⟩ := h; cases h
    · obtain ⟨f, lo', hi', hkf, Bs, hih, hb, hd⟩ := h
      obtain ⟨ho, ga, gx, glo, ghi, gk⟩ := id Bs
      have hkf : k = f := by exact leq [_, _] [.eq (.a (.v 0) (.n 1)) (.a (.v 1) (.n 1))] [1] [-1] (.v 0) (.v 1) (by exact yes) (by exact yes) hkf
      subst hkf
      repeat infer_instance
      refine B_if (fun g => ?_) fun g => ?_
      · have g : lo' < hi' := Int.ofNat_lt.mp (of_decide_eq_true g)
        cases k with
        | zero => simp at hd; exact (lif [_, _, _] [.lt (.v 0) (.v 1), .eq (.v 2) (.n 0), .le (.v 1) (.a (.v 2) (.v 0))] [1, 1, 1] (by exact yes) g hd (sbl _ _)).elim
        | succ k =>
          have hm : (lo' + hi') / 2 < vs.length := by exact llt2 [_, _, _, _, _, _] [.le (.v 2) (.v 1), .le (.v 3) (.v 2), .lt (.v 4) (.v 3), .eq (.a (.m 2 (.v 0)) (.v 5)) (.a (.v 4) (.v 3))] [2, 2, 1, 1] (.v 0) (.v 1) (by exact yes) hle hih g (Nat.div_add_mod _ 2)
          repeat infer_instance
          refine B_half ?_
          rw [half_eq]
          repeat infer_instance
          refine hg _ _ _ _ (List.getElem?_eq_getElem hm) ho ?_
          repeat infer_instance
          refine hkey _ _ _ _ (List.getElem?_eq_getElem hm) ho fun u hu => ?_
          refine C_ltM hu ?_
          have hb' : bisP p (k + 1) lo' hi' = if p ((lo' + hi') / 2) then bisP p k ((lo' + hi') / 2 + 1) hi' else bisP p k lo' ((lo' + hi') / 2) := by
            show (if lo' < hi' then _ else lo') = _
            rw [if_pos g]
          have h2 : 2 ^ (k + 1) = 2 * 2 ^ k := by rw [Nat.pow_succ]; exact leq [_] [] [] [] (.w (.v 0) 2) (.m 2 (.v 0)) (by exact yes) (by exact yes)
          refine B_if (fun g1 => ?_) fun g1 => ?_
          · repeat infer_instance
            rw [show p ((lo' + hi') / 2) = false by simpa using g1, if_neg (by decide)] at hb'
            exact ⟨k, lo', (lo' + hi') / 2, rfl, ⟨ho, ga, gx, glo, rfl, gk⟩, by exact lle2 [_, _, _, _, _] [.le (.v 2) (.v 1), .lt (.v 3) (.v 2), .eq (.a (.m 2 (.v 0)) (.v 4)) (.a (.v 3) (.v 2))] [2, 1, 1] (.v 0) (.v 1) (by exact yes) hih g (Nat.div_add_mod _ 2), by rw [← hb', hb], half2 hd⟩
          · repeat infer_instance
            rw [show p ((lo' + hi') / 2) = true by simpa using g1, if_pos rfl] at hb'
            exact ⟨k, (lo' + hi') / 2 + 1, hi', rfl, ⟨ho, ga, gx, rfl, ghi, gk⟩, hih, by rw [← hb', hb], half1 hd⟩
      · have g : ¬ lo' < hi' := fun hz => of_decide_eq_false g (Int.ofNat_lt.mpr hz)
        repeat infer_instance
        exact fin S lo' hi' k Bs hb g
theorem bisR_body {S₁ : MS} {n : Nat} {a x kv vhi : MV} {lo hi : Nat} {vs : List MV} {p : Nat → Bool} {Q : MFlow → MS → Prop} (ha : S₁.loc "a" = some a) (hx : S₁.loc "x" = some x) (hlo : S₁.loc "lo" = some (.int lo)) (hhi : S₁.loc "hi" = some vhi) (hk : S₁.loc "key" = some kv)
    (hv : vhi = .int hi ∨ (vhi = .none ∧ hi = vs.length ∧ ∀ S', S'.objs = S₁.objs → ∀ Q', Q' (.int vs.length) S' → PL (TK P) a S' Q')) (hle : hi ≤ vs.length) (hmax : hi - lo < 2 ^ 62)
    (hg : ∀ (i : Nat) v S' Q', vs[i]? = some v → S'.objs = S₁.objs → Q' v S' → PG (TK P) a (.int i) S' Q')
    (hkey : (kv = .none ∧ ∀ (i : Nat) v, vs[i]? = some v → ltM x v = some (!p i)) ∨ (isNone kv = some false ∧ ∀ (i : Nat) v S' Q', vs[i]? = some v → S'.objs = S₁.objs → (∀ u, ltM x u = some (!p i) → Q' u S') → WC (TK P) (n + 45) kv [v] [] S' Q'))
    (hQ : ∀ S₂, S₂.objs = S₁.objs → Q (.ret (.int (bisP p 63 lo hi))) S₂) : WB (TK P) (n + 50) ⟨scK P 56, 56⟩ (bodyK P 56) S₁ Q := by
  repeat infer_instance
  rcases hv with rfl | ⟨rfl, rfl, hlen⟩
  · refine C_is rfl (W_nil ?_)
    exact bisR_rest P ⟨rfl, ha, hx, hlo, hhi, hk⟩ hle hmax hg hkey hQ
  · repeat infer_instance
    refine C_len (hlen _ rfl _ (A_local rfl (W_nil ?_)))
    exact bisR_rest P (S₁ := { S₁ with loc := upd S₁.loc "hi" (.int vs.length) }) ⟨rfl, ha, hx, hlo, rfl, hk⟩ hle hmax hg hkey hQ
/-- a plain list, no key -/
theorem bisR2 {S : MS} {k j : Nat} {x : MV} {vs : List MV} {p : Nat → Bool} {Q : MV → MS → Prop} (e : S.objs[j]? = some (.list vs)) (hl : vs.length ≤ 64) (hp : ∀ (i : Nat) v, vs[i]? = some v → ltM x v = some (!p i)) (hQ : Q (.int (bisP p 63 0 vs.length)) S) :
    WC (TK P) (k + 51) (.glob (.ref 56)) [.ref j, x] [] S Q := by
  have sq := seq_list (P := P) e hl
  refine C_fn0 (f_56 P) rfl (k_56 P).b20 rfl ?_
  refine bisR_body P (a := .ref j) (x := x) (kv := .none) (vhi := .none) (lo := 0) (hi := vs.length) (vs := vs) (p := p) rfl rfl rfl rfl rfl (.inr ⟨rfl, rfl, fun S' h Q' hq => L_list (by rw [h]; exact e) (Nat.le_trans hl (by decide)) hq⟩) (Nat.le_refl _) (by exact llt [_, _] [.le (.v 1) (.n 64), .le (.v 0) (.v 1)] [1, 1] (.v 0) (.n 4611686018427387904) (by exact yes) hl (Nat.sub_le _ _)) sq.g (.inl ⟨rfl, hp⟩) fun S₂ ho => ?_
  show Q _ { objs := S₂.objs, loc := S.loc, cel := S.cel }
  rw [ho]; exact hQ
/-- by places and a key -/
theorem bisR5 {S : MS} {k : Nat} {a x kv : MV} {lo hi : Nat} {vs : List MV} {p : Nat → Bool} {Q : MV → MS → Prop} (sq : SeqAt P S a vs) (hle : hi ≤ vs.length) (hkn : isNone kv = some false)
    (hkey : ∀ (i : Nat) v S' Q', vs[i]? = some v → S'.objs = S.objs → (∀ u, ltM x u = some (!p i) → Q' u S') → WC (TK P) (k + 45) kv [v] [] S' Q') (hQ : Q (.int (bisP p 63 lo hi)) S) :
    WC (TK P) (k + 51) (.glob (.ref 56)) [a, x, .int lo, .int hi] [("key", kv)] S Q := by
  have := sq.len
  refine C_fn0 (f_56 P) rfl (k_56 P).b41 rfl ?_
  refine bisR_body P (a := a) (x := x) (kv := kv) (vhi := .int hi) (lo := lo) (hi := hi) (vs := vs) (p := p) rfl rfl rfl rfl rfl (.inl rfl) hle (by exact llt [_, _, _] [.le (.v 1) (.v 2), .le (.v 2) (.n 64), .le (.v 0) (.v 1)] [1, 1, 1] (.v 0) (.n 4611686018427387904) (by exact yes) hle this (Nat.sub_le _ _)) sq.g (.inr ⟨hkn, hkey⟩) fun S₂ ho => ?_
  show Q _ { objs := S₂.objs, loc := S.loc, cel := S.cel }
  rw [ho]; exact hQ
/-- a plain list and a key, no places -/
theorem bisR3 {S : MS} {k j : Nat} {x kv : MV} {vs : List MV} {p : Nat → Bool} {Q : MV → MS → Prop} (e : S.objs[j]? = some (.list vs)) (hl : vs.length ≤ 64) (hkn : isNone kv = some false)
    (hkey : ∀ (i : Nat) v S' Q', vs[i]? = some v → S'.objs = S.objs → (∀ u, ltM x u = some (!p i) → Q' u S') → WC (TK P) (k + 45) kv [v] [] S' Q') (hQ : Q (.int (bisP p 63 0 vs.length)) S) :
    WC (TK P) (k + 51) (.glob (.ref 56)) [.ref j, x] [("key", kv)] S Q := by
  have sq := seq_list (P := P) e hl
  refine C_fn0 (f_56 P) rfl (k_56 P).b21 rfl ?_
  refine bisR_body P (a := .ref j) (x := x) (kv := kv) (vhi := .none) (lo := 0) (hi := vs.length) (vs := vs) (p := p) rfl rfl rfl rfl rfl (.inr ⟨rfl, rfl, fun S' h Q' hq => L_list (by rw [h]; exact e) (Nat.le_trans hl (by decide)) hq⟩) (Nat.le_refl _) (by exact llt [_, _] [.le (.v 1) (.n 64), .le (.v 0) (.v 1)] [1, 1] (.v 0) (.n 4611686018427387904) (by exact yes) hl (Nat.sub_le _ _)) sq.g (.inr ⟨hkn, hkey⟩) fun S₂ ho => ?_
  show Q _ { objs := S₂.objs, loc := S.loc, cel := S.cel }
  rw [ho]; exact hQ
theorem bisP_le {p : Nat → Bool} : ∀ {f lo hi : Nat}, lo ≤ hi → bisP p f lo hi ≤ hi ∧ lo ≤ bisP p f lo hi
  | 0, lo, hi, h => ⟨h, Nat.le_refl _⟩
  | f + 1, lo, hi, h => by
    unfold bisP
    split
    · split
      · have := bisP_le (p := p) (f := f) (lo := (lo + hi) / 2 + 1) (hi := hi) (by exact lle2 [_, _, _, _] [.lt (.v 2) (.v 1), .eq (.a (.m 2 (.v 0)) (.v 3)) (.a (.v 2) (.v 1))] [1, 1] (.a (.v 0) (.n 1)) (.v 1) (by exact yes) (‹lo < hi›) (Nat.div_add_mod _ 2)); exact ⟨lle [_, _] [.le (.v 0) (.v 1)] [1] (.v 0) (.v 1) (by exact yes) this.1, lle [_, _, _, _, _] [.le (.v 1) (.v 2), .le (.a (.v 3) (.n 1)) (.v 1), .eq (.a (.m 2 (.v 3)) (.v 4)) (.a (.v 0) (.v 2)), .lt (.v 4) (.n 2)] [1, 2, -1, 1] (.v 0) (.v 1) (by exact yes) this.1 this.2 (Nat.div_add_mod _ 2) (Nat.mod_lt _ (by decide))⟩
      · have := bisP_le (p := p) (f := f) (lo := lo) (hi := (lo + hi) / 2) (by exact lle2 [_, _, _, _] [.lt (.v 0) (.v 2), .eq (.a (.m 2 (.v 1)) (.v 3)) (.a (.v 0) (.v 2)), .lt (.v 3) (.n 2)] [1, -1, 1] (.v 0) (.v 1) (by exact yes) (‹lo < hi›) (Nat.div_add_mod _ 2) (Nat.mod_lt _ (by decide))); exact ⟨lle [_, _, _, _, _] [.le (.v 0) (.v 2), .le (.v 3) (.v 0), .eq (.a (.m 2 (.v 2)) (.v 4)) (.a (.v 3) (.v 1))] [2, 1, 1] (.v 0) (.v 1) (by exact yes) this.1 this.2 (Nat.div_add_mod _ 2), lle [_, _] [.le (.v 0) (.v 1)] [1] (.v 0) (.v 1) (by exact yes) this.2⟩
    · exact ⟨h, lle [_] [] [] (.v 0) (.v 0) (by exact yes)⟩
variable (P : PP)
/-- a value put into a plain list in its place -/
theorem insL2 {S : MS} {k j : Nat} {x : MV} {vs : List MV} {p : Nat → Bool} {Q : MV → MS → Prop} (e : S.objs[j]? = some (.list vs)) (hl : vs.length ≤ 64) (hp : ∀ (i : Nat) v, vs[i]? = some v → ltM v x = some (p i))
    (hQ : Q .none { S with objs := S.objs.set j (.list (insertAt (bisP p 63 0 vs.length) x vs)) }) : WC (TK P) (k + 70) (.glob (.ref 65)) [.ref j, x] [] S Q := by
  refine C_fn0 (f_65 P) rfl (k_65 P).b20 rfl ?_
  repeat infer_instance
  refine bisL4 P (show _ = some (MO.list vs) from e) hl hp ?_
  repeat infer_instance
  refine K_list (show _ = some (MO.list vs) from e) ?_
  repeat infer_instance
  refine M_insert (show _ = some (MO.list vs) from e) ⟨by exact Int.natCast_nonneg _, ?_, by exact llt [_] [.le (.v 0) (.n 64)] [1] (.v 0) (.n 4096) (by exact yes) hl⟩ ?_
  · exact (bisP_le (Nat.zero_le _)).1
  refine ⟨rfl, W_nil ?_⟩
  exact hQ
/-- a value put into a row of the own class in its place, by a key -/
theorem insL5 {S : MS} {k j d : Nat} {x X kv : MV} {vs : List MV} {p : Nat → Bool} {Q : MV → MS → Prop} {n0 : Int} (e : S.objs[j]? = some (.acc d vs)) (ed : S.objs[d]? = some (.dict [(sizeKey, .int n0)])) (hl : vs.length ≤ 64) (hkn : isNone kv = some false)
    (hX : ∀ S' Q', S'.objs = S.objs → Q' X S' → WC (TK P) (k + 65) kv [x] [] S' Q')
    (hkey : ∀ (i : Nat) v S' Q', vs[i]? = some v → S'.objs = S.objs → (∀ u, ltM u X = some (p i) → Q' u S') → WC (TK P) (k + 60) kv [v] [] S' Q')
    (hQ : Q .none { S with objs := S.objs.set j (.acc d (insertAt (bisP p 63 0 vs.length) x vs)) }) : WC (TK P) (k + 70) (.glob (.ref 65)) [.ref j, x, .int 0, .int vs.length] [("key", kv)] S Q := by
  have sq := seq_acc (P := P) e hl
  refine C_fn0 (f_65 P) rfl (k_65 P).b41 rfl ?_
  repeat infer_instance
  refine hX _ _ rfl ?_
  repeat infer_instance
  refine bisL5 P (lo := 0) (hi := vs.length) (vs := vs) (p := p) ⟨sq.g, sq.len⟩ (Nat.le_refl _) hkn hkey ?_
  repeat infer_instance
  refine K_acc (show _ = some (MO.acc d vs) from e) ed ?_
  repeat infer_instance
  refine M_ainsert (show _ = some (MO.acc d vs) from e) ⟨by exact Int.natCast_nonneg _, ?_, by exact llt [_] [.le (.v 0) (.n 64)] [1] (.v 0) (.n 4096) (by exact yes) hl⟩ ?_
  · exact (bisP_le (Nat.zero_le _)).1
  refine ⟨rfl, W_nil ?_⟩
  exact hQ
/-- a value put into a row of the own class in its place, by a key -/
theorem insR5 {S : MS} {k j d : Nat} {x X kv : MV} {vs : List MV} {p : Nat → Bool} {Q : MV → MS → Prop} {n0 : Int} (e : S.objs[j]? = some (.acc d vs)) (ed : S.objs[d]? = some (.dict [(sizeKey, .int n0)])) (hl : vs.length ≤ 64) (hkn : isNone kv = some false)
    (hX : ∀ S' Q', S'.objs = S.objs → Q' X S' → WC (TK P) (k + 65) kv [x] [] S' Q')
    (hkey : ∀ (i : Nat) v S' Q', vs[i]? = some v → S'.objs = S.objs → (∀ u, ltM X u = some (!p i) → Q' u S') → WC (TK P) (k + 60) kv [v] [] S' Q')
    (hQ : Q .none { S with objs := S.objs.set j (.acc d (insertAt (bisP p 63 0 vs.length) x vs)) }) : WC (TK P) (k + 70) (.glob (.ref 47)) [.ref j, x, .int 0, .int vs.length] [("key", kv)] S Q := by
  have sq := seq_acc (P := P) e hl
  refine C_fn0 (f_47 P) rfl (k_47 P).b41 rfl ?_
  repeat infer_instance
  refine hX _ _ rfl ?_
  repeat infer_instance
  refine bisR5 P (lo := 0) (hi := vs.length) (vs := vs) (p := p) ⟨sq.g, sq.len⟩ (Nat.le_refl _) hkn hkey ?_
  repeat infer_instance
  refine K_acc (show _ = some (MO.acc d vs) from e) ed ?_
  repeat infer_instance
  refine M_ainsert (show _ = some (MO.acc d vs) from e) ⟨by exact Int.natCast_nonneg _, ?_, by exact llt [_] [.le (.v 0) (.n 64)] [1] (.v 0) (.n 4096) (by exact yes) hl⟩ ?_
  · exact (bisP_le (Nat.zero_le _)).1
  refine ⟨rfl, W_nil ?_⟩
  exact hQ
theorem xor_add_and : ∀ a b : Nat, (a ^^^ b) + 2 * (a &&& b) = a + b := by
  intro a
  induction a using Nat.strongRecOn with
  | ind a ih =>
    intro b
    by_cases ha : a = 0
    · subst ha; simp
    · have h := ih (a / 2) (by exact llt2 [_, _, _] [.lt (.n 0) (.v 1), .eq (.a (.m 2 (.v 0)) (.v 2)) (.v 1)] [1, 1] (.v 0) (.v 1) (by exact yes) (Nat.pos_of_ne_zero ha) (Nat.div_add_mod _ 2)) (b / 2)
      have e1 : (a ^^^ b) / 2 = a / 2 ^^^ b / 2 := Nat.xor_div_two
      have e2 : (a &&& b) / 2 = a / 2 &&& b / 2 := Nat.and_div_two
      have e3 : (a ^^^ b) % 2 = (a % 2) ^^^ (b % 2) := by
        have := Nat.xor_mod_two_pow (a := a) (b := b) (n := 1)
        rwa [Nat.pow_one] at this
      have e4 : (a &&& b) % 2 = (a % 2) * (b % 2) := by
        have := Nat.and_mod_two_pow (a := a) (b := b) (n := 1)
        rw [Nat.pow_one] at this
        rw [this]
        rcases Nat.mod_two_eq_zero_or_one a with h1 | h1 <;> rcases Nat.mod_two_eq_zero_or_one b with h2 | h2 <;> rw [h1, h2] <;> rfl
      rw [← e1, ← e2] at h
      have e5 : (a ^^^ b) % 2 + 2 * ((a &&& b) % 2) = a % 2 + b % 2 := by
        rw [e3, e4]
        rcases Nat.mod_two_eq_zero_or_one a with h1 | h1 <;> rcases Nat.mod_two_eq_zero_or_one b with h2 | h2 <;> rw [h1, h2] <;> rfl
      exact leq [_, _, _, _, _, _, _, _, _, _, _, _] [.eq (.a (.v 4) (.m 2 (.v 5))) (.a (.v 6) (.v 7)), .eq (.a (.v 8) (.m 2 (.v 9))) (.a (.v 10) (.v 11)), .eq (.a (.m 2 (.v 4)) (.v 8)) (.v 0), .eq (.a (.m 2 (.v 5)) (.v 9)) (.v 1), .eq (.a (.m 2 (.v 6)) (.v 10)) (.v 2), .eq (.a (.m 2 (.v 7)) (.v 11)) (.v 3)] [2, 1, -1, -2, 1, 1] [-2, -1, 1, 2, -1, -1] (.a (.v 0) (.m 2 (.v 1))) (.a (.v 2) (.v 3)) (by exact yes) (by exact yes) h e5 (Nat.div_add_mod _ 2) (Nat.div_add_mod _ 2) (Nat.div_add_mod _ 2) (Nat.div_add_mod _ 2)
theorem bitXor_nat (a b : Nat) : Builtin.bitXor (a : Int) (b : Int) = ((a ^^^ b : Nat) : Int) := by
  rw [bitXor_and, bitAnd_pp (by exact Int.natCast_nonneg _) (by exact Int.natCast_nonneg _)]
  have := xor_add_and a b
  simp only [Int.toNat_natCast]
  omega
theorem B_xor {G : Gd} {S : MS} {a b : Nat} {Q : QE} (h : Q (.int ((a ^^^ b : Nat) : Int)) S) : PB G .BitXor (.int a) (.int b) S Q := by
  rw [← bitXor_nat] at h; exact B_xorI h
variable (P : PP)
/-- what the pieces are worth together: the blanks, by exclusive or -/
noncomputable def xorL (l : List (List Nat × List Nat)) : Nat := l.foldl (fun w p => w ^^^ p.1.length) 0
theorem together_W {S : MS} {j k : Nat} {vs : List MV} {l : List (List Nat × List Nat)} (e : S.objs[j]? = some (.list vs)) (hp : Pieces S.objs vs l) (hl : ∀ p ∈ l, p.1.length ≤ stopLen) {Q : MV → MS → Prop} (hQ : Q (.int (xorL l)) S) :
    WC (TK P) (k + 20) (.glob (.ref 223)) [.ref j] [] S Q := by
  refine C_fn0 (f_223 P) rfl (b_223 P) rfl ?_
  refine W_cons (X_Assign rfl (E_Const (Q_int (A_local rfl ?_))))
  refine W_cons (X_For rfl rfl (E_local rfl rfl rfl ⟨.list, vs, fun r S' => ∃ l' w, S'.objs = S.objs ∧ Pieces S.objs r l' ∧ (∀ p ∈ l', p.1.length ≤ stopLen) ∧ S'.loc "worth" = some (.int (w : Nat)) ∧ l'.foldl (fun w p => w ^^^ p.1.length) w = xorL l, ?_, ?_, ?_, ?_⟩))
  · exact items_list (show _ = some (MO.list vs) from e)
  · exact ⟨l, 0, rfl, hp, hl, rfl, rfl⟩
  · rintro v r S' ⟨l', w, ho, hp', hl', hw, hf⟩
    refine ⟨items_list (by rw [ho, e]), ?_⟩
    · obtain ⟨i, p, l', rfl, rfl, hi, hp'⟩ := hp'.uncons
      repeat infer_instance
      refine G_tup (by decide) (show _ = some (MO.tup [.str p.1, .str p.2]) by show S'.objs[i]? = _; rw [ho]; exact hi) rfl ?_
      repeat infer_instance
      refine C_len (L_str (hl' p (List.mem_cons_self ..)) ?_)
      refine B_xor ?_
      repeat infer_instance
      exact ⟨l', w ^^^ p.1.length, ho, hp', fun p hp => hl' p (List.mem_cons_of_mem _ hp), rfl, hf⟩
  · rintro S' ⟨l', w, ho, hp', hl', hw, hf⟩
    refine ⟨items_list (by rw [ho, e]), ?_⟩
    · cases hp'.unnil
      have hf : w = xorL l := hf
      subst hf
      repeat infer_instance
      show Q _ { objs := S'.objs, loc := S.loc, cel := S.cel }
      rw [ho]; exact hQ
theorem Pieces.get {objs : List MO} {vs : List MV} {l : List Pc} {i : Nat} {v : MV} (h : Pieces objs vs l) (hv : vs[i]? = some v) : ∃ r p, v = .ref r ∧ l[i]? = some p ∧ objs[r]? = some (.tup [.str p.1, .str p.2]) :=
  (pd_get h hv).elim fun p z => z.2.elim fun r z2 => ⟨r, p, z2.1, z.1, z2.2⟩
theorem Pieces.len {objs : List MO} {vs : List MV} {l : List Pc} (h : Pieces objs vs l) : vs.length = l.length := pd_len h
theorem Pieces.grow {objs ob : List MO} {vs : List MV} {l : List Pc} (h : Pieces objs vs l) : Pieces (objs ++ ob) vs l := pd_imp (fun _ _ z => z.elim fun i z => ⟨i, z.1, get_app z.2⟩) h
theorem Pieces.drop {objs : List MO} {vs : List MV} {l : List Pc} (k : Nat) (h : Pieces objs vs l) : Pieces objs (vs.drop k) (l.drop k) := pd_drop k h
theorem Pieces.take {objs : List MO} {vs : List MV} {l : List Pc} (k : Nat) (h : Pieces objs vs l) : Pieces objs (vs.take k) (l.take k) := pd_take k h
/-- where what hangs below a host begins, and where it ends -/
noncomputable def lowB (l : List (List Nat × List Nat)) (dom : List Nat) : Nat := bisP (fun i => decide (reachL (l.getD i ([], [])).2 < dom)) 63 0 l.length
noncomputable def highB (l : List (List Nat × List Nat)) (dom : List Nat) : Nat := bisP (fun i => !decide (dom < reachL (l.getD i ([], [])).2)) 63 (lowB l dom) l.length
variable (P : PP)
theorem getD_of {l : List (List Nat × List Nat)} {i : Nat} {p : List Nat × List Nat} (h : l[i]? = some p) : l.getD i ([], []) = p := by
  rw [List.getD_eq_getElem?_getD, h]; rfl
theorem below_W {S : MS} {j d k : Nat} {vs : List MV} {l : List (List Nat × List Nat)} {host : List Nat} {n0 : Int} (e : S.objs[j]? = some (.acc d vs)) (ed : S.objs[d]? = some (.dict [(sizeKey, .int n0)])) (hp : Pieces S.objs vs l) (hl : ∀ p ∈ l, p.2.length ≤ 4000) (hn : vs.length ≤ 64) (hh : host.length ≤ 4000) {Q : MV → MS → Prop}
    (hQ : Q (.ref S.objs.length) { S with objs := S.objs ++ [.list ((vs.drop (lowB l (46 :: host))).take (highB l (46 :: host) - lowB l (46 :: host)))] }) : WC (TK P) (k + 70) (.glob (.ref 237)) [.ref j, .str host] [] S Q := by
  have hlen := hp.len
  have hdom : ([46] ++ host).length ≤ stopLen := by
    have : stopLen = 4096 := rfl
    simp only [List.length_append, List.length_cons, List.length_nil]; exact lle [_, _] [.le (.v 0) (.n 4000), .eq (.v 1) (.n 4096)] [1, -1] (.a (.n 1) (.v 0)) (.v 1) (by exact yes) hh this
  refine C_fn0 (f_237 P) rfl (b_237 P) rfl ?_
  repeat infer_instance
  refine K_acc (show _ = some (MO.acc d vs) from e) ed ?_
  repeat infer_instance
  refine M_count (show _ = some (MO.acc d vs) from e) (Nat.le_trans hn (by decide)) ?_
  repeat infer_instance
  refine B_adds (show ([46] ++ host).length ≤ stopLen from hdom) ?_
  repeat infer_instance
  have keyL : ∀ (S₀ : MS), S₀.objs = S.objs → ∀ (f : Nat) (i : Nat) v S' (Q' : MV → MS → Prop), vs[i]? = some v → S'.objs = S₀.objs → (∀ u, ltM u (.str (46 :: host)) = some (decide (reachL (l.getD i ([], [])).2 < 46 :: host)) → Q' u S') → WC (TK P) (f + 40) (.glob (.ref 216)) [v] [] S' Q' := by
    intro S₀ h0 f i v S' Q' hv ho hq
    obtain ⟨r, p, rfl, h1, h2⟩ := hp.get hv
    refine domain_W P (b := p.1) (h := p.2) (by rw [ho, h0]; exact h2) (hl p (List.mem_of_getElem? h1)) (hq _ ?_)
    rw [getD_of h1]; rfl
  have keyR : ∀ (S₀ : MS), S₀.objs = S.objs → ∀ (f : Nat) (i : Nat) v S' (Q' : MV → MS → Prop), vs[i]? = some v → S'.objs = S₀.objs → (∀ u, ltM (.str (46 :: host)) u = some (!(!decide (46 :: host < reachL (l.getD i ([], [])).2))) → Q' u S') → WC (TK P) (f + 40) (.glob (.ref 216)) [v] [] S' Q' := by
    intro S₀ h0 f i v S' Q' hv ho hq
    obtain ⟨r, p, rfl, h1, h2⟩ := hp.get hv
    refine domain_W P (b := p.1) (h := p.2) (by rw [ho, h0]; exact h2) (hl p (List.mem_of_getElem? h1)) (hq _ ?_)
    rw [getD_of h1, Bool.not_not]; rfl
  refine bisL5 P (p := fun i => decide (reachL (l.getD i ([], [])).2 < 46 :: host)) (lo := 0) (hi := vs.length) (vs := vs) (seq_acc (show _ = some (MO.acc d vs) from e) hn) (Nat.le_refl _) rfl (fun i v S' Q' hv ho hq => keyL _ rfl _ i v S' Q' hv ho hq) ?_
  rw [show bisP (fun i => decide (reachL (l.getD i ([], [])).2 < 46 :: host)) 63 0 vs.length = lowB l (46 :: host) from by rw [hlen]; rfl]
  repeat infer_instance
  refine B_adds (show ([46] ++ host).length ≤ stopLen from hdom) ?_
  repeat infer_instance
  refine bisR5 P (p := fun i => !decide (46 :: host < reachL (l.getD i ([], [])).2)) (lo := lowB l (46 :: host)) (hi := vs.length) (vs := vs) (seq_acc (show _ = some (MO.acc d vs) from e) hn) (Nat.le_refl _) rfl (fun i v S' Q' hv ho hq => keyR _ rfl _ i v S' Q' hv ho hq) ?_
  rw [show bisP (fun i => !decide (46 :: host < reachL (l.getD i ([], [])).2)) 63 (lowB l (46 :: host)) vs.length = highB l (46 :: host) from by rw [hlen]; rfl]
  repeat infer_instance
  have hlow : lowB l (46 :: host) ≤ l.length := (bisP_le (Nat.zero_le _)).1
  have hhigh := bisP_le (p := fun i => !decide (46 :: host < reachL (l.getD i ([], [])).2)) (f := 63) (lo := lowB l (46 :: host)) (hi := l.length) hlow
  refine S_run (show _ = some (MO.acc d vs) from e) ⟨hhigh.2, by rw [hlen]; exact hhigh.1, Nat.le_trans hn (by decide)⟩ ?_
  exact hQ
theorem bind_cell1 {objs : List MO} {x : Str} {v : MV} {sc : Scope} (hk : nameKind sc x = some .cell := by rfl) : bindAll sc [(x, v)] { objs := objs ++ [x].map fun _ => .cell none, loc := emptyLoc, cel := celOf [x] objs.length } = some ((), { objs := objs ++ [.cell (some v)], loc := emptyLoc, cel := celOf [x] objs.length }) := by
  have h1 : celOf [x] objs.length x = some objs.length := by
    unfold celOf; simp [List.lookup]
  unfold bindAll bd storeC
  simp only [hk, List.map_cons, List.map_nil, h1, get_new]
  simp [bindAll, mret, List.set_append]
variable (P : PP)
/-- the least number that is lacking -/
noncomputable def lackL (l : List Nat) : Nat := bisP (fun i => !decide ((0 : Int) < (l.getD i 0 : Int) - (i : Int))) 63 0 l.length
theorem rng_get {n i : Nat} {v : MV} (h : (rngItems 0 (n : Int) 1)[i]? = some v) : v = .int (i : Int) ∧ i < n := by
  unfold rngItems at h
  rw [if_pos rfl, List.getElem?_map] at h
  have hi : i < n := by
    by_cases hc : i < n
    · exact hc
    · rw [List.getElem?_eq_none (by rw [List.length_range]; omega)] at h; cases h
  rw [List.getElem?_range (by omega)] at h
  simp at h
  exact ⟨h.symm, hi⟩
theorem rng_len (n : Nat) : (rngItems 0 (n : Int) 1).length = n := by
  unfold rngItems
  rw [if_pos rfl, List.length_map, List.length_range]; omega
theorem lacking_W {S : MS} {j k : Nat} {l : List Nat} (e : S.objs[j]? = some (.list (natL l))) (hl : l.length ≤ 64) {Q : MV → MS → Prop} (hQ : ∀ S', Keeps S S' → S'.loc = S.loc → S'.cel = S.cel → Q (.int (lackL l)) S') :
    WC (TK P) (k + 70) (.glob (.ref 230)) [.ref j] [] S Q := by
  have e1 : (S.objs ++ [MO.cell (some (.ref j))])[j]? = some (.list (natL l)) := get_app e
  have e2 : (S.objs ++ [MO.cell (some (.ref j))])[S.objs.length]? = some (.cell (some (.ref j))) := get_new
  have hlen : (natL l).length = l.length := by unfold natL; rw [List.length_map]
  refine C_fnc (l := ["seen"]) (bs := [("seen", .ref j)]) (S₁ := { objs := S.objs ++ [.cell (some (.ref j))], loc := emptyLoc, cel := celOf ["seen"] S.objs.length }) (f_230 P) rfl rfl (b_230 P) ?_ ?_
  · exact bind_cell1
  repeat infer_instance
  refine C_len (L_list e1 (by rw [hlen]; exact Nat.le_trans hl (by decide)) ?_)
  rw [hlen]
  repeat infer_instance
  refine C_range1 ⟨by exact Int.le_trans (by decide) (Int.natCast_nonneg _), by exact Int.ofNat_le (n := 1000) |>.mpr (lle [_] [.le (.v 0) (.n 64)] [1] (.v 0) (.n 1000) (by exact yes) hl)⟩ ?_
  repeat infer_instance
  refine C_list (get_new (o := MO.rng 0 l.length 1)) ⟨by decide, by decide, by exact Int.natCast_nonneg _, by exact Int.ofNat_le (n := 1000) |>.mpr (lle [_] [.le (.v 0) (.n 64)] [1] (.v 0) (.n 1000) (by exact yes) hl)⟩ ?_
  repeat infer_instance
  refine E_Lam rfl rfl ?_
  repeat infer_instance
  refine bisR3 P (vs := rngItems 0 l.length 1) (p := fun i => !decide ((0 : Int) < (l.getD i 0 : Int) - (i : Int))) (get_app get_new) (by rw [rng_len]; exact hl) rfl (fun i v S' Q' hv ho hq => ?_) ?_
  · obtain ⟨rfl, hi⟩ := rng_get hv
    refine C_clo (by rw [ho]; exact get_new) rfl (fun _ _ _ _ _ _ _ _ => rfl) ?_
    have e3 : S'.objs[S.objs.length]? = some (.cell (some (.ref j))) := by rw [ho]; exact get_app (get_app (get_app e2))
    have e4 : S'.objs[j]? = some (.list (natL l)) := by rw [ho]; exact get_app (get_app (get_app e1))
    repeat infer_instance
    refine G_list (show (0 : Int) ≤ (i : Int) ∧ (i : Int) ≤ 4096 by exact ix (lle [_, _] [.le (.v 1) (.n 64), .lt (.v 0) (.v 1)] [1, 1] (.v 0) (.n 4096) (by exact yes) hl hi)) e4 (v := .int (l.getD i 0 : Nat)) ?_ ?_
    · unfold natL
      rw [Int.toNat_natCast, List.getElem?_map, List.getD_eq_getElem?_getD, List.getElem?_eq_getElem hi]; rfl
    repeat infer_instance
    refine hq _ ?_
    rw [Bool.not_not]; rfl
  · rw [rng_len]
    exact hQ _ (keeps_app rfl |>.trans (keeps_app rfl) |>.trans (keeps_app rfl) |>.trans (keeps_app rfl)) rfl rfl
/-- one round: who is black, how many of the whites hang below nobody -/
noncomputable def roundL (anc : Nat → List Nat) (places : List Nat) : List Nat → List Nat × Nat → List Nat × Nat
  | [], bf => bf
  | k :: r, (black, free) =>
    if black.contains k then roundL anc places r (black, free)
    else match (anc k).filter (places.contains ·) with
      | [] => roundL anc places r (black, free + 1)
      | o :: _ => roundL anc places r (black ++ [o], free)
theorem roundL_cons (anc : Nat → List Nat) (places : List Nat) (k : Nat) (r black : List Nat) (free : Nat) : roundL anc places (k :: r) (black, free) =
    if black.contains k then roundL anc places r (black, free)
    else match (anc k).filter (places.contains ·) with
      | [] => roundL anc places r (black, free + 1)
      | o :: _ => roundL anc places r (black ++ [o], free) := rfl
/-- the whites' number, round by round -/
noncomputable def whitesF (anc : Nat → List Nat) : Nat → List Nat → Nat → Nat → Option Nat
  | 0, _, _, _ => none
  | f + 1, places, worth, weight =>
    if places == [] then some worth
    else if weight < 2 ^ 59 then
      whitesF anc f (places.filter ((roundL anc places places.reverse ([], 0)).1.contains ·)) (worth + weight * ((roundL anc places places.reverse ([], 0)).2 % 2)) (weight * 2)
    else none
variable (P : PP)
/-- the rows of those above -/
noncomputable def Rows (objs : List MO) (a : Nat) (anc : Nat → List Nat) : Prop := ∃ rs : List Nat, objs[a]? = some (.list (rs.map .ref)) ∧ rs.length = 7 ∧ ∀ k, k < 7 → ∃ r, rs[k]? = some r ∧ objs[r]? = some (.list (natL (anc k))) ∧ (anc k).length ≤ 7
/-- how the count stands -/
structure WhS (S₀ : MS) (a : Nat) (places : List Nat) (jp : Nat) (worth weight : Nat) (S' : MS) : Prop where
  a1 : Keeps S₀ S'
  a2 : S'.cel = celOf ["places", "black"] S₀.objs.length
  a3 : S'.objs[S₀.objs.length]? = some (.cell (some (.ref jp)))
  a4 : S'.objs[jp]? = some (.list (natL places))
  a5 : (∃ o, S'.objs[S₀.objs.length + 1]? = some (.cell o))
  a6 : S'.loc "above" = some (.ref a)
  a7 : S'.loc "worth" = some (.int (worth : Nat))
  a8 : S'.loc "weight" = some (.int (weight : Nat))
structure WhR (anc : Nat → List Nat) (lc : List Nat) (S : MS) (a jp : Nat) (worth weight : Nat) (jb jr : Nat) (lr black : List Nat) (free : Nat) (r : List MV) (S'' : MS) : Prop where
  a1 : r = natL lr
  a2 : roundL anc lc lr (black, free) = roundL anc lc lc.reverse ([], 0)
  a3 : (∀ x ∈ lr, x < 7)
  a4 : black.length + lr.length ≤ 7
  a5 : WhS S a lc jp worth weight S''
  a6 : S''.objs[S.objs.length + 1]? = some (.cell (some (.ref jb)))
  a7 : S''.objs[jb]? = some (.list (natL black))
  a8 : S''.objs[jr]? = some (.list (natL lc.reverse))
  a9 : S''.loc "free" = some (.int (free : Nat))
theorem whites_W {S : MS} {j a k w : Nat} {l : List Nat} {anc : Nat → List Nat} (e : S.objs[j]? = some (.list (natL l))) (ea : Rows S.objs a anc) (hl : l.length ≤ 7 ∧ ∀ x ∈ l, x < 7) (hw : whitesF anc 64 l 0 1 = some w) {Q : MV → MS → Prop} (hQ : ∀ S', Keeps S S' → S'.loc = S.loc → S'.cel = S.cel → Q (.int w) S') :
    WC (TK P) (k + 70) (.glob (.ref 209)) [.ref j, .ref a] [] S Q := by
  refine C_fnc (l := ["places", "black"]) (bs := [("places", .ref j), ("above", .ref a)]) (S₁ := { objs := S.objs ++ [.cell (some (.ref j)), .cell none], loc := upd emptyLoc "above" (.ref a), cel := celOf ["places", "black"] S.objs.length }) (f_209 P) rfl rfl (b_209 P) ?_ ?_
  · have h1 : celOf ["places", "black"] S.objs.length "places" = some S.objs.length := celOf2_1
    have h2 : (S.objs ++ [MO.cell none, .cell none])[S.objs.length]? = some (.cell none) := by simp
    have h3 : nameKind (scK P 209) "places" = some .cell := rfl
    have h4 : nameKind (scK P 209) "above" = some .local := rfl
    simp only [bindAll, bd, storeC, storeM, h3, h4, List.map_cons, List.map_nil, h1, h2, mret]
    simp [List.set_append]
  have e1 : (S.objs ++ [MO.cell (some (.ref j)), .cell none])[j]? = some (.list (natL l)) := get_app e
  have e2 : (S.objs ++ [MO.cell (some (.ref j)), .cell none])[S.objs.length]? = some (.cell (some (.ref j))) := by simp
  have e3 : (S.objs ++ [MO.cell (some (.ref j)), .cell none])[S.objs.length + 1]? = some (.cell none) := by simp
  repeat infer_instance
  refine X_While (fun kk S' => ∃ lc worth weight jp, whitesF anc kk lc worth weight = some w ∧ (lc.length ≤ 7 ∧ ∀ x ∈ lc, x < 7) ∧ WhS S a lc jp worth weight S') ?_ (fun S' h => ?_) fun kk S' h => ?_
  · exact ⟨l, 0, 1, j, hw, hl, fun i o h => get_app (get_app h), rfl, by array_get_dec, by array_get_dec, ⟨_, by array_get_dec⟩, rfl, rfl, rfl⟩
  · obtain ⟨_, _, _, _, h, _⟩ := h
    cases h
  · obtain ⟨lc, worth, weight, jp, hwf, hlc, hk, hc, c1, c2, ⟨ob, c3⟩, l1, l2, l3⟩ := h
    obtain ⟨objs, loc, cel⟩ := S'
    have hc : cel = celOf ["places", "black"] S.objs.length := hc
    subst hc
    dsimp only at c1 c2 c3 l1 l2 l3
    repeat infer_instance
    refine C_ne0 (by array_get_dec) (by array_get_dec) ?_
    refine B_if (fun g => ?_) fun g => ?_
    · have g : ¬ lc = [] := by rintro rfl; cases g
      have hlr : (natL lc).reverse = natL lc.reverse := by unfold natL; rw [List.map_reverse]
      repeat infer_instance
      try dsimp only
      refine A_cell rfl (by rfl) (by array_get_dec) ?_
      have hjp : jp ≠ S.objs.length + 1 := by rintro rfl; rw [c2] at c3; cases c3
      have n1 := get_lt c3
      have n2 := get_lt c2
      repeat infer_instance
      try dsimp only
      refine X_For rfl rfl (E_Slice (E_cell rfl rfl rfl (by array_get_dec) (WO_none (WO_none (WO_some (E_Neg (S_rev (by array_get_dec) ?_ ?_)))))))
      · unfold natL; rw [List.length_map]; exact Nat.le_trans hlc.1 (by decide)
      try dsimp only
      obtain ⟨jb, hjb⟩ : ∃ x, x = (objs ++ [MO.list []]).length := ⟨_, rfl⟩
      rw [← hjb]
      obtain ⟨jr, hjr⟩ : ∃ x, x = ((objs ++ [MO.list []] ++ [MO.list []] ++ [MO.tup [MV.ref jb, MV.int 0]]).set (S.objs.length + 1) (MO.cell (some (MV.ref jb)))).length := ⟨_, rfl⟩
      rw [← hjr, hlr]
      simp only [List.length_append, List.length_cons, List.length_nil, List.length_set] at hjb hjr
      refine ⟨.list, natL lc.reverse, fun r S'' => ∃ lr black free, WhR anc lc S a jp worth weight jb jr lr black free r S'', ?_, ?_, ?_, ?_⟩
      · refine items_list ?_
        array_get_dec
      · refine ⟨lc.reverse, [], 0, rfl, rfl, fun x hx => hlc.2 x (List.mem_reverse.mp hx), by simpa using hlc.1, ⟨fun i o h => ?_, rfl, ?_, ?_, ⟨some (.ref jb), ?_⟩, l1, l2, l3⟩, ?_, ?_, ?_, rfl⟩
        · exact get_app (get_set (get_app (get_app (get_app (hk i o h)))) (by have := get_lt h; exact fun hz => lif [_, _] [.eq (.v 0) (.a (.v 1) (.n 1)), .lt (.v 0) (.v 1)] [-1, 1] (by exact yes) hz this))
        all_goals array_get_dec
      · rintro v r S'' ⟨lr, black, free, hr, hrl, hb7, hbl, ⟨hk', hc', d1, d2, ⟨ob', d3⟩, f1, f2, f3⟩, d4, d5, d6, f4⟩
        obtain ⟨objs', loc', cel'⟩ := S''
        have hc' : cel' = celOf ["places", "black"] S.objs.length := hc'
        subst hc'
        dsimp only at d1 d2 d3 d4 d5 d6 f1 f2 f3 f4
        refine ⟨items_list d6, ?_⟩
        cases lr with
        | nil => cases hr
        | cons x lr =>
        have hr1 : v = .int (x : Nat) ∧ r = natL lr := by
          have := hr; unfold natL at this; rw [List.map_cons] at this; cases this; exact ⟨rfl, rfl⟩
        obtain ⟨rfl, rfl⟩ := hr1
        have hx7 : x < 7 := hb7 x (List.mem_cons_self ..)
        obtain ⟨rs, hrs, hrl7, hrow⟩ := ea
        obtain ⟨rx, hrx, hrow, hlen7⟩ := hrow x hx7
        have d7 : objs'[a]? = some (.list (rs.map .ref)) := hk' _ _ hrs
        have d8 : objs'[rx]? = some (.list (natL (anc x))) := hk' _ _ hrow
        repeat infer_instance
        refine C_notIn (by array_get_dec) (B_if (fun gb => ?_) fun gb => ?_)
        · have gb : black.contains x = false := by simpa using gb
          refine W_cons (X_AssignC (E_Comp1 rfl rfl ?_))
          refine E_Sub rfl (E_local rfl rfl f1 (E_local rfl rfl rfl (G_list (by exact ix (lle [_] [.lt (.v 0) (.n 7)] [1] (.v 0) (.n 4096) (by exact yes) hx7)) (by array_get_dec) (v := .ref rx) ?_ ?_)))
          · rw [Int.toNat_natCast, List.getElem?_map, hrx]; rfl
          try dsimp only
          refine ⟨.list, natL (anc x), fun r out S3 => ∃ l2 o2, r = natL l2 ∧ out = natL o2 ∧ o2 ++ l2.filter (lc.contains ·) = (anc x).filter (lc.contains ·) ∧ S3.objs = objs' ∧ S3.cel = fun y => List.lookup y [(("places" : Str), S.objs.length)], items_list d8, .inl rfl, ?_, ⟨anc x, [], rfl, rfl, rfl, rfl, rfl⟩, ?_, ?_⟩
          · unfold natL; rw [List.length_map]; exact Nat.le_trans hlen7 (by decide)
          · rintro v r out ⟨objs3, loc3, cel3⟩ ⟨l2, o2, e4, e5, e6, e7, e8⟩
            have e7 : objs3 = objs' := e7
            have e8 : cel3 = _ := e8
            subst e7 e8 e5
            refine ⟨items_list d8, ?_⟩
            cases l2 with
            | nil => cases e4
            | cons y l2 =>
            have hr1 : v = .int (y : Nat) ∧ r = natL l2 := by
              have := e4; unfold natL at this; rw [List.map_cons] at this; cases this; exact ⟨rfl, rfl⟩
            obtain ⟨rfl, rfl⟩ := hr1
            repeat infer_instance
            refine C_in (by array_get_dec) (B_if (fun gy => ?_) fun gy => ?_)
            · repeat infer_instance
              refine ⟨l2, o2 ++ [y], rfl, by unfold natL; rw [List.map_append]; rfl, ?_, rfl, rfl⟩
              rw [List.filter_cons_of_pos gy] at e6
              rw [← e6, List.append_assoc]; rfl
            · refine ⟨l2, o2, rfl, rfl, ?_, rfl, rfl⟩
              rw [List.filter_cons_of_neg (by rw [gy]; decide)] at e6
              exact e6
          · rintro out ⟨objs3, loc3, cel3⟩ ⟨l2, o2, e4, e5, e6, e7, e8⟩
            have e7 : objs3 = objs' := e7
            have e8 : cel3 = _ := e8
            subst e7 e8 e5
            refine ⟨items_list d8, ?_⟩
            have e4 : l2 = [] := by
              cases l2 with
              | nil => rfl
              | cons _ _ => cases e4
            subst e4
            rw [List.filter_nil, List.append_nil] at e6
            subst e6
            try dsimp only
            have hrl' := (roundL_cons anc lc x lr black free).symm.trans hrl
            rw [if_neg (by rw [gb]; decide)] at hrl'
            have hb8 : ∀ y ∈ lr, y < 7 := fun y hy => hb7 y (List.mem_cons_of_mem _ hy)
            have hbl' : black.length + (lr.length + 1) ≤ 7 := hbl
            have n3 := get_lt d3
            have n4 := get_lt d1
            have n5 := get_lt d2
            have n6 := get_lt d5
            have n7 := get_lt d6
            repeat infer_instance
            refine C_eq0 (by array_get_dec) (by array_get_dec) (B_if (fun go => ?_) fun go => ?_)
            · have go : (anc x).filter (lc.contains ·) = [] := by
                cases hf : (anc x).filter (lc.contains ·) with
                | nil => rfl
                | cons _ _ => rw [hf] at go; cases go
              rw [go] at hrl'
              repeat infer_instance
              refine X_AugL rfl f4 (E_Const (Q_int ⟨_, rfl, I_add ?_⟩))
              repeat infer_instance
              try dsimp only
              refine ⟨lr, black, free + 1, rfl, hrl', hb8, by exact lle [_, _] [.le (.a (.v 0) (.a (.v 1) (.n 1))) (.n 7)] [1] (.a (.v 0) (.v 1)) (.n 7) (by exact yes) hbl', ⟨fun i o h => get_app (get_app (hk' i o h)), rfl, ?_, ?_, ⟨some (.ref jb), ?_⟩, f1, f2, f3⟩, ?_, ?_, ?_, rfl⟩
              all_goals array_get_dec
            · obtain ⟨o, ro, hf⟩ : ∃ o ro, (anc x).filter (lc.contains ·) = o :: ro := by
                cases hf : (anc x).filter (lc.contains ·) with
                | nil => rw [hf] at go; cases go
                | cons o ro => exact ⟨o, ro, rfl⟩
              rw [hf] at hrl'
              have hjbp : jp ≠ jb := by exact fun hz => lif [_, _, _] [.eq (.v 0) (.v 1), .lt (.v 0) (.v 2), .eq (.v 1) (.a (.v 2) (.n 1))] [-1, 1, -1] (by exact yes) hz n2 hjb
              have hjbr : jr ≠ jb := by exact fun hz => lif [_, _, _] [.eq (.v 0) (.v 1), .eq (.v 1) (.a (.v 2) (.n 1)), .eq (.v 0) (.a (.a (.a (.v 2) (.n 1)) (.n 1)) (.n 1))] [1, 1, -1] (by exact yes) hz hjb hjr
              repeat infer_instance
              refine K_list (by array_get_dec) ?_
              repeat infer_instance
              refine G_list (by decide) (by array_get_dec) (v := .int (o : Nat)) (by rw [hf]; rfl) ?_
              repeat infer_instance
              refine M_append (by array_get_dec) (by unfold natL; rw [List.length_map]; exact llt [_, _] [.le (.a (.v 0) (.a (.v 1) (.n 1))) (.n 7)] [1] (.v 0) (.n 4096) (by exact yes) hbl') ⟨rfl, ?_⟩
              repeat infer_instance
              try dsimp only
              refine ⟨lr, black ++ [o], free, rfl, hrl', hb8, by simp; exact lle [_, _] [.le (.a (.v 0) (.a (.v 1) (.n 1))) (.n 7)] [1] (.a (.a (.v 0) (.n 1)) (.v 1)) (.n 7) (by exact yes) hbl', ⟨fun i o h => ?_, rfl, ?_, ?_, ⟨some (.ref jb), ?_⟩, f1, f2, f3⟩, ?_, ?_, ?_, f4⟩
              · exact get_set (get_app (get_app (hk' i o h))) (by have := get_lt h; exact fun hz => lif [_, _, _, _] [.eq (.v 0) (.v 1), .lt (.a (.v 2) (.n 1)) (.v 3), .eq (.v 1) (.a (.v 3) (.n 1)), .lt (.v 0) (.v 2)] [-1, 1, -1, 1] (by exact yes) hz n1 hjb this)
              · array_get_dec
              · array_get_dec
              · array_get_dec
              · array_get_dec
              · rw [show natL (black ++ [o]) = natL black ++ [.int (o : Nat)] by unfold natL; rw [List.map_append]; rfl]
                array_get_dec
              · array_get_dec
        · have gb : black.contains x = true := by simpa using gb
          have hrl' := (roundL_cons anc lc x lr black free).symm.trans hrl
          rw [if_pos gb] at hrl'
          have hbl' : black.length + (lr.length + 1) ≤ 7 := hbl
          repeat infer_instance
          exact ⟨lr, black, free, rfl, hrl', fun y hy => hb7 y (List.mem_cons_of_mem _ hy), by exact lle [_, _] [.le (.a (.v 0) (.a (.v 1) (.n 1))) (.n 7)] [1] (.a (.v 0) (.v 1)) (.n 7) (by exact yes) hbl', ⟨hk', rfl, d1, d2, ⟨_, d3⟩, f1, f2, f3⟩, d4, d5, d6, f4⟩
      · rintro S'' ⟨lr, black, free, hr, hrl, hb7, hbl, ⟨hk', hc', d1, d2, ⟨ob', d3⟩, f1, f2, f3⟩, d4, d5, d6, f4⟩
        obtain ⟨objs', loc', cel'⟩ := S''
        have hc' : cel' = celOf ["places", "black"] S.objs.length := hc'
        subst hc'
        dsimp only at d1 d2 d3 d4 d5 d6 f1 f2 f3 f4
        refine ⟨items_list d6, ?_⟩
        have hlr0 : lr = [] := by
          cases lr with
          | nil => rfl
          | cons _ _ => cases hr
        subst hlr0
        have hrl : (black, free) = roundL anc lc lc.reverse ([], 0) := hrl
        have hwf' : (if lc == [] then some worth else if weight < 2 ^ 59 then whitesF anc kk (lc.filter ((roundL anc lc lc.reverse ([], 0)).1.contains ·)) (worth + weight * ((roundL anc lc lc.reverse ([], 0)).2 % 2)) (weight * 2) else none) = some w := hwf
        rw [if_neg (by simpa using g), ← hrl] at hwf'
        have hw59 : weight < 2 ^ 59 := by
          by_cases hc : weight < 2 ^ 59
          · exact hc
          · rw [if_neg hc] at hwf'; cases hwf'
        rw [if_pos hw59] at hwf'
        have hfm : ((free : Nat) : Int).fmod 2 = ((free % 2 : Nat) : Int) := by
          rw [Int.fmod_eq_emod_of_nonneg _ (by decide)]; rfl
        refine W_cons (X_AugL rfl f2 (E_Bin (E_local rfl rfl f3 (E_Bin (E_local rfl rfl f4 (E_Const (Q_int (B_mod (by decide) ?_))))))))
        rw [hfm]
        refine B_mul ⟨Nat.lt_trans hw59 (by decide), Nat.lt_trans (Nat.mod_lt _ (by decide)) (by decide)⟩ ⟨_, rfl, I_add ?_⟩
        refine W_cons (X_AugL rfl f3 (E_Const (Q_int ⟨_, rfl, I_mul ⟨Nat.lt_trans hw59 (by decide), by decide⟩ ?_⟩)))
        try dsimp only
        refine W_cons (X_AssignC (E_Comp1 rfl rfl (E_cell rfl rfl rfl (by array_get_dec) ?_)))
        try dsimp only
        refine ⟨.list, natL lc, fun r out S3 => ∃ l2 o2, r = natL l2 ∧ out = natL o2 ∧ o2 ++ l2.filter (black.contains ·) = lc.filter (black.contains ·) ∧ S3.objs = objs' ∧ S3.cel = fun y => List.lookup y [(("black" : Str), S.objs.length + 1)], items_list d2, .inl rfl, ?_, ⟨lc, [], rfl, rfl, rfl, rfl, rfl⟩, ?_, ?_⟩
        · unfold natL; rw [List.length_map]; exact Nat.le_trans hlc.1 (by decide)
        · rintro v r out ⟨objs3, loc3, cel3⟩ ⟨l2, o2, e4, e5, e6, e7, e8⟩
          have e7 : objs3 = objs' := e7
          have e8 : cel3 = _ := e8
          subst e7 e8 e5
          refine ⟨items_list d2, ?_⟩
          cases l2 with
          | nil => cases e4
          | cons y l2 =>
          have hr1 : v = .int (y : Nat) ∧ r = natL l2 := by
            have := e4; unfold natL at this; rw [List.map_cons] at this; cases this; exact ⟨rfl, rfl⟩
          obtain ⟨rfl, rfl⟩ := hr1
          repeat infer_instance
          refine C_in (by array_get_dec) (B_if (fun gy => ?_) fun gy => ?_)
          · repeat infer_instance
            refine ⟨l2, o2 ++ [y], rfl, by unfold natL; rw [List.map_append]; rfl, ?_, rfl, rfl⟩
            rw [List.filter_cons_of_pos gy] at e6
            rw [← e6, List.append_assoc]; rfl
          · refine ⟨l2, o2, rfl, rfl, ?_, rfl, rfl⟩
            rw [List.filter_cons_of_neg (by rw [gy]; decide)] at e6
            exact e6
        · rintro out ⟨objs3, loc3, cel3⟩ ⟨l2, o2, e4, e5, e6, e7, e8⟩
          have e7 : objs3 = objs' := e7
          have e8 : cel3 = _ := e8
          subst e7 e8 e5
          refine ⟨items_list d2, ?_⟩
          have e4 : l2 = [] := by
            cases l2 with
            | nil => rfl
            | cons _ _ => cases e4
          subst e4
          rw [List.filter_nil, List.append_nil] at e6
          subst e6
          have n3 := get_lt d3
          have n4 := get_lt d1
          try dsimp only
          refine A_cell rfl (by rfl) (o := some (.ref jp)) (by array_get_dec) (W_nil ?_)
          try dsimp only
          refine ⟨lc.filter (black.contains ·), worth + weight * (free % 2), weight * 2, objs3.length, hwf', ⟨Nat.le_trans (List.length_filter_le ..) hlc.1, fun x hx => hlc.2 x (List.mem_filter.mp hx).1⟩, fun i o h => ?_, rfl, ?_, ?_, ⟨some (.ref jb), ?_⟩, f1, ?_, ?_⟩
          · exact get_set (get_app (hk' i o h)) (by have := get_lt h; exact fun hz => lif [_, _] [.eq (.v 0) (.v 1), .lt (.v 0) (.v 1)] [-1, 1] (by exact yes) hz this)
          · array_get_dec
          · array_get_dec
          · array_get_dec
          · rfl
          · rfl
    · have g : lc = [] := by
        cases lc with
        | nil => rfl
        | cons _ _ => cases g
      subst g
      have hwf : some worth = some w := hwf
      cases hwf
      repeat infer_instance
      exact hQ _ (fun i o h => get_app (hk i o h)) rfl rfl
theorem natL_range_drop {n k : Nat} {v : MV} {r : List MV} (h : v :: r = natL ((List.range n).drop k)) : k < n ∧ v = .int (k : Nat) ∧ r = natL ((List.range n).drop (k + 1)) := by
  have hk : k < n := by
    by_cases hc : k < n
    · exact hc
    · rw [List.drop_eq_nil_of_le (by rw [List.length_range]; exact lle [_, _] [.le (.v 0) (.v 1)] [1] (.v 0) (.v 1) (by exact yes) (Nat.le_of_not_lt hc))] at h; cases h
  have e : (List.range n).drop k = k :: (List.range n).drop (k + 1) := by
    rw [List.drop_eq_getElem_cons (by rw [List.length_range]; exact hk), List.getElem_range]
  rw [e] at h
  unfold natL at h
  rw [List.map_cons] at h
  cases h
  exact ⟨hk, rfl, rfl⟩
theorem natL_nil_drop {n k : Nat} (h : [] = natL ((List.range n).drop k)) : n ≤ k := by
  by_cases hc : n ≤ k
  · exact hc
  · have : (natL ((List.range n).drop k)).length = n - k := by unfold natL; rw [List.length_map, List.length_drop, List.length_range]
    rw [← h] at this
    simp at this; exact lle [_, _, _] [.eq (.n 0) (.v 2), .le (.v 0) (.a (.v 2) (.v 1))] [-1, 1] (.v 0) (.v 1) (by exact yes) this (sbl _ _)
theorem rng7 : rngItems 0 7 1 = natL ((List.range 7).drop 0) := rfl
/-- the cell behind the first k figures -/
noncomputable def cellN (c : Int) : Nat → Int
  | 0 => c
  | k + 1 => (cellN c k).fdiv ((k : Int) + 1)
/-- the figures -/
noncomputable def fig (c : Int) (k : Nat) : Nat := ((cellN c k).fmod ((k : Int) + 1)).toNat
theorem fig_le (c : Int) (k : Nat) : fig c k ≤ k := by
  unfold fig
  rw [Int.fmod_eq_emod_of_nonneg _ (by omega)]
  have h1 := Int.emod_lt_of_pos (cellN c k) (show (0 : Int) < (k : Int) + 1 by omega)
  have h2 := Int.emod_nonneg (cellN c k) (show ((k : Int) + 1) ≠ 0 by omega)
  omega
theorem fig_int (c : Int) (k : Nat) : (cellN c k).fmod ((k : Int) + 1) = (fig c k : Int) := by
  unfold fig
  rw [Int.fmod_eq_emod_of_nonneg _ (by omega)]
  have h2 := Int.emod_nonneg (cellN c k) (show ((k : Int) + 1) ≠ 0 by omega)
  omega
/-- who is above, by the figures -/
noncomputable def ancT (d : Nat → Nat) : Nat → List (List Nat)
  | 0 => []
  | n + 1 => ancT d n ++ [if d n = 0 then [] else (d n - 1) :: (ancT d n).getD (d n - 1) []]
noncomputable def anc (d : Nat → Nat) (k : Nat) : List Nat := (ancT d (k + 1)).getD k []
theorem ancT_len (d : Nat → Nat) : ∀ n, (ancT d n).length = n
  | 0 => rfl
  | n + 1 => by unfold ancT; rw [List.length_append, ancT_len d n]; rfl
theorem ancT_get (d : Nat → Nat) {i : Nat} : ∀ {n : Nat}, i < n → (ancT d n).getD i [] = anc d i
  | 0, h => by exact (lif [_] [.lt (.v 0) (.n 0)] [1] (by exact yes) h).elim
  | n + 1, h => by
    by_cases hc : i = n
    · subst hc; rfl
    · have hi : i < n := by exact llt [_, _] [.lt (.v 0) (.v 1)] [1] (.v 0) (.v 1) (by exact yes) (Nat.lt_of_le_of_ne (lle [_, _] [.lt (.v 0) (.a (.v 1) (.n 1))] [1] (.v 0) (.v 1) (by exact yes) h) hc)
      unfold ancT
      rw [List.getD_eq_getElem?_getD, List.getElem?_append_left (by rw [ancT_len]; exact hi), ← List.getD_eq_getElem?_getD]
      exact ancT_get d hi
theorem anc_eq {d : Nat → Nat} (hd : ∀ k, d k ≤ k) (k : Nat) : anc d k = if d k = 0 then [] else (d k - 1) :: anc d (d k - 1) := by
  have h : anc d k = if d k = 0 then [] else (d k - 1) :: (ancT d k).getD (d k - 1) [] := by
    unfold anc
    show (ancT d k ++ [_]).getD k [] = _
    rw [List.getD_eq_getElem?_getD, List.getElem?_append_right (by rw [ancT_len]; exact Nat.le_refl _), ancT_len]
    simp
  rw [h]
  split
  · rfl
  · rename_i h0
    rw [ancT_get d (by have := hd k; exact llt [_, _, _] [.le (.v 2) (.v 1), .eq (.a (.v 0) (.n 1)) (.v 2)] [1, 1] (.v 0) (.v 1) (by exact yes) this (Nat.sub_add_cancel (lle [_] [.lt (.n 0) (.v 0)] [1] (.n 1) (.v 0) (by exact yes) (Nat.pos_of_ne_zero h0))))]
theorem anc_len {d : Nat → Nat} (hd : ∀ k, d k ≤ k) (k : Nat) : (anc d k).length ≤ k := by
  induction k using Nat.strongRecOn with
  | ind k ih =>
    rw [anc_eq hd]
    split
    · simp
    · have := hd k
      have h1 := ih (d k - 1) (by exact llt [_, _, _] [.le (.v 2) (.v 1), .eq (.a (.v 0) (.n 1)) (.v 2)] [1, 1] (.v 0) (.v 1) (by exact yes) this (Nat.sub_add_cancel (lle [_] [.lt (.n 0) (.v 0)] [1] (.n 1) (.v 0) (by exact yes) (Nat.pos_of_ne_zero ‹¬d k = 0›))))
      rw [List.length_cons]; exact lle [_, _, _, _] [.le (.v 2) (.v 1), .le (.v 0) (.v 3), .eq (.a (.v 3) (.n 1)) (.v 2)] [1, 1, 1] (.a (.v 0) (.n 1)) (.v 1) (by exact yes) this h1 (Nat.sub_add_cancel (lle [_] [.lt (.n 0) (.v 0)] [1] (.n 1) (.v 0) (by exact yes) (Nat.pos_of_ne_zero ‹¬d k = 0›)))
theorem anc_lt {d : Nat → Nat} (hd : ∀ k, d k ≤ k) (k : Nat) : ∀ x ∈ anc d k, x < k := by
  induction k using Nat.strongRecOn with
  | ind k ih =>
    intro x hx
    rw [anc_eq hd] at hx
    split at hx
    · cases hx
    · have := hd k
      rcases List.mem_cons.mp hx with rfl | h
      · exact llt [_, _, _] [.le (.v 2) (.v 1), .eq (.a (.v 0) (.n 1)) (.v 2)] [1, 1] (.v 0) (.v 1) (by exact yes) this (Nat.sub_add_cancel (lle [_] [.lt (.n 0) (.v 0)] [1] (.n 1) (.v 0) (by exact yes) (Nat.pos_of_ne_zero ‹¬d k = 0›)))
      · have := ih (d k - 1) (by exact llt [_, _, _] [.le (.v 2) (.v 1), .eq (.a (.v 0) (.n 1)) (.v 2)] [1, 1] (.v 0) (.v 1) (by exact yes) this (Nat.sub_add_cancel (lle [_] [.lt (.n 0) (.v 0)] [1] (.n 1) (.v 0) (by exact yes) (Nat.pos_of_ne_zero ‹¬d k = 0›)))) x h; exact llt [_, _, _, _] [.le (.v 2) (.v 1), .lt (.v 0) (.v 3), .le (.v 3) (.v 2)] [1, 1, 1] (.v 0) (.v 1) (by exact yes) (‹d k ≤ k›) this (Nat.sub_le _ _)
/-- the letters -/
noncomputable def letL (k : Nat) : Nat := [97, 98, 67, 100, 101, 102, 103].getD k 0
noncomputable def pathName (g : List Nat) : List Nat → List Nat
  | [] => g
  | k :: r => letL k :: 46 :: pathName g r
theorem path_len (g : List Nat) : ∀ l, (pathName g l).length = 2 * l.length + g.length
  | [] => by unfold pathName; simp
  | k :: r => by unfold pathName; rw [List.length_cons, List.length_cons, path_len g r, List.length_cons]; exact leq [_, _] [] [] [] (.a (.a (.a (.m 2 (.v 0)) (.v 1)) (.n 1)) (.n 1)) (.a (.m 2 (.a (.v 0) (.n 1))) (.v 1)) (by exact yes) (by exact yes)
noncomputable def nm (d : Nat → Nat) (g : List Nat) (k : Nat) : List Nat := pathName g (k :: anc d k)
theorem nm_eq {d : Nat → Nat} (hd : ∀ k, d k ≤ k) (g : List Nat) (k : Nat) : nm d g k = letL k :: 46 :: (if d k = 0 then g else nm d g (d k - 1)) := by
  unfold nm
  show letL k :: 46 :: pathName g (anc d k) = _
  rw [anc_eq hd k]
  split
  · rfl
  · rfl
theorem nm_len {d : Nat → Nat} (hd : ∀ k, d k ≤ k) (g : List Nat) (k : Nat) (hk : k < 7) : (nm d g k).length ≤ 14 + g.length := by
  unfold nm
  rw [path_len, List.length_cons]
  have := anc_len hd k
  exact lle [_, _, _] [.lt (.v 2) (.n 7), .le (.v 0) (.v 2)] [2, 2] (.a (.m 2 (.a (.v 0) (.n 1))) (.v 1)) (.a (.n 14) (.v 1)) (by exact yes) hk this
/-- the names, so far -/
noncomputable def toldL (d : Nat → Nat) (g : List Nat) (n : Nat) : List MV := (List.range n).map fun k => .str (nm d g k)
theorem told_len (d : Nat → Nat) (g : List Nat) (n : Nat) : (toldL d g n).length = n := by unfold toldL; rw [List.length_map, List.length_range]
theorem told_get (d : Nat → Nat) (g : List Nat) {n i : Nat} (h : i < n) : (toldL d g n)[i]? = some (.str (nm d g i)) := by
  unfold toldL; rw [List.getElem?_map, List.getElem?_range h]; rfl
theorem told_succ (d : Nat → Nat) (g : List Nat) (n : Nat) : toldL d g (n + 1) = toldL d g n ++ [.str (nm d g n)] := by
  unfold toldL; rw [List.range_succ, List.map_append]; rfl
noncomputable def letO (k : Nat) : Option (List Nat) := if k = 2 then none else some [letL k]
theorem letO_get (k : Nat) : (letO k).getD [67] = [letL k] := by
  unfold letO
  split
  · rename_i h; subst h; rfl
  · rfl
theorem letL_get {i : Nat} (h : i < 7) : ([97, 98, 67, 100, 101, 102, 103] : List Nat)[(i : Int).toNat]? = some (letL i) := by
  unfold letL
  rw [Int.toNat_natCast, List.getD_eq_getElem?_getD, List.getElem?_eq_getElem (show i < ([97, 98, 67, 100, 101, 102, 103] : List Nat).length from h)]
  rfl
variable (P : PP)
/-- the rows of those above, the first n of them -/
noncomputable def RowsN (objs : List MO) (a n : Nat) (anc : Nat → List Nat) : Prop := ∃ rs : List Nat, objs[a]? = some (.list (rs.map .ref)) ∧ rs.length = n ∧ ∀ k, k < n → ∃ r, rs[k]? = some r ∧ objs[r]? = some (.list (natL (anc k)))
structure GarS (S₀ : MS) (c : Int) (g : List Nat) (k : Nat) (S' : MS) : Prop where
  kp : Keeps S₀ S'
  cl : S'.cel = emptyCel
  rows : ∃ rs : List Nat, S'.objs[S₀.objs.length]? = some (.list (rs.map .ref)) ∧ rs.length = k ∧ ∀ i, i < k → ∃ r, rs[i]? = some r ∧ S₀.objs.length + 4 ≤ r ∧ S'.objs[r]? = some (.list (natL (anc (fig c) i)))
  told : S'.objs[S₀.objs.length + 1]? = some (.list (toldL (fig c) g k))
  rng : S'.objs[S₀.objs.length + 3]? = some (.rng 0 7 1)
  la : S'.loc "above" = some (.ref S₀.objs.length)
  lt : S'.loc "told" = some (.ref (S₀.objs.length + 1))
  lc : S'.loc "cell" = some (.int (cellN c k))
  lg : S'.loc "ground" = some (.str g)
theorem GarS.next {S₀ : MS} {c : Int} {g : List Nat} {i r : Nat} {rs : List Nat} {objs1 objs2 : List MO} {loc1 loc2 : Str → Option MV} {cel1 : Str → Option Nat} (kp : Keeps S₀ { objs := objs1, loc := loc1, cel := cel1 }) (hrl : rs.length = i)
    (hrow : ∀ j, j < i → ∃ r, rs[j]? = some r ∧ S₀.objs.length + 4 ≤ r ∧ objs1[r]? = some (.list (natL (anc (fig c) j)))) (rng : objs1[S₀.objs.length + 3]? = some (.rng 0 7 1))
    (h1 : ∀ j o, objs1[j]? = some o → j ≠ S₀.objs.length → j ≠ S₀.objs.length + 1 → objs2[j]? = some o)
    (h2 : objs2[S₀.objs.length]? = some (.list ((rs ++ [r]).map .ref))) (h3 : objs2[r]? = some (.list (natL (anc (fig c) i)))) (hr : S₀.objs.length + 4 ≤ r)
    (h4 : objs2[S₀.objs.length + 1]? = some (.list (toldL (fig c) g (i + 1)))) (la : loc2 "above" = some (.ref S₀.objs.length)) (lt : loc2 "told" = some (.ref (S₀.objs.length + 1))) (lc : loc2 "cell" = some (.int (cellN c (i + 1)))) (lg : loc2 "ground" = some (.str g)) :
    GarS S₀ c g (i + 1) { objs := objs2, loc := loc2, cel := emptyCel } := by
  refine ⟨fun j o h => ?_, rfl, ⟨rs ++ [r], h2, by simp [hrl], fun j hj => ?_⟩, h4, h1 _ _ rng (by exact fun hz => lif [_] [.eq (.a (.v 0) (.n 3)) (.v 0)] [1] (by exact yes) hz) (by exact fun hz => lif [_] [.eq (.a (.v 0) (.n 3)) (.a (.v 0) (.n 1))] [1] (by exact yes) hz), la, lt, lc, lg⟩
  · have := get_lt h
    exact h1 _ _ (kp _ _ h) (by exact fun hz => lif [_, _] [.eq (.v 0) (.v 1), .lt (.v 0) (.v 1)] [-1, 1] (by exact yes) hz this) (by exact fun hz => lif [_, _] [.eq (.v 0) (.a (.v 1) (.n 1)), .lt (.v 0) (.v 1)] [-1, 1] (by exact yes) hz this)
  · by_cases hc : j = i
    · subst hc
      exact ⟨r, by rw [List.getElem?_append_right (by exact lle [_, _] [.eq (.v 0) (.v 1)] [1] (.v 0) (.v 1) (by exact yes) hrl)]; simp [hrl], hr, h3⟩
    · obtain ⟨r', e1, e2, e3⟩ := hrow j (by exact llt [_, _] [.lt (.v 0) (.v 1)] [1] (.v 0) (.v 1) (by exact yes) (Nat.lt_of_le_of_ne (lle [_, _] [.lt (.v 0) (.a (.v 1) (.n 1))] [1] (.v 0) (.v 1) (by exact yes) hj) hc))
      exact ⟨r', by rw [List.getElem?_append_left (by exact llt [_, _, _] [.eq (.v 1) (.v 2), .lt (.v 0) (.v 2)] [-1, 1] (.v 0) (.v 1) (by exact yes) hrl (Nat.lt_of_le_of_ne (lle [_, _] [.lt (.v 0) (.a (.v 1) (.n 1))] [1] (.v 0) (.v 1) (by exact yes) hj) hc))]; exact e1, e2, h1 _ _ e3 (by exact fun hz => lif [_, _] [.eq (.v 0) (.v 1), .le (.a (.v 1) (.n 4)) (.v 0)] [1, 1] (by exact yes) hz e2) (by exact fun hz => lif [_, _] [.eq (.v 0) (.a (.v 1) (.n 1)), .le (.a (.v 1) (.n 4)) (.v 0)] [1, 1] (by exact yes) hz e2)⟩
theorem garden_W {S : MS} {c : Int} {g : List Nat} {k : Nat} (hg : g.length ≤ 100) {Q : MV → MS → Prop}
    (hQ : ∀ j ja jt S', Keeps S S' → S'.loc = S.loc → S'.cel = S.cel → S'.objs[j]? = some (.tup [.ref ja, .ref jt]) → RowsN S'.objs ja 7 (anc (fig c)) → S'.objs[jt]? = some (.list (toldL (fig c) g 7)) → Q (.ref j) S') :
    WC (TK P) (k + 70) (.glob (.ref 204)) [.int c, .str g] [] S Q := by
  refine C_fn0 (f_204 P) rfl (b_204 P) rfl ?_
  refine W_cons (X_Swap rfl rfl rfl ?_)
  repeat infer_instance
  refine X_For rfl rfl ?_
  repeat infer_instance
  refine C_range1 (by decide) ?_
  try dsimp only
  rw [show (S.objs ++ [MO.list []] ++ [MO.list []] ++ [MO.tup [MV.ref S.objs.length, MV.ref (S.objs ++ [MO.list []]).length]]).length = S.objs.length + 3 by simp, show (S.objs ++ [MO.list []]).length = S.objs.length + 1 by simp]
  refine ⟨.rng 0 7 1, rngItems 0 7 1, fun r S' => ∃ i, r = natL ((List.range 7).drop i) ∧ i ≤ 7 ∧ GarS S c g i S', items_rng ?_ rfl, ⟨0, rng7, by decide, fun i o h => ?_, rfl, ⟨[], ?_, rfl, fun i h => absurd h (Nat.not_lt_zero i)⟩, ?_, ?_, rfl, rfl, rfl, rfl⟩, ?_, ?_⟩
  · array_get_dec
  · exact get_app (get_app (get_app (get_app h)))
  · dsimp only
    refine get_app (get_app (get_app get_new))
  · dsimp only
    refine get_app (get_app (get_newAt ?_))
    simp
  · array_get_dec
  · rintro v r S' ⟨i, hr, hi, G⟩
    obtain ⟨hi7, rfl, rfl⟩ := natL_range_drop hr
    refine ⟨items_rng G.rng rfl, ?_⟩
    obtain ⟨kp, cl, ⟨rs, hrs, hrl, hrow⟩, told, rng, la, lt, lc, lg⟩ := G
    obtain ⟨objs', loc', cel'⟩ := S'
    have cl : cel' = emptyCel := cl
    subst cl
    dsimp only at hrs hrow told rng la lt lc lg
    have n8 := get_lt rng
    repeat infer_instance
    refine B_mod (by omega) ?_
    rw [fig_int]
    repeat infer_instance
    refine B_div (by omega) ?_
    repeat infer_instance
    refine WE_post (Q' := fun v S1 => v = optStr (letO i) ∧ S1.objs = objs' ∧ S1.cel = emptyCel ∧ S1.loc = upd (upd (upd loc' "k" (.int i)) "place" (.int (fig c i))) "cell" (.int (cellN c (i + 1)))) ?_ ?_
    · refine E_If (T_Cmp rfl (E_local rfl rfl rfl (E_Const (Q_int (C_eqi (B_if (fun h2 => ?_) fun h2 => ?_))))))
      · have h2 : i = 2 := by have := eq_of_beq h2; omega
        subst h2
        exact E_Const (Q_none ⟨rfl, rfl, rfl, rfl⟩)
      · have h2 : i ≠ 2 := by rintro rfl; exact nomatch h2
        refine E_Sub rfl (E_Const (Q_str rfl (E_local rfl rfl rfl (G_strIdx (by decide) (by exact Int.natCast_nonneg _) (letL_get hi7) ⟨?_, rfl, rfl, rfl⟩))))
        unfold letO; rw [if_neg h2]; rfl
    rintro v ⟨objs1, loc1, cel1⟩ ⟨rfl, e1, e2, e3⟩
    have e1 : objs1 = objs' := e1
    have e2 : cel1 = emptyCel := e2
    have e3 : loc1 = _ := e3
    subst e1 e2 e3
    try dsimp only
    repeat infer_instance
    refine C_eqi (B_if (fun hz => ?_) fun hz => ?_)
    · have hz : fig c i = 0 := by have := eq_of_beq hz; omega
      repeat infer_instance
      refine K_list (by array_get_dec) ?_
      repeat infer_instance
      refine M_append (by array_get_dec) (by rw [List.length_map]; exact llt [_, _] [.lt (.v 1) (.n 7), .eq (.v 0) (.v 1)] [1, 1] (.v 0) (.n 4096) (by exact yes) hi7 hrl) ⟨rfl, ?_⟩
      repeat infer_instance
      refine K_list (by array_get_dec) ?_
      repeat infer_instance
      refine built_W P (l := letO i) (e := some g) (items_list (by array_get_dec)) (.inl rfl) ?_ ?_
      · show ((letO i).getD [67] ++ 46 :: g).length ≤ stopLen
        rw [letO_get]
        have : stopLen = 4096 := rfl
        simp only [List.length_append, List.length_cons, List.length_nil]; exact lle [_, _] [.le (.v 0) (.n 100), .eq (.v 1) (.n 4096)] [1, -1] (.a (.n 1) (.a (.v 0) (.n 1))) (.v 1) (by exact yes) hg this
      repeat infer_instance
      refine M_append (by array_get_dec) (by rw [told_len]; exact llt [_] [.lt (.v 0) (.n 7)] [1] (.v 0) (.n 4096) (by exact yes) hi7) ⟨rfl, ?_⟩
      repeat infer_instance
      try dsimp only
      have hb : builtL (letO i) (some g) = nm (fig c) g i := by
        show (letO i).getD [67] ++ 46 :: g = _
        rw [letO_get, nm_eq (fig_le c), if_pos hz]; rfl
      refine ⟨i + 1, rfl, hi7, GarS.next (r := objs1.length) (objs1 := objs1) kp hrl hrow rng (fun j o hj h1 h2 => ?_) ?_ ?_ (by exact lle [_, _] [.lt (.a (.v 0) (.n 3)) (.v 1)] [1] (.a (.v 0) (.n 4)) (.v 1) (by exact yes) n8) ?_ la lt rfl lg⟩
      · exact get_set (get_app (get_set (get_app hj) h1)) h2
      · rw [List.map_append]
        array_get_dec
      · rw [anc_eq (fig_le c), if_pos hz]
        array_get_dec
      · rw [told_succ, ← hb]
        array_get_dec
    · have hz : fig c i ≠ 0 := by
        rintro h0
        rw [h0] at hz
        exact nomatch hz
      have hle := fig_le c i
      have hsub : ((fig c i : Nat) : Int) - 1 = ((fig c i - 1 : Nat) : Int) := by omega
      obtain ⟨rp, hrp, hrp4, hrpo⟩ := hrow (fig c i - 1) (by omega)
      repeat infer_instance
      refine K_list (by array_get_dec) ?_
      repeat infer_instance
      rw [hsub]
      refine G_list (by exact ix (lle [_, _, _] [.lt (.v 1) (.n 7), .le (.v 2) (.v 1), .le (.v 0) (.v 2)] [1, 1, 1] (.v 0) (.n 4096) (by exact yes) hi7 hle (Nat.sub_le _ _))) (by array_get_dec) (v := .ref rp) (by rw [Int.toNat_natCast, List.getElem?_map, hrp]; rfl) ?_
      refine B_cat (by array_get_dec) (xs := [.int (fig c i - 1 : Nat)]) (ys := natL (anc (fig c) (fig c i - 1))) (by array_get_dec) ?_ ?_
      · have := anc_len (fig_le c) (fig c i - 1)
        have : stopLen = 4096 := rfl
        unfold natL
        rw [List.length_append, List.length_map, List.length_cons, List.length_nil]; exact lle [_, _, _, _, _] [.lt (.v 2) (.n 7), .le (.v 3) (.v 2), .le (.v 0) (.v 4), .eq (.v 1) (.n 4096), .le (.v 4) (.v 3)] [1, 1, 1, -1, 1] (.a (.n 1) (.v 0)) (.v 1) (by exact yes) hi7 hle (‹(anc (fig c) (fig c i - 1)).length ≤ fig c i - 1›) this (Nat.sub_le _ _)
      repeat infer_instance
      refine M_append (by array_get_dec) (by rw [List.length_map]; exact llt [_, _] [.lt (.v 1) (.n 7), .eq (.v 0) (.v 1)] [1, 1] (.v 0) (.n 4096) (by exact yes) hi7 hrl) ⟨rfl, ?_⟩
      repeat infer_instance
      refine K_list (by array_get_dec) ?_
      repeat infer_instance
      rw [hsub]
      refine G_list (by exact ix (lle [_, _, _] [.lt (.v 1) (.n 7), .le (.v 2) (.v 1), .le (.v 0) (.v 2)] [1, 1, 1] (.v 0) (.n 4096) (by exact yes) hi7 hle (Nat.sub_le _ _))) (by array_get_dec) (v := .str (nm (fig c) g (fig c i - 1))) (by rw [Int.toNat_natCast]; exact told_get _ _ (by omega)) ?_
      repeat infer_instance
      have hnl := nm_len (fig_le c) g (fig c i - 1) (by exact llt [_, _, _] [.lt (.v 1) (.n 7), .le (.v 2) (.v 1), .le (.v 0) (.v 2)] [1, 1, 1] (.v 0) (.n 7) (by exact yes) hi7 hle (Nat.sub_le _ _))
      refine built_W P (l := letO i) (e := some (nm (fig c) g (fig c i - 1))) (items_tup (by array_get_dec)) (.inr rfl) ?_ ?_
      · show ((letO i).getD [67] ++ 46 :: nm (fig c) g (fig c i - 1)).length ≤ stopLen
        rw [letO_get]
        have : stopLen = 4096 := rfl
        simp only [List.length_append, List.length_cons, List.length_nil]; exact lle [_, _, _] [.le (.v 2) (.n 100), .le (.v 0) (.a (.n 14) (.v 2)), .eq (.v 1) (.n 4096)] [1, 1, -1] (.a (.n 1) (.a (.v 0) (.n 1))) (.v 1) (by exact yes) hg hnl this
      repeat infer_instance
      refine M_append (by array_get_dec) (by rw [told_len]; exact llt [_] [.lt (.v 0) (.n 7)] [1] (.v 0) (.n 4096) (by exact yes) hi7) ⟨rfl, ?_⟩
      repeat infer_instance
      try dsimp only
      have hb : builtL (letO i) (some (nm (fig c) g (fig c i - 1))) = nm (fig c) g i := by
        show (letO i).getD [67] ++ 46 :: nm (fig c) g (fig c i - 1) = _
        rw [letO_get, nm_eq (fig_le c) g i, if_neg hz]; rfl
      refine ⟨i + 1, rfl, hi7, GarS.next (r := objs1.length + 1) (objs1 := objs1) kp hrl hrow rng (fun j o hj h1 h2 => ?_) ?_ ?_ (by exact lle [_, _] [.lt (.a (.v 0) (.n 3)) (.v 1)] [1] (.a (.v 0) (.n 4)) (.a (.v 1) (.n 1)) (by exact yes) n8) ?_ la lt rfl lg⟩
      · exact get_set (get_app (get_set (get_app (get_app hj)) h1)) h2
      · rw [List.map_append, List.map_cons, List.map_nil, show objs1.length + 1 = (objs1 ++ [MO.list [MV.int ↑(fig c i - 1)]]).length by simp]
        array_get_dec
      · rw [show natL (anc (fig c) i) = [MV.int ↑(fig c i - 1)] ++ natL (anc (fig c) (fig c i - 1)) by rw [anc_eq (fig_le c) i, if_neg hz]; rfl]
        array_get_dec
      · rw [told_succ, ← hb]
        array_get_dec
  · rintro S' ⟨i, hr, hi, G⟩
    have hi7 := natL_nil_drop hr
    obtain rfl : i = 7 := by exact leq [_] [.le (.v 0) (.n 7), .le (.n 7) (.v 0)] [1, 0] [0, 1] (.v 0) (.n 7) (by exact yes) (by exact yes) hi hi7
    refine ⟨items_rng G.rng rfl, ?_⟩
    obtain ⟨kp, cl, ⟨rs, hrs, hrl, hrow⟩, told, rng, la, lt, lc, lg⟩ := G
    obtain ⟨objs', loc', cel'⟩ := S'
    have cl : cel' = emptyCel := cl
    subst cl
    dsimp only at hrs hrow told rng la lt lc lg
    repeat infer_instance
    refine hQ _ S.objs.length (S.objs.length + 1) _ ?_ rfl rfl get_new ⟨rs, get_app hrs, hrl, fun j hj => ?_⟩ (get_app told)
    · exact fun j o h => get_app (kp j o h)
    · obtain ⟨r, e1, _, e2⟩ := hrow j hj
      exact ⟨r, e1, get_app e2⟩
noncomputable def insAt {α : Type} (k : Nat) (x : α) (l : List α) : List α := l.take k ++ x :: l.drop k
theorem insAt_len {α : Type} (k : Nat) (x : α) (l : List α) : (insAt k x l).length = l.length + 1 := by
  show (l.take k ++ x :: l.drop k).length = _
  rw [List.length_append, List.length_cons, ← Nat.add_assoc, ← List.length_append, List.take_append_drop]
theorem mem_insAt {α : Type} {k : Nat} {x y : α} {l : List α} : y ∈ insAt k x l ↔ y = x ∨ y ∈ l := by
  unfold insAt
  rw [List.mem_append, List.mem_cons]
  constructor
  · rintro (h | rfl | h)
    · exact .inr (List.mem_of_mem_take h)
    · exact .inl rfl
    · exact .inr (List.mem_of_mem_drop h)
  · rintro (rfl | h)
    · exact .inr (.inl rfl)
    · rw [← List.take_append_drop k l, List.mem_append] at h
      rcases h with h | h
      · exact .inl h
      · exact .inr (.inr h)
noncomputable def pLB (x : Pc) (l : List Pc) : Nat := bisP (fun i => decide (reachL (l.getD i ([], [])).2 < reachL x.2)) 63 0 l.length
noncomputable def pRB (x : Pc) (l : List Pc) : Nat := bisP (fun i => !decide (reachL x.2 < reachL (l.getD i ([], [])).2)) 63 0 l.length
noncomputable def pieceN (nmf : Nat → List Nat) (w : Nat → Nat) (k : Nat) : Pc := (List.replicate (w k) 32, nmf k)
noncomputable def insK (nmf : Nat → List Nat) (w : Nat → Nat) (k : Nat) (l : List Pc) : List Pc :=
  insAt (if k % 2 = 0 then pLB (pieceN nmf w k) l else pRB (pieceN nmf w k) l) (pieceN nmf w k) l
noncomputable def pileT (nmf : Nat → List Nat) (w : Nat → Nat) : Nat → List Pc
  | 0 => []
  | t + 1 => insK nmf w (6 - t) (pileT nmf w t)
noncomputable def sliceL (l : List Pc) (dom : List Nat) : List Pc := (l.drop (lowB l dom)).take (highB l dom - lowB l dom)
/-- what hangs right below a host, together -/
noncomputable def sumV (nmf : Nat → List Nat) (w : Nat → Nat) (k : Nat) : Nat := xorL (sliceL (pileT nmf w (6 - k)) (46 :: nmf k))
noncomputable def climbV (par : Nat → Option Nat) (sm w : Nat → Nat) (k : Nat) : Nat → Nat → Nat → Option Nat
  | 0, _, _ => none
  | f + 1, i, acc => if i = k then some acc else match par i with
    | some p => climbV par sm w k f p (acc ^^^ sm p ^^^ w i)
    | none => none
noncomputable def leftV (par : Nat → Option Nat) (sm w : Nat → Nat) (k j : Nat) : Nat := (climbV par sm w k 64 j (sm j)).getD 0
noncomputable def uL (x : Nat) (l : List Nat) : Nat := bisP (fun i => decide (l.getD i 0 < x)) 63 0 l.length
noncomputable def uR (x : Nat) (l : List Nat) : Nat := bisP (fun i => !decide (x < l.getD i 0)) 63 0 l.length
noncomputable def insU (x : Nat) (l : List Nat) : List Nat := if uL x l = uR x l then insAt (uL x l) x l else l
noncomputable def seenU (kin : Nat → Nat → Bool) (lv : Nat → Nat → Nat) (k : Nat) : List Nat → List Nat → List Nat
  | [], s => s
  | j :: r, s => seenU kin lv k r (if j = k ∨ kin j k = true then insU (lv k j) s else s)
theorem pile_len (nmf : Nat → List Nat) (w : Nat → Nat) : ∀ t, (pileT nmf w t).length = t
  | 0 => rfl
  | t + 1 => by unfold pileT insK; rw [insAt_len, pile_len nmf w t]
theorem pile_mem {nmf : Nat → List Nat} {w : Nat → Nat} : ∀ {t : Nat} {p : Pc}, t ≤ 7 → p ∈ pileT nmf w t → ∃ k, k < 7 ∧ p = pieceN nmf w k
  | 0, p, _, h => nomatch h
  | t + 1, p, ht, h => by
    unfold pileT insK at h
    rcases mem_insAt.mp h with rfl | h
    · exact ⟨6 - t, by exact llt [_] [.le (.v 0) (.n 6)] [1] (.v 0) (.n 7) (by exact yes) (Nat.sub_le _ _), rfl⟩
    · exact pile_mem (by exact lle [_] [.le (.a (.v 0) (.n 1)) (.n 7)] [1] (.v 0) (.n 7) (by exact yes) ht) h
/-- what the row's walk wants to know of the hosts -/
structure Gar (nmf : Nat → List Nat) (par : Nat → Option Nat) (kin : Nat → Nat → Bool) (w : Nat → Nat) : Prop where
  len : ∀ k, k < 7 → (nmf k).length ≤ 200
  inj : ∀ i j, i < 7 → j < 7 → nmf i = nmf j → i = j
  up : ∀ i p, i < 7 → par i = some p → p < i ∧ reachL (nmf i) = 46 :: nmf p
  small : ∀ k, k < 7 → w k ≤ 64
  climb : ∀ k j, k < 7 → j < 7 → k ≤ j → (j = k ∨ kin j k = true) → climbV par (sumV nmf w) w k 64 j (sumV nmf w j) = some (leftV par (sumV nmf w) w k j) ∧ k ≤ j
  lack : ∀ k, k < 7 → w k = lackL (seenU kin (leftV par (sumV nmf w) w) k ((List.range 7).drop k) [])
theorem Pieces.keeps {objs objs' : List MO} (hk : ∀ (i : Nat) o, objs[i]? = some o → (∀ a b, o = .tup [.str a, .str b] → objs'[i]? = some o)) : ∀ {vs : List MV} {l : List Pc}, Pieces objs vs l → Pieces objs' vs l :=
  fun h => pd_imp (fun _ _ z => z.elim fun i z => ⟨i, z.1, hk _ _ z.2 _ _ rfl⟩) h
theorem Pieces.set {objs : List MO} {j : Nat} {o o' : MO} {vs : List MV} {l : List Pc} (h : Pieces objs vs l) (e : objs[j]? = some o) (ho : ∀ a b, o ≠ .tup [.str a, .str b]) : Pieces (objs.set j o') vs l := by
  refine h.keeps fun i oi hi a b hab => get_set hi ?_
  rintro rfl
  rw [hi] at e
  cases e
  exact ho a b hab
theorem Pieces.ins {objs : List MO} {vs : List MV} {l : List Pc} {k r : Nat} {p : Pc} (h : Pieces objs vs l) (hr : objs[r]? = some (.tup [.str p.1, .str p.2])) : Pieces objs (insertAt k (.ref r) vs) (insAt k p l) :=
  pd_app (Pieces.take k h) (.cons ⟨r, rfl, hr⟩ (Pieces.drop k h))
theorem ins_ge {n k r : Nat} {vs : List MV} (h : ∀ r, MV.ref r ∈ vs → n ≤ r) (hr : n ≤ r) : ∀ r', MV.ref r' ∈ insertAt k (.ref r) vs → n ≤ r' := by
  intro r' h'
  unfold insertAt at h'
  rcases List.mem_append.mp h' with h1 | h1
  · exact h _ (List.mem_of_mem_take h1)
  · rcases List.mem_cons.mp h1 with h2 | h2
    · cases h2; exact hr
    · exact h _ (List.mem_of_mem_drop h2)
/-- the row's objects, as they stand -/
structure Core (S : MS) (first : Int) (l : List Pc) (sk wk : List (List Nat × MV)) (m : Nat) (vs : List MV) (objs : List MO) : Prop where
  kp : ∀ (i : Nat) o, S.objs[i]? = some o → objs[i]? = some o
  d : objs[S.objs.length]? = some (.dict [(sizeKey, .int first)])
  a : objs[S.objs.length + 1]? = some (.acc S.objs.length vs)
  p : Pieces objs vs l
  s : objs[S.objs.length + 2]? = some (.dict sk)
  w : objs[S.objs.length + 3]? = some (.dict wk)
  g : objs[S.objs.length + 4]? = some (.list (List.replicate m .none))
  r : objs[S.objs.length + 6]? = some (.rng 6 (-1) (-1))
  ge : ∀ r, MV.ref r ∈ vs → S.objs.length ≤ r
section
variable {S : MS} {first : Int} {l l' : List Pc} {sk wk sk' wk' : List (List Nat × MV)} {m : Nat} {vs : List MV} {objs objs' : List MO}
theorem Core.keeps (C : Core S first l sk wk m vs objs) (k : ∀ (i : Nat) o, objs[i]? = some o → objs'[i]? = some o) : Core S first l sk wk m vs objs' :=
  ⟨fun i o h => k _ _ (C.kp i o h), k _ _ C.d, k _ _ C.a, C.p.keeps fun i o h _ _ _ => k _ _ h, k _ _ C.s, k _ _ C.w, k _ _ C.g, k _ _ C.r, C.ge⟩
theorem Core.app (C : Core S first l sk wk m vs objs) (o : MO) : Core S first l sk wk m vs (objs ++ [o]) := C.keeps fun _ _ h => get_app h
theorem Core.lt (C : Core S first l sk wk m vs objs) : S.objs.length + 6 < objs.length := get_lt C.r
theorem Core.setS (C : Core S first l sk wk m vs objs) : Core S first l sk' wk m vs (objs.set (S.objs.length + 2) (.dict sk')) :=
  ⟨fun i o h => get_set (C.kp i o h) (by have := get_lt h; exact fun hz => lif [_, _] [.eq (.v 0) (.a (.v 1) (.n 2)), .lt (.v 0) (.v 1)] [-1, 1] (by exact yes) hz this), get_set C.d (by exact fun hz => lif [_] [.eq (.v 0) (.a (.v 0) (.n 2))] [-1] (by exact yes) hz), get_set C.a (by exact fun hz => lif [_] [.eq (.a (.v 0) (.n 1)) (.a (.v 0) (.n 2))] [-1] (by exact yes) hz), C.p.set C.s nofun, get_set_same C.s, get_set C.w (by exact fun hz => lif [_] [.eq (.a (.v 0) (.n 3)) (.a (.v 0) (.n 2))] [1] (by exact yes) hz), get_set C.g (by exact fun hz => lif [_] [.eq (.a (.v 0) (.n 4)) (.a (.v 0) (.n 2))] [1] (by exact yes) hz), get_set C.r (by exact fun hz => lif [_] [.eq (.a (.v 0) (.n 6)) (.a (.v 0) (.n 2))] [1] (by exact yes) hz), C.ge⟩
theorem Core.setW (C : Core S first l sk wk m vs objs) : Core S first l sk wk' m vs (objs.set (S.objs.length + 3) (.dict wk')) :=
  ⟨fun i o h => get_set (C.kp i o h) (by have := get_lt h; exact fun hz => lif [_, _] [.eq (.v 0) (.a (.v 1) (.n 3)), .lt (.v 0) (.v 1)] [-1, 1] (by exact yes) hz this), get_set C.d (by exact fun hz => lif [_] [.eq (.v 0) (.a (.v 0) (.n 3))] [-1] (by exact yes) hz), get_set C.a (by exact fun hz => lif [_] [.eq (.a (.v 0) (.n 1)) (.a (.v 0) (.n 3))] [-1] (by exact yes) hz), C.p.set C.w nofun, get_set C.s (by exact fun hz => lif [_] [.eq (.a (.v 0) (.n 2)) (.a (.v 0) (.n 3))] [-1] (by exact yes) hz), get_set_same C.w, get_set C.g (by exact fun hz => lif [_] [.eq (.a (.v 0) (.n 4)) (.a (.v 0) (.n 3))] [1] (by exact yes) hz), get_set C.r (by exact fun hz => lif [_] [.eq (.a (.v 0) (.n 6)) (.a (.v 0) (.n 3))] [1] (by exact yes) hz), C.ge⟩
theorem Core.setG (C : Core S first l sk wk m vs objs) : Core S first l sk wk (m + 1) vs (objs.set (S.objs.length + 4) (.list (List.replicate m .none ++ [.none]))) :=
  ⟨fun i o h => get_set (C.kp i o h) (by have := get_lt h; exact fun hz => lif [_, _] [.eq (.v 0) (.a (.v 1) (.n 4)), .lt (.v 0) (.v 1)] [-1, 1] (by exact yes) hz this), get_set C.d (by exact fun hz => lif [_] [.eq (.v 0) (.a (.v 0) (.n 4))] [-1] (by exact yes) hz), get_set C.a (by exact fun hz => lif [_] [.eq (.a (.v 0) (.n 1)) (.a (.v 0) (.n 4))] [-1] (by exact yes) hz), C.p.set C.g nofun, get_set C.s (by exact fun hz => lif [_] [.eq (.a (.v 0) (.n 2)) (.a (.v 0) (.n 4))] [-1] (by exact yes) hz), get_set C.w (by exact fun hz => lif [_] [.eq (.a (.v 0) (.n 3)) (.a (.v 0) (.n 4))] [-1] (by exact yes) hz), by rw [List.replicate_succ']; exact get_set_same C.g, get_set C.r (by exact fun hz => lif [_] [.eq (.a (.v 0) (.n 6)) (.a (.v 0) (.n 4))] [1] (by exact yes) hz), C.ge⟩
theorem Core.setA {vs' : List MV} (C : Core S first l sk wk m vs objs) (hp : Pieces objs vs' l') (hg : ∀ r, MV.ref r ∈ vs' → S.objs.length ≤ r) : Core S first l' sk wk m vs' (objs.set (S.objs.length + 1) (.acc S.objs.length vs')) :=
  ⟨fun i o h => get_set (C.kp i o h) (by have := get_lt h; exact fun hz => lif [_, _] [.eq (.v 0) (.a (.v 1) (.n 1)), .lt (.v 0) (.v 1)] [-1, 1] (by exact yes) hz this), get_set C.d (by exact fun hz => lif [_] [.eq (.v 0) (.a (.v 0) (.n 1))] [-1] (by exact yes) hz), get_set_same C.a, hp.set C.a nofun, get_set C.s (by exact fun hz => lif [_] [.eq (.a (.v 0) (.n 2)) (.a (.v 0) (.n 1))] [1] (by exact yes) hz), get_set C.w (by exact fun hz => lif [_] [.eq (.a (.v 0) (.n 3)) (.a (.v 0) (.n 1))] [1] (by exact yes) hz), get_set C.g (by exact fun hz => lif [_] [.eq (.a (.v 0) (.n 4)) (.a (.v 0) (.n 1))] [1] (by exact yes) hz), get_set C.r (by exact fun hz => lif [_] [.eq (.a (.v 0) (.n 6)) (.a (.v 0) (.n 1))] [1] (by exact yes) hz), hg⟩
theorem Core.setL {j : Nat} {xs ys : List MV} (C : Core S first l sk wk m vs objs) (e : objs[j]? = some (.list xs)) (hj : S.objs.length + 6 < j) : Core S first l sk wk m vs (objs.set j (.list ys)) :=
  ⟨fun i o h => get_set (C.kp i o h) (by have := get_lt h; exact fun hz => lif [_, _, _] [.eq (.v 0) (.v 1), .lt (.a (.v 2) (.n 6)) (.v 1), .lt (.v 0) (.v 2)] [-1, 1, 1] (by exact yes) hz hj this), get_set C.d (by exact fun hz => lif [_, _] [.eq (.v 0) (.v 1), .lt (.a (.v 0) (.n 6)) (.v 1)] [-1, 1] (by exact yes) hz hj), get_set C.a (by exact fun hz => lif [_, _] [.eq (.a (.v 0) (.n 1)) (.v 1), .lt (.a (.v 0) (.n 6)) (.v 1)] [-1, 1] (by exact yes) hz hj), C.p.set e nofun, get_set C.s (by exact fun hz => lif [_, _] [.eq (.a (.v 0) (.n 2)) (.v 1), .lt (.a (.v 0) (.n 6)) (.v 1)] [-1, 1] (by exact yes) hz hj), get_set C.w (by exact fun hz => lif [_, _] [.eq (.a (.v 0) (.n 3)) (.v 1), .lt (.a (.v 0) (.n 6)) (.v 1)] [-1, 1] (by exact yes) hz hj), get_set C.g (by exact fun hz => lif [_, _] [.eq (.a (.v 0) (.n 4)) (.v 1), .lt (.a (.v 0) (.n 6)) (.v 1)] [-1, 1] (by exact yes) hz hj), get_set C.r (by exact fun hz => lif [_, _] [.eq (.a (.v 0) (.n 6)) (.v 1), .lt (.a (.v 0) (.n 6)) (.v 1)] [-1, 1] (by exact yes) hz hj), C.ge⟩
end
/-- the dict of a number for each host that is done -/
noncomputable def kvT (nmf : Nat → List Nat) (f : Nat → Nat) (t : Nat) : List (List Nat × MV) := (List.range t).map fun s => (nmf (6 - s), .int (f (6 - s) : Nat))
theorem kv_len (nmf : Nat → List Nat) (f : Nat → Nat) (t : Nat) : (kvT nmf f t).length = t := by unfold kvT; rw [List.length_map, List.length_range]
theorem find_range {α : Type} {p : Nat → Bool} : ∀ {n k : Nat}, k < n → p k = true → (∀ i, i < k → p i = false) → ∀ (g : Nat → α), ((List.range n).map fun i => (i, g i)).find? (fun x => p x.1) = some (k, g k)
  | n, k, hk, h1, h2, g => by
    rw [List.find?_map, show ((fun x : Nat × α => p x.1) ∘ fun i => (i, g i)) = p from rfl]
    have : (List.range n).find? p = some k := by
      rw [List.find?_range_eq_some]
      exact ⟨h1, by simpa using hk, fun j hj => by rw [h2 j hj]; rfl⟩
    rw [this]; rfl
theorem kv_at {nmf : Nat → List Nat} (inj : ∀ i j, i < 7 → j < 7 → nmf i = nmf j → i = j) (f : Nat → Nat) {t k : Nat} (ht : t ≤ 7) (hk : k < 7) (h : 6 - k < t) : atKeyM (kvT nmf f t) (nmf k) = some (.int (f k : Nat)) := by
  unfold atKeyM kvT
  rw [List.find?_map, Option.map_map]
  have : (List.range t).find? ((fun kv : List Nat × MV => decide (kv.1 = nmf k)) ∘ fun s => (nmf (6 - s), MV.int (f (6 - s) : Nat))) = some (6 - k) := by
    rw [List.find?_range_eq_some]
    refine ⟨?_, by simpa using h, fun j hj => ?_⟩
    · show decide (nmf (6 - (6 - k)) = nmf k) = true
      rw [show 6 - (6 - k) = k by exact leq [_, _, _] [.eq (.a (.v 0) (.v 2)) (.n 6), .eq (.a (.v 2) (.v 1)) (.n 6)] [1, -1] [-1, 1] (.v 0) (.v 1) (by exact yes) (by exact yes) (Nat.sub_add_cancel (lle [_] [.le (.v 0) (.n 6)] [1] (.v 0) (.n 6) (by exact yes) (Nat.sub_le _ _))) (Nat.sub_add_cancel (lle [_] [.lt (.v 0) (.n 7)] [1] (.v 0) (.n 6) (by exact yes) hk))]; exact decide_eq_true rfl
    · show (!decide (nmf (6 - j) = nmf k)) = true
      rw [decide_eq_false (fun hx => by have := inj _ _ (by exact llt [_] [.le (.v 0) (.n 6)] [1] (.v 0) (.n 7) (by exact yes) (Nat.sub_le _ _)) hk hx; exact lif [_, _, _, _] [.lt (.v 0) (.v 1), .eq (.v 2) (.v 3), .eq (.a (.v 1) (.v 3)) (.n 6), .eq (.a (.v 2) (.v 0)) (.n 6)] [1, 1, 1, -1] (by exact yes) hj this (Nat.sub_add_cancel (lle [_, _] [.eq (.v 1) (.v 0), .le (.v 1) (.n 6)] [-1, 1] (.v 0) (.n 6) (by exact yes) this (Nat.sub_le _ _))) (Nat.sub_add_cancel (lle [_, _] [.lt (.v 0) (.v 1), .le (.v 1) (.n 6)] [1, 1] (.v 0) (.n 6) (by exact yes) hj (Nat.sub_le _ _))))]; rfl
  rw [this]
  show some (MV.int (f (6 - (6 - k)) : Nat)) = _
  rw [show 6 - (6 - k) = k by exact leq [_, _, _] [.eq (.a (.v 0) (.v 2)) (.n 6), .eq (.a (.v 2) (.v 1)) (.n 6)] [1, -1] [-1, 1] (.v 0) (.v 1) (by exact yes) (by exact yes) (Nat.sub_add_cancel (lle [_] [.le (.v 0) (.n 6)] [1] (.v 0) (.n 6) (by exact yes) (Nat.sub_le _ _))) (Nat.sub_add_cancel (lle [_] [.lt (.v 0) (.n 7)] [1] (.v 0) (.n 6) (by exact yes) hk))]
theorem kv_put {nmf : Nat → List Nat} (inj : ∀ i j, i < 7 → j < 7 → nmf i = nmf j → i = j) (f : Nat → Nat) {t : Nat} (ht : t < 7) : putKey (kvT nmf f t) (nmf (6 - t)) (.int (f (6 - t) : Nat)) = kvT nmf f (t + 1) := by
  unfold putKey
  rw [if_neg]
  · unfold kvT; rw [List.range_succ, List.map_append]; rfl
  · intro h
    obtain ⟨x, hx, hd⟩ := List.any_eq_true.mp h
    unfold kvT at hx
    obtain ⟨s, hs, rfl⟩ := List.mem_map.mp hx
    have hs := List.mem_range.mp hs
    have := inj _ _ (by exact llt [_] [.le (.v 0) (.n 6)] [1] (.v 0) (.n 7) (by exact yes) (Nat.sub_le _ _)) (by exact llt [_] [.le (.v 0) (.n 6)] [1] (.v 0) (.n 7) (by exact yes) (Nat.sub_le _ _)) (of_decide_eq_true hd)
    exact lif [_, _, _, _] [.lt (.v 0) (.v 1), .eq (.v 2) (.v 3), .eq (.a (.v 2) (.v 0)) (.n 6), .eq (.a (.v 3) (.v 1)) (.n 6)] [1, 1, -1, 1] (by exact yes) hs this (Nat.sub_add_cancel (lle [_, _] [.lt (.v 1) (.n 7), .lt (.v 0) (.v 1)] [1, 1] (.v 0) (.n 6) (by exact yes) ht hs)) (Nat.sub_add_cancel (lle [_] [.lt (.v 0) (.n 7)] [1] (.v 0) (.n 6) (by exact yes) ht))
/-- the law's table of who lies within whose domain -/
noncomputable def WithinOK (objs : List MO) (jw : Nat) (kin : Nat → Nat → Bool) : Prop := ∃ rs : List Nat, objs[jw]? = some (.list (rs.map .ref)) ∧ rs.length = 7 ∧ ∀ j, j < 7 → ∃ r bs, rs[j]? = some r ∧ objs[r]? = some (.list bs) ∧ ∀ k, k ≤ j → bs[k]? = some (.bool (kin j k))
theorem rng_down : rngItems 6 (-1) (-1) = natL ((List.range 7).map (6 - ·)) := rfl
theorem down_drop {t : Nat} {v : MV} {r : List MV} (h : v :: r = natL (((List.range 7).map (6 - ·)).drop t)) : t < 7 ∧ v = .int ((6 - t : Nat) : Int) ∧ r = natL (((List.range 7).map (6 - ·)).drop (t + 1)) := by
  have ht : t < 7 := by
    by_cases hc : t < 7
    · exact hc
    · rw [List.drop_eq_nil_of_le (by simp; exact lle [_] [.le (.n 7) (.v 0)] [1] (.n 7) (.v 0) (by exact yes) (Nat.le_of_not_lt hc))] at h; cases h
  have e : ((List.range 7).map (6 - ·)).drop t = (6 - t) :: ((List.range 7).map (6 - ·)).drop (t + 1) := by
    rw [List.drop_eq_getElem_cons (by simp; exact ht), List.getElem_map, List.getElem_range]
  rw [e] at h
  unfold natL at h
  rw [List.map_cons] at h
  cases h
  exact ⟨ht, rfl, rfl⟩
theorem down_nil {t : Nat} (h : [] = natL (((List.range 7).map (6 - ·)).drop t)) : 7 ≤ t := by
  by_cases hc : 7 ≤ t
  · exact hc
  · have : (natL (((List.range 7).map (6 - ·)).drop t)).length = 7 - t := by unfold natL; rw [List.length_map, List.length_drop, List.length_map, List.length_range]
    rw [← h] at this
    simp at this; exact lle [_, _] [.eq (.n 0) (.v 1), .le (.n 7) (.a (.v 1) (.v 0))] [-1, 1] (.n 7) (.v 0) (by exact yes) this (sbl _ _)
theorem rng_from (k : Nat) (hk : k < 7) : rngItems (k : Int) 7 1 = natL ((List.range 7).drop k) := by
  have h : ∀ k : Fin 7, rngItems ((k : Nat) : Int) 7 1 = natL ((List.range 7).drop k) := fun k => by
    refine Fin.cases rfl (fun k => Fin.cases rfl (fun k => Fin.cases rfl (fun k => Fin.cases rfl (fun k => Fin.cases rfl (fun k => Fin.cases rfl (fun k => Fin.cases rfl (fun k => k.elim0) k) k) k) k) k) k) k
  exact h ⟨k, hk⟩
section
variable {S : MS} {T : Gd} {n : Nat} {q : Sta} {O : List MO} {L : Str → Option MV} {C : Str → Option Nat}
theorem WB_gen {b : List Stmt} {Q : MFlow → MS → Prop} (R : List MO → (Str → Option MV) → Prop) (h0 : R O L) (h : ∀ O L, R O L → WB T n q b ⟨O, L, C⟩ Q) : WB T n q b ⟨O, L, C⟩ Q := h _ _ h0
theorem C_range3' {i : Nat} {a : Int} {Q : MV → MS → Prop} (hi : i = S.objs.length) (hb : 0 ≤ a ∧ a ≤ 1000) (h : Q (.ref i) { S with objs := S.objs ++ [.rng a (-1) (-1)] }) : WC T (n + 1) (.glob (.type "range")) [.int a, .int (-1), .int (-1)] [] S Q := by
  subst hi; exact C_range3 hb h
theorem E_Dict' {i : Nat} {p : Pos} {Q : MV → MS → Prop} (hi : i = S.objs.length) (h : Q (.ref i) { S with objs := S.objs ++ [.dict []] }) : WE T (n + 1) q (.Dict [] [] p) S Q := by
  subst hi; exact E_Dict h
theorem C_range2' {i : Nat} {a b : Int} {Q : MV → MS → Prop} (hi : i = S.objs.length) (hb : 0 ≤ a ∧ a ≤ 1000 ∧ 0 ≤ b ∧ b ≤ 1000) (h : Q (.ref i) { S with objs := S.objs ++ [.rng a b 1] }) : WC T (n + 1) (.glob (.type "range")) [.int a, .int b] [] S Q := by
  subst hi; exact C_range2 hb h
end
/-- the row's names -/
structure RowL (n0 jh jw : Nat) (loc : Str → Option MV) : Prop where
  h : loc "hosts" = some (.ref jh)
  wi : loc "within" = some (.ref jw)
  p : loc "pile" = some (.ref (n0 + 1))
  s : loc "sums" = some (.ref (n0 + 2))
  w : loc "worths" = some (.ref (n0 + 3))
  g : loc "gifts" = some (.ref (n0 + 4))
theorem natL_len (l : List Nat) : (natL l).length = l.length := by unfold natL; rw [List.length_map]
theorem natL_get {l : List Nat} {i : Nat} {v : MV} (h : (natL l)[i]? = some v) : v = .int (l.getD i 0 : Nat) := by
  unfold natL at h
  rw [List.getElem?_map] at h
  rw [List.getD_eq_getElem?_getD]
  cases hl : l[i]? with
  | none => rw [hl] at h; cases h
  | some a => rw [hl] at h; cases h; rfl
theorem natL_ins (k x : Nat) (l : List Nat) : insertAt k (.int (x : Nat)) (natL l) = natL (insAt k x l) := by
  unfold insertAt natL insAt
  rw [List.map_append, List.map_cons, List.map_take, List.map_drop]
theorem seenU_step (kin : Nat → Nat → Bool) (lv : Nat → Nat → Nat) (k j : Nat) (hj : j < 7) (s : List Nat) : seenU kin lv k ((List.range 7).drop j) s = seenU kin lv k ((List.range 7).drop (j + 1)) (if j = k ∨ kin j k = true then insU (lv k j) s else s) := by
  rw [List.drop_eq_getElem_cons (by rw [List.length_range]; exact hj), List.getElem_range]
  rfl
theorem climb_ge {par : Nat → Option Nat} {sm w : Nat → Nat} {k v : Nat} (up : ∀ i p, i < 7 → par i = some p → p < i) : ∀ {f i acc : Nat}, i < 7 → climbV par sm w k f i acc = some v → k ≤ i
  | 0, _, _, _, h => nomatch h
  | f + 1, i, acc, hi, h => by
    unfold climbV at h
    split at h
    · exact lle [_, _] [.eq (.v 1) (.v 0)] [-1] (.v 0) (.v 1) (by exact yes) (‹i = k›)
    · split at h
      · rename_i p hp
        have := up i p hi hp
        have := climb_ge up (by exact llt [_, _] [.lt (.v 1) (.n 7), .lt (.v 0) (.v 1)] [1, 1] (.v 0) (.n 7) (by exact yes) hi this) h
        exact lle [_, _, _] [.lt (.v 2) (.v 1), .le (.v 0) (.v 2)] [1, 1] (.v 0) (.v 1) (by exact yes) (‹p < i›) this
      · cases h
variable (P : PP)
theorem nones_eq (S : MS) (m : Nat) : Paired (EqT S) (List.replicate m .none) (List.replicate m .none) := pd_rep (.flat .none) m
theorem slice_pieces {objs : List MO} {vs : List MV} {l : List Pc} (hp : Pieces objs vs l) (dom : List Nat) : Pieces objs ((vs.drop (lowB l dom)).take (highB l dom - lowB l dom)) (sliceL l dom) := Pieces.take _ (Pieces.drop _ hp)
theorem mem_slice {l : List Pc} {dom : List Nat} {p : Pc} (h : p ∈ sliceL l dom) : p ∈ l := List.mem_of_mem_drop (List.mem_of_mem_take h)
structure RowI1 (S : MS) (first : Int) (nmf : Nat → List Nat) (w : Nat → Nat) (jh jw t : Nat) (vs : List MV) (m : Nat) (r : List MV) (S' : MS) : Prop where
  a1 : r = natL (((List.range 7).map (6 - ·)).drop t)
  a2 : t ≤ 7
  a3 : m ≤ 8 * t
  a4 : Core S first (pileT nmf w t) (kvT nmf (sumV nmf w) t) (kvT nmf w t) m vs S'.objs
  a5 : RowL S.objs.length jh jw S'.loc
  a6 : S'.cel = emptyCel
structure RowI2 (S : MS) (first : Int) (nmf : Nat → List Nat) (par : Nat → Option Nat) (kin : Nat → Nat → Bool) (w : Nat → Nat) (jh jw t m kk oa ob : Nat) (vs : List MV) (j : Nat) (seen : List Nat) (m' : Nat) (r : List MV) (S'' : MS) : Prop where
  a1 : r = natL ((List.range 7).drop j)
  a2 : kk ≤ j
  a3 : j ≤ 7
  a4 : seenU kin (leftV par (sumV nmf w) w) kk ((List.range 7).drop j) seen = seenU kin (leftV par (sumV nmf w) w) kk ((List.range 7).drop kk) []
  a5 : seen.length ≤ j - kk
  a6 : m' ≤ m + (j - kk)
  a7 : Core S first (pileT nmf w t) (kvT nmf (sumV nmf w) (t + 1)) (kvT nmf w t) m' vs S''.objs
  a8 : S''.objs[oa]? = some (.list (natL seen))
  a9 : S''.objs[ob]? = some (.rng kk 7 1)
  a10 : RowL S.objs.length jh jw S''.loc
  a11 : S''.loc "k" = some (.int (kk : Nat))
  a12 : S''.loc "root" = some (.str (nmf kk))
  a13 : S''.loc "seen" = some (.ref oa)
  a14 : S''.cel = emptyCel
structure RowI3 (S : MS) (first : Int) (nmf : Nat → List Nat) (par : Nat → Option Nat) (w : Nat → Nat) (jh jw t m' kk oa ob j : Nat) (vs : List MV) (seen : List Nat) (i acc f : Nat) (S3 : MS) : Prop where
  a1 : climbV par (sumV nmf w) w kk f i acc = some (leftV par (sumV nmf w) w kk j)
  a2 : i < 7
  a3 : Core S first (pileT nmf w t) (kvT nmf (sumV nmf w) (t + 1)) (kvT nmf w t) m' vs S3.objs
  a4 : S3.objs[oa]? = some (.list (natL seen))
  a5 : S3.objs[ob]? = some (.rng kk 7 1)
  a6 : RowL S.objs.length jh jw S3.loc
  a7 : S3.loc "k" = some (.int (kk : Nat))
  a8 : S3.loc "root" = some (.str (nmf kk))
  a9 : S3.loc "seen" = some (.ref oa)
  a10 : S3.loc "rung" = some (.str (nmf i))
  a11 : S3.loc "left" = some (.int (acc : Nat))
  a12 : S3.cel = emptyCel
structure RowG1 (S : MS) (first : Int) (nmf : Nat → List Nat) (w : Nat → Nat) (jh jw t m kk oa : Nat) (vs : List MV) (O : List MO) (L : Str → Option MV) : Prop where
  a1 : Core S first (pileT nmf w t) (kvT nmf (sumV nmf w) (t + 1)) (kvT nmf w t) m vs O
  a2 : O[oa]? = some (.list (natL []))
  a3 : RowL S.objs.length jh jw L
  a4 : L "k" = some (.int (kk : Nat))
  a5 : L "root" = some (.str (nmf kk))
  a6 : L "seen" = some (.ref oa)
structure RowG2 (S : MS) (first : Int) (nmf : Nat → List Nat) (w : Nat → Nat) (jh jw t m' kk rp : Nat) (vs : List MV) (O : List MO) (L : Str → Option MV) : Prop where
  a1 : Core S first (pileT nmf w t) (kvT nmf (sumV nmf w) (t + 1)) (kvT nmf w (t + 1)) m' vs O
  a2 : O[rp]? = some (.tup [.str (pieceN nmf w kk).1, .str (pieceN nmf w kk).2])
  a3 : RowL S.objs.length jh jw L
  a4 : L "k" = some (.int (kk : Nat))
  a5 : L "piece" = some (.ref rp)
  a6 : L "count" = some (.int (vs.length : Nat))
theorem row_W {S : MS} {jh jw k : Nat} {first : Int} {nmf : Nat → List Nat} {par : Nat → Option Nat} {kin : Nat → Nat → Bool} {w : Nat → Nat} (G : Gar nmf par kin w) (eh : S.objs[jh]? = some (.list ((List.range 7).map fun k => .str (nmf k)))) (ew : WithinOK S.objs jw kin) {Q : MV → MS → Prop}
    (hQ : ∀ j jp jd vs S', Keeps S S' → S'.loc = S.loc → S'.cel = S.cel → S'.objs[j]? = some (.tup [.ref jp, .bool true]) → S'.objs[jd]? = some (.dict [(sizeKey, .int first)]) → S'.objs[jp]? = some (.acc jd vs) → Pieces S'.objs vs (pileT nmf w 7) → (∀ r, MV.ref r ∈ vs → S.objs.length ≤ r) → jp ≠ jd → Q (.ref j) S') :
    WC (TK P) (k + 200) (.glob (.ref 244)) [.ref jh, .ref jw, .int first] [] S Q := by
  refine C_fn0 (f_244 P) rfl (b_244 P) rfl ?_
  repeat infer_instance
  refine C_new ?_
  repeat infer_instance
  refine E_Dict' (i := S.objs.length + 2) (by simp) ?_
  repeat infer_instance
  refine E_Dict' (i := S.objs.length + 3) (by simp) ?_
  repeat infer_instance
  refine A_tup4 rfl (items_tup get_new) (.inr rfl) ?_
  repeat infer_instance
  refine X_For rfl rfl ?_
  repeat infer_instance
  refine C_range3' (i := S.objs.length + 6) (by simp) (by decide) ?_
  try dsimp only
  refine ⟨.rng 6 (-1) (-1), rngItems 6 (-1) (-1), fun r S' => ∃ t vs m, RowI1 S first nmf w jh jw t vs m r S', items_rng ?_ rfl, ?_, ?_, ?_⟩
  · refine get_newAt ?_
    simp
  · refine ⟨0, [], 0, rng_down, by decide, by decide, ⟨fun i o h => ?_, ?_, ?_, .nil, ?_, ?_, ?_, ?_, fun r h => nomatch h⟩, ⟨rfl, rfl, rfl, rfl, rfl, ?_⟩, rfl⟩
    · exact get_app (get_app (get_app (get_app (get_app (get_app (get_app h))))))
    · simp
    · simp
    · simp [kvT]
    · simp [kvT]
    · simp
    · simp
    · show some (MV.ref _) = _
      simp
  · rintro v r S' ⟨t, vs, m, hr, ht, hm, C, L, hc⟩
    obtain ⟨ht7, rfl, rfl⟩ := down_drop hr
    obtain ⟨objs', loc', cel'⟩ := S'
    have hc : cel' = emptyCel := hc
    subst hc
    dsimp only at C L
    refine ⟨items_rng C.r rfl, ?_⟩
    obtain ⟨l1, l2, l3, l4, l5, l6⟩ := id L
    have c0 := C.kp _ _ eh
    have hk7 : 6 - t < 7 := by exact llt [_] [.le (.v 0) (.n 6)] [1] (.v 0) (.n 7) (by exact yes) (Nat.sub_le _ _)
    have hlt := C.lt
    have hn : (nmf (6 - t)).length ≤ 200 := G.len _ hk7
    have hst : stopLen = 4096 := rfl
    have hvs : vs.length = t := by rw [C.p.len, pile_len]
    repeat infer_instance
    refine X_Swap rfl rfl rfl ?_
    repeat infer_instance
    refine G_list (by exact ix (lle [_] [.le (.v 0) (.n 6)] [1] (.v 0) (.n 4096) (by exact yes) (Nat.sub_le _ _))) (by array_get_dec) (v := .str (nmf (6 - t))) (by rw [Int.toNat_natCast, List.getElem?_map, List.getElem?_range hk7]; rfl) ?_
    repeat infer_instance
    refine below_W P (C.app _ |>.app _).a (C.app _ |>.app _).d (C.app _ |>.app _).p (fun p hp => ?_) (by exact lle [_, _] [.lt (.v 1) (.n 7), .eq (.v 0) (.v 1)] [1, 1] (.v 0) (.n 64) (by exact yes) ht7 hvs) (by exact lle [_] [.le (.v 0) (.n 200)] [1] (.v 0) (.n 4000) (by exact yes) hn) ?_
    · obtain ⟨i, hi, rfl⟩ := pile_mem ht hp
      have := G.len i hi
      show (nmf i).length ≤ 4000
      exact lle [_] [.le (.v 0) (.n 200)] [1] (.v 0) (.n 4000) (by exact yes) this
    repeat infer_instance
    refine together_W P (l := sliceL (pileT nmf w t) (46 :: nmf (6 - t))) get_new (slice_pieces (C.app _ |>.app _ |>.app _).p _) (fun p hp => ?_) ?_
    · obtain ⟨i, hi, rfl⟩ := pile_mem ht (mem_slice hp)
      have := G.small i hi
      show (List.replicate (w i) 32).length ≤ stopLen
      rw [List.length_replicate]; exact lle [_, _] [.eq (.v 1) (.n 4096), .le (.v 0) (.n 64)] [-1, 1] (.v 0) (.v 1) (by exact yes) hst this
    repeat infer_instance
    refine A_sub ?_
    repeat infer_instance
    refine I_dict (C.app _ |>.app _ |>.app _).s (by rw [kv_len]; exact llt [_] [.lt (.v 0) (.n 7)] [1] (.v 0) (.n 64) (by exact yes) ht7) ?_
    try dsimp only
    obtain ⟨kk, hkk⟩ : ∃ x, x = 6 - t := ⟨_, rfl⟩
    refine WB_gen (fun O L => RowG1 S first nmf w jh jw t m kk objs'.length vs O L) ⟨?_, ?_, ⟨l1, l2, l3, l4, l5, l6⟩, by rw [hkk]; rfl, by rw [hkk]; rfl, rfl⟩ ?_
    · have h1 := (C.app (.list []) |>.app (.tup [MV.str (nmf (6 - t)), MV.ref objs'.length]) |>.app (.list ((vs.drop (lowB (pileT nmf w t) (46 :: nmf (6 - t)))).take (highB (pileT nmf w t) (46 :: nmf (6 - t)) - lowB (pileT nmf w t) (46 :: nmf (6 - t)))))).setS (sk' := kvT nmf (sumV nmf w) (t + 1))
      rw [← kv_put G.inj _ ht7] at h1 ⊢
      have h2 : sumV nmf w (6 - t) = xorL (sliceL (pileT nmf w t) (46 :: nmf (6 - t))) := by unfold sumV; rw [show 6 - (6 - t) = t by exact leq [_, _, _] [.eq (.a (.v 0) (.v 2)) (.n 6), .eq (.a (.v 2) (.v 1)) (.n 6)] [1, -1] [-1, 1] (.v 0) (.v 1) (by exact yes) (by exact yes) (Nat.sub_add_cancel (lle [_] [.le (.v 0) (.n 6)] [1] (.v 0) (.n 6) (by exact yes) (Nat.sub_le _ _))) (Nat.sub_add_cancel (lle [_] [.lt (.v 0) (.n 7)] [1] (.v 0) (.n 6) (by exact yes) ht7))]
      rw [h2] at h1 ⊢
      exact h1
    · array_get_dec
    clear l1 l2 l3 l4 l5 l6 c0
    rintro O L' ⟨C, hse, L, lk, lr, ls⟩
    rw [← hkk] at hk7 hn
    have hrok : rngOk (kk : Int) 7 1 = true := by
      unfold rngOk
      exact decide_eq_true ⟨.inl rfl, by exact Int.le_trans (by decide) (Int.natCast_nonneg _), by exact Int.ofNat_le (n := 2000) |>.mpr (lle [_, _] [.eq (.v 0) (.v 1), .le (.v 1) (.n 6)] [1, 1] (.v 0) (.n 2000) (by exact yes) hkk (Nat.sub_le _ _)), by decide, by decide⟩
    have hlt2 : S.objs.length + 6 < objs'.length := hlt
    have hso := get_lt hse
    refine W_cons (X_For rfl rfl ?_)
    repeat infer_instance
    refine C_range2' (i := O.length) rfl (by exact ⟨Int.natCast_nonneg _, ⟨Int.ofNat_le (n := 1000) |>.mpr (lle [_, _] [.eq (.v 0) (.v 1), .le (.v 1) (.n 6)] [1, 1] (.v 0) (.n 1000) (by exact yes) hkk (Nat.sub_le _ _)), ⟨by decide, by decide⟩⟩⟩) ?_
    try dsimp only
    refine ⟨.rng kk 7 1, rngItems kk 7 1, fun r S'' => ∃ j seen m', RowI2 S first nmf par kin w jh jw t m kk objs'.length O.length vs j seen m' r S'', items_rng get_new hrok, ?_, ?_, ?_⟩
    · exact ⟨kk, [], m, rng_from kk hk7, Nat.le_refl _, by exact lle [_, _] [.eq (.v 0) (.v 1), .le (.v 1) (.n 6)] [1, 1] (.v 0) (.n 7) (by exact yes) hkk (Nat.sub_le _ _), rfl, by simp, by exact lle [_, _] [] [] (.v 0) (.a (.v 0) (.v 1)) (by exact yes), C.app _, get_app hse, get_new, ⟨L.h, L.wi, L.p, L.s, L.w, L.g⟩, lk, lr, ls, rfl⟩
    · rintro v r ⟨O2, L2, c2⟩ ⟨j, seen, m', hr2, hkj, hj7, hsu, hsl, hm', C2, hse2, hrg2, R2, lk2, lr2, ls2, hc2⟩
      obtain ⟨hj, rfl, rfl⟩ := natL_range_drop hr2
      have hc2 : c2 = emptyCel := hc2
      subst hc2
      dsimp only at C2 hse2 hrg2 R2 lk2 lr2 ls2
      refine ⟨items_rng hrg2 hrok, ?_⟩
      rw [seenU_step _ _ _ _ hj] at hsu
      obtain ⟨q1, q2, q3, q4, q5, q6⟩ := id R2
      have eh2 := C2.kp _ _ eh
      obtain ⟨rs, hrs, hrl, hrow⟩ := ew
      obtain ⟨rj, bs, hrj, hbs, hbk⟩ := hrow j hj
      have ers := C2.kp _ _ hrs
      have ebs := C2.kp _ _ hbs
      refine A_local rfl (W_cons (X_If (WT_post (Q' := fun b S1 => b = decide (j = kk ∨ kin j kk = true) ∧ S1.objs = O2 ∧ S1.cel = emptyCel ∧ S1.loc = upd L2 "j" (.int j)) ?_ ?_)))
      · repeat infer_instance
        refine C_eqi (B_if (fun h => ?_) fun h => ?_)
        · have h : j = kk := by have := eq_of_beq h; omega
          exact ⟨(decide_eq_true (.inl h)).symm, rfl, rfl, rfl⟩
        · have h : j ≠ kk := by rintro rfl; simp at h
          refine T_Sub ?_
          repeat infer_instance
          refine G_list (by exact ix (lle [_] [.lt (.v 0) (.n 7)] [1] (.v 0) (.n 4096) (by exact yes) hj)) (by array_get_dec) (v := .ref rj) (by rw [Int.toNat_natCast, List.getElem?_map, hrj]; rfl) ?_
          repeat infer_instance
          refine G_list (by exact ix (lle [_, _] [.le (.v 0) (.v 1), .lt (.v 1) (.n 7)] [1, 1] (.v 0) (.n 4096) (by exact yes) hkj hj)) (by array_get_dec) (v := .bool (kin j kk)) (by rw [Int.toNat_natCast]; exact hbk kk hkj) ?_
          repeat infer_instance
          refine ⟨?_, rfl, rfl, rfl⟩
          rw [Bool.eq_iff_iff, decide_eq_true_iff]
          exact ⟨.inr, fun h' => h'.resolve_left h⟩
      rintro b ⟨O3, L3, c3⟩ ⟨rfl, e1, e2, e3⟩
      have e1 : O3 = O2 := e1
      have e2 : c3 = emptyCel := e2
      have e3 : L3 = _ := e3
      subst e1 e2 e3
      refine B_if (fun hcd => ?_) fun hcd => ?_
      · have hcd := of_decide_eq_true hcd
        rw [if_pos hcd] at hsu
        obtain ⟨hcl, _⟩ := G.climb kk j hk7 hj hkj hcd
        repeat infer_instance
        refine X_Swap rfl rfl rfl ?_
        repeat infer_instance
        refine G_list (by exact ix (lle [_] [.lt (.v 0) (.n 7)] [1] (.v 0) (.n 4096) (by exact yes) hj)) (by array_get_dec) (v := .str (nmf j)) (by rw [Int.toNat_natCast, List.getElem?_map, List.getElem?_range hj]; rfl) ?_
        refine G_dict C2.s (kv_at G.inj _ (by exact lle [_] [.lt (.v 0) (.n 7)] [1] (.a (.v 0) (.n 1)) (.n 7) (by exact yes) ht7) hj (by exact Nat.lt_succ_of_le (Nat.sub_le_of_le_add (lle [_, _, _, _] [.eq (.v 2) (.v 3), .le (.v 2) (.v 1), .le (.n 6) (.a (.v 3) (.v 0))] [-1, 1, 1] (.n 6) (.a (.v 0) (.v 1)) (by exact yes) hkk (‹kk ≤ j›) (sbl _ _))))) ?_
        repeat infer_instance
        refine G_list (by exact ix (lle [_] [.lt (.v 0) (.n 7)] [1] (.v 0) (.n 4096) (by exact yes) hj)) (by array_get_dec) (v := .str (nmf j)) (by rw [Int.toNat_natCast, List.getElem?_map, List.getElem?_range hj]; rfl) ?_
        refine W_cons (X_While (fun f S3 => ∃ i acc, RowI3 S first nmf par w jh jw t m' kk objs'.length O.length j vs seen i acc f S3) ?_ ?_ ?_)
        · exact ⟨j, _, hcl, hj, C2.app _, get_app hse2, get_app hrg2, ⟨q1, q2, q3, q4, q5, q6⟩, lk2, lr2, ls2, rfl, rfl, rfl⟩
        · rintro S3 ⟨i, acc, h, _⟩
          cases h
        · rintro f ⟨O4, L4, c4⟩ ⟨i, acc, hcv, hi7, C4, hse4, hrg4, R4, lk4, lr4, ls4, lg4, lf4, hc4⟩
          have hc4 : c4 = emptyCel := hc4
          subst hc4
          dsimp only at C4 hse4 hrg4 R4 lk4 lr4 ls4 lg4 lf4
          obtain ⟨u1, u2, u3, u4, u5, u6⟩ := id R4
          have hki := climb_ge (fun i p h1 h2 => (G.up i p h1 h2).1) hi7 hcv
          have hi200 := G.len i hi7
          unfold climbV at hcv
          repeat infer_instance
          refine C_nes (B_if (fun hne => ?_) fun hne => ?_)
          · have hik : i ≠ kk := by rintro rfl; simp at hne
            rw [if_neg hik] at hcv
            cases hpi : par i with
            | none => rw [hpi] at hcv; cases hcv
            | some p =>
            rw [hpi] at hcv
            obtain ⟨hpl, hpr⟩ := G.up i p hi7 hpi
            have hkp := climb_ge (fun i p h1 h2 => (G.up i p h1 h2).1) (by exact llt [_, _] [.lt (.v 1) (.n 7), .lt (.v 0) (.v 1)] [1, 1] (.v 0) (.n 7) (by exact yes) hi7 hpl) hcv
            have hpl2 := G.len p (by exact llt [_, _] [.lt (.v 1) (.n 7), .lt (.v 0) (.v 1)] [1, 1] (.v 0) (.n 7) (by exact yes) hi7 hpl)
            repeat infer_instance
            refine reach_W P (by exact lle [_] [.le (.v 0) (.n 200)] [1] (.v 0) (.n 4000) (by exact yes) hi200) ?_
            rw [hpr]
            repeat infer_instance
            refine S_from ⟨by decide, ?_, ?_⟩ ?_
            · show 1 ≤ (nmf p).length + 1
              exact lle [_] [] [] (.n 1) (.a (.v 0) (.n 1)) (by exact yes)
            · show (nmf p).length + 1 ≤ stopLen
              exact lle [_, _] [.eq (.v 1) (.n 4096), .le (.v 0) (.n 200)] [-1, 1] (.a (.v 0) (.n 1)) (.v 1) (by exact yes) hst hpl2
            repeat infer_instance
            refine X_Swap rfl rfl rfl ?_
            repeat infer_instance
            refine G_dict C4.s (kv_at G.inj _ (k := p) (by exact lle [_] [.lt (.v 0) (.n 7)] [1] (.a (.v 0) (.n 1)) (.n 7) (by exact yes) ht7) (by exact llt [_, _] [.lt (.v 1) (.n 7), .lt (.v 0) (.v 1)] [1, 1] (.v 0) (.n 7) (by exact yes) hi7 hpl) (by exact Nat.lt_succ_of_le (Nat.sub_le_of_le_add (lle [_, _, _, _] [.eq (.v 2) (.v 3), .le (.v 2) (.v 1), .le (.n 6) (.a (.v 3) (.v 0))] [-1, 1, 1] (.n 6) (.a (.v 0) (.v 1)) (by exact yes) hkk hkp (sbl _ _))))) ?_
            refine B_xor ?_
            repeat infer_instance
            refine G_dict C4.w (kv_at G.inj _ (k := i) (by exact lle [_] [.lt (.v 0) (.n 7)] [1] (.v 0) (.n 7) (by exact yes) ht7) (by exact hi7) (by exact llt [_, _, _, _, _, _] [.eq (.v 2) (.v 3), .lt (.v 4) (.v 5), .le (.v 2) (.v 4), .eq (.a (.v 0) (.v 5)) (.n 6), .le (.n 6) (.a (.v 3) (.v 1))] [-1, 1, 1, 1, 1] (.v 0) (.v 1) (by exact yes) hkk hpl hkp (Nat.sub_add_cancel (lle [_] [.lt (.v 0) (.n 7)] [1] (.v 0) (.n 6) (by exact yes) hi7)) (sbl _ _))) ?_
            refine B_xor ?_
            repeat infer_instance
            exact ⟨p, _, hcv, by exact llt [_, _] [.lt (.v 1) (.n 7), .lt (.v 0) (.v 1)] [1, 1] (.v 0) (.n 7) (by exact yes) hi7 hpl, C4.app _, get_app hse4, get_app hrg4, ⟨u1, u2, u3, u4, u5, u6⟩, lk4, lr4, ls4, rfl, rfl, rfl⟩
          · have hik : i = kk := by
              apply G.inj _ _ hi7 hk7
              simpa using hne
            rw [if_pos hik] at hcv
            cases hcv
            obtain ⟨lv, hlv⟩ : ∃ x, x = leftV par (sumV nmf w) w kk j := ⟨_, rfl⟩
            rw [← hlv] at hsu lf4
            have hb1 : ∀ (i : Nat) v, (natL seen)[i]? = some v → ltM v (.int (lv : Nat)) = some (decide (seen.getD i 0 < lv)) := by
              intro i v hv
              rw [natL_get hv]
              show some (decide (((seen.getD i 0 : Nat) : Int) < (lv : Nat))) = _
              congr 1
              rw [decide_eq_decide]; omega
            have hb2 : ∀ (i : Nat) v, (natL seen)[i]? = some v → ltM (.int (lv : Nat)) v = some (!!decide (lv < seen.getD i 0)) := by
              intro i v hv
              rw [natL_get hv]
              show some (decide (((lv : Nat) : Int) < (seen.getD i 0 : Nat))) = _
              congr 1
              rw [Bool.not_not, decide_eq_decide]; omega
            have hsl64 : (natL seen).length ≤ 64 := by rw [natL_len]; exact lle [_, _, _] [.le (.v 0) (.v 1), .lt (.v 2) (.n 7), .le (.v 1) (.v 2)] [1, 1, 1] (.v 0) (.n 64) (by exact yes) hsl hj (Nat.sub_le _ _)
            repeat infer_instance
            refine bisL2 P hse4 hsl64 hb1 ?_
            repeat infer_instance
            refine bisR2 P hse4 hsl64 hb2 ?_
            rw [natL_len]
            refine C_eqi (B_if (fun hq => ?_) fun hq => ?_)
            · have hq : uL lv seen = uR lv seen := by
                have := eq_of_beq hq
                unfold uL uR; omega
              have hins : insU lv seen = insAt (uL lv seen) lv seen := if_pos hq
              rw [hins] at hsu
              repeat infer_instance
              refine K_list C4.g ?_
              repeat infer_instance
              refine insL2 P hse4 hsl64 hb1 ?_
              rw [natL_len, natL_ins]
              repeat infer_instance
              refine M_append (C4.setL hse4 (by exact hlt2)).g (by rw [List.length_replicate]; exact llt [_, _, _, _, _] [.le (.v 1) (.m 8 (.v 2)), .lt (.v 2) (.n 7), .le (.v 0) (.a (.v 1) (.v 3)), .lt (.v 4) (.n 7), .le (.v 3) (.v 4)] [1, 8, 1, 1, 1] (.v 0) (.n 4096) (by exact yes) hm ht7 hm' hj (Nat.sub_le _ _)) ⟨rfl, ?_⟩
              repeat infer_instance
              refine ⟨j + 1, insAt (uL lv seen) lv seen, m' + 1, rfl, by exact lle [_, _] [.le (.v 0) (.v 1)] [1] (.v 0) (.a (.v 1) (.n 1)) (by exact yes) (‹kk ≤ j›), hj, hsu, by rw [insAt_len]; exact lle [_, _, _, _, _] [.le (.v 0) (.v 2), .eq (.a (.v 1) (.v 3)) (.a (.v 4) (.n 1)), .eq (.a (.v 2) (.v 3)) (.v 4)] [1, -1, 1] (.a (.v 0) (.n 1)) (.v 1) (by exact yes) hsl (Nat.sub_add_cancel (lle [_, _] [.le (.v 0) (.v 1)] [1] (.v 0) (.a (.v 1) (.n 1)) (by exact yes) (‹kk ≤ j›))) (Nat.sub_add_cancel (‹kk ≤ j›)), by exact lle [_, _, _, _, _, _] [.le (.v 0) (.a (.v 1) (.v 3)), .eq (.a (.v 2) (.v 4)) (.a (.v 5) (.n 1)), .eq (.a (.v 3) (.v 4)) (.v 5)] [1, -1, 1] (.a (.v 0) (.n 1)) (.a (.v 1) (.v 2)) (by exact yes) hm' (Nat.sub_add_cancel (lle [_, _] [.le (.v 0) (.v 1)] [1] (.v 0) (.a (.v 1) (.n 1)) (by exact yes) (‹kk ≤ j›))) (Nat.sub_add_cancel (‹kk ≤ j›)), (C4.setL hse4 (by exact hlt2)).setG, get_set (get_set_same hse4) (by exact fun hz => lif [_, _] [.eq (.v 0) (.a (.v 1) (.n 4)), .lt (.a (.v 1) (.n 6)) (.v 0)] [1, 1] (by exact yes) hz hlt2), get_set (get_set hrg4 (by exact fun hz => lif [_, _] [.eq (.v 0) (.v 1), .lt (.v 1) (.v 0)] [1, 1] (by exact yes) hz hso)) (by exact fun hz => lif [_, _, _] [.eq (.v 0) (.a (.v 1) (.n 4)), .lt (.a (.v 1) (.n 6)) (.v 2), .lt (.v 2) (.v 0)] [1, 1, 1] (by exact yes) hz hlt2 hso), ⟨u1, u2, u3, u4, u5, u6⟩, lk4, lr4, ls4, rfl⟩
            · have hq : ¬ uL lv seen = uR lv seen := by
                intro hc
                unfold uL uR at hc
                rw [hc] at hq
                simp at hq
              have hins : insU lv seen = seen := if_neg hq
              rw [hins] at hsu
              repeat infer_instance
              exact ⟨j + 1, seen, m', rfl, by exact lle [_, _] [.le (.v 0) (.v 1)] [1] (.v 0) (.a (.v 1) (.n 1)) (by exact yes) (‹kk ≤ j›), hj, hsu, by exact lle [_, _, _] [.le (.v 0) (.v 2), .le (.v 2) (.v 1)] [1, 1] (.v 0) (.v 1) (by exact yes) hsl (Nat.sub_le_sub_right (lle [_] [] [] (.v 0) (.a (.v 0) (.n 1)) (by exact yes)) _), by exact lle [_, _, _, _] [.le (.v 0) (.a (.v 1) (.v 3)), .le (.v 3) (.v 2)] [1, 1] (.v 0) (.a (.v 1) (.v 2)) (by exact yes) hm' (Nat.sub_le_sub_right (lle [_] [] [] (.v 0) (.a (.v 0) (.n 1)) (by exact yes)) _), C4, hse4, hrg4, ⟨u1, u2, u3, u4, u5, u6⟩, lk4, lr4, ls4, rfl⟩
      · have hcd := of_decide_eq_false hcd
        rw [if_neg hcd] at hsu
        repeat infer_instance
        exact ⟨j + 1, seen, m', rfl, by exact lle [_, _] [.le (.v 0) (.v 1)] [1] (.v 0) (.a (.v 1) (.n 1)) (by exact yes) hkj, hj, hsu, by exact lle [_, _, _] [.le (.v 0) (.v 2), .le (.v 2) (.v 1)] [1, 1] (.v 0) (.v 1) (by exact yes) hsl (Nat.sub_le_sub_right (lle [_] [] [] (.v 0) (.a (.v 0) (.n 1)) (by exact yes)) _), by exact lle [_, _, _, _] [.le (.v 0) (.a (.v 1) (.v 3)), .le (.v 3) (.v 2)] [1, 1] (.v 0) (.a (.v 1) (.v 2)) (by exact yes) hm' (Nat.sub_le_sub_right (lle [_] [] [] (.v 0) (.a (.v 0) (.n 1)) (by exact yes)) _), C2, hse2, hrg2, ⟨q1, q2, q3, q4, q5, q6⟩, lk2, lr2, ls2, rfl⟩
    · rintro ⟨O2, L2, c2⟩ ⟨j, seen, m', hr2, hkj, hj7, hsu, hsl, hm', C2, hse2, hrg2, R2, lk2, lr2, ls2, hc2⟩
      have hj := natL_nil_drop hr2
      obtain rfl : j = 7 := by exact leq [_] [.le (.v 0) (.n 7), .le (.n 7) (.v 0)] [1, 0] [0, 1] (.v 0) (.n 7) (by exact yes) (by exact yes) hj7 hj
      have hc2 : c2 = emptyCel := hc2
      subst hc2
      dsimp only at C2 hse2 hrg2 R2 lk2 lr2 ls2
      refine ⟨items_rng hrg2 hrok, ?_⟩
      have hsu : seen = seenU kin (leftV par (sumV nmf w) w) kk ((List.range 7).drop kk) [] := hsu
      have hlack := G.lack kk hk7
      rw [← hsu] at hlack
      obtain ⟨q1, q2, q3, q4, q5, q6⟩ := id R2
      repeat infer_instance
      refine lacking_W P hse2 (by exact lle [_, _] [.le (.v 0) (.v 1), .le (.v 1) (.n 7)] [1, 1] (.v 0) (.n 64) (by exact yes) hsl (Nat.sub_le _ _)) ?_
      rintro ⟨O3, L3, c3⟩ hk3 e3 e2
      have e2 : c3 = emptyCel := e2
      have e3 : L3 = L2 := e3
      subst e2 e3
      have C3 := C2.keeps hk3
      refine A_sub ?_
      repeat infer_instance
      refine I_dict C3.w (by rw [kv_len]; exact llt [_] [.lt (.v 0) (.n 7)] [1] (.v 0) (.n 64) (by exact yes) ht7) ?_
      rw [← hlack]
      have C5 : Core S first (pileT nmf w t) (kvT nmf (sumV nmf w) (t + 1)) (kvT nmf w (t + 1)) m' vs (O3.set (S.objs.length + 3) (.dict (putKey (kvT nmf w t) (nmf kk) (.int (w kk : Nat))))) := by
        have h := C3.setW (wk' := kvT nmf w (t + 1))
        have e := kv_put G.inj w ht7
        rw [← hkk] at e
        rw [e]
        exact h
      try dsimp only
      have hput : putKey (kvT nmf w t) (nmf kk) (.int (w kk : Nat)) = kvT nmf w (t + 1) := by
        have e := kv_put G.inj w ht7
        rw [← hkk] at e
        exact e
      have hw64 := G.small kk hk7
      repeat infer_instance
      refine X_Swap rfl rfl rfl ?_
      repeat infer_instance
      refine G_dict C5.w (kv_at G.inj _ (k := kk) (by exact lle [_] [.lt (.v 0) (.n 7)] [1] (.a (.v 0) (.n 1)) (.n 7) (by exact yes) ht7) hk7 (by exact llt [_, _, _, _] [.eq (.v 2) (.v 3), .eq (.a (.v 0) (.v 2)) (.n 6), .le (.n 6) (.a (.v 3) (.v 1))] [-1, 1, 1] (.v 0) (.a (.v 1) (.n 1)) (by exact yes) hkk (Nat.sub_add_cancel (lle [_, _] [.eq (.v 0) (.v 1), .le (.v 1) (.n 6)] [1, 1] (.v 0) (.n 6) (by exact yes) hkk (Nat.sub_le _ _))) (sbl _ _))) ?_
      refine B_rep (by exact ⟨Int.natCast_nonneg _, Int.ofNat_le (n := 64) |>.mpr (hw64)⟩) ?_
      rw [Int.toNat_natCast]
      repeat infer_instance
      refine K_acc (C5.app _).a (C5.app _).d ?_
      repeat infer_instance
      refine M_count (C5.app _).a (by exact lle [_, _, _] [.lt (.v 2) (.n 7), .eq (.v 1) (.n 4096), .eq (.v 0) (.v 2)] [1, -1, 1] (.v 0) (.v 1) (by exact yes) ht7 hst hvs) ?_
      try dsimp only
      have hrlt := get_lt C5.r
      obtain ⟨rp, hrp⟩ : ∃ x, x = (O3.set (S.objs.length + 3) (.dict (putKey (kvT nmf w t) (nmf kk) (.int (w kk : Nat))))).length := ⟨_, rfl⟩
      have hrp0 : S.objs.length ≤ rp := by rw [hrp]; exact lle [_, _] [.lt (.a (.v 0) (.n 6)) (.v 1)] [1] (.v 0) (.v 1) (by exact yes) hrlt
      rw [← hrp]
      refine WB_gen (fun O L => RowG2 S first nmf w jh jw t m' kk rp vs O L) ⟨(C5.app _).app _, get_app (get_newAt hrp), ⟨q1, q2, q3, q4, q5, q6⟩, lk2, rfl, rfl⟩ ?_
      rintro O7 L7 ⟨C7, hrp7, R7, lk7, lp7, lc7⟩
      obtain ⟨u1, u2, u3, u4, u5, u6⟩ := id R7
      have hX : ∀ f S' (Q' : MV → MS → Prop), S'.objs = O7 → Q' (.str (reachL (nmf kk))) S' → WC (TK P) (f + 40) (.glob (.ref 216)) [.ref rp] [] S' Q' := by
        intro f S' Q' ho hq
        exact domain_W P (b := (pieceN nmf w kk).1) (h := (pieceN nmf w kk).2) (by rw [ho]; exact hrp7) (Nat.le_trans hn (by decide)) hq
      have hL : ∀ f (i : Nat) v S' (Q' : MV → MS → Prop), vs[i]? = some v → S'.objs = O7 → Q' (.str (reachL ((pileT nmf w t).getD i ([], [])).2)) S' → WC (TK P) (f + 40) (.glob (.ref 216)) [v] [] S' Q' := by
        intro f i v S' Q' hv ho hq
        obtain ⟨r, p, rfl, h1, h2⟩ := C7.p.get hv
        obtain ⟨i', hi', hp'⟩ := pile_mem ht (List.mem_of_getElem? h1)
        refine domain_W P (b := p.1) (h := p.2) (by rw [ho]; exact h2) (by rw [hp']; exact Nat.le_trans (G.len i' hi') (by decide)) ?_
        rw [getD_of h1] at hq; exact hq
      have hlen : vs.length = (pileT nmf w t).length := C7.p.len
      repeat infer_instance
      refine B_mod (by decide) ?_
      rw [show ((kk : Nat) : Int).fmod 2 = ((kk % 2 : Nat) : Int) by rw [Int.fmod_eq_emod_of_nonneg _ (by decide)]; rfl]
      repeat infer_instance
      refine C_eqi (B_if (fun hq => ?_) fun hq => ?_)
      · have hq : kk % 2 = 0 := by have := eq_of_beq hq; omega
        repeat infer_instance
        refine K_list C7.g ?_
        repeat infer_instance
        refine insL5 P (X := .str (reachL (nmf kk))) (p := fun i => decide (reachL ((pileT nmf w t).getD i ([], [])).2 < reachL (nmf kk))) C7.a C7.d (by exact lle [_, _] [.lt (.v 1) (.n 7), .eq (.v 0) (.v 1)] [1, 1] (.v 0) (.n 64) (by exact yes) ht7 hvs) rfl (fun S' Q' ho hq => hX _ S' Q' ho hq) (fun i v S' Q' hv ho hq => hL _ i v S' Q' hv ho (hq _ rfl)) ?_
        repeat infer_instance
        refine M_append (C7.setA (C7.p.ins hrp7) (ins_ge C7.ge (by exact hrp0))).g (by rw [List.length_replicate]; exact llt [_, _, _, _] [.le (.v 1) (.m 8 (.v 2)), .lt (.v 2) (.n 7), .le (.v 0) (.a (.v 1) (.v 3)), .le (.v 3) (.n 7)] [1, 8, 1, 1] (.v 0) (.n 4096) (by exact yes) hm ht7 hm' (Nat.sub_le _ _)) ⟨rfl, ?_⟩
        repeat infer_instance
        have h8 := (C7.setA (C7.p.ins (k := bisP (fun i => decide (reachL ((pileT nmf w t).getD i ([], [])).2 < reachL (nmf kk))) 63 0 vs.length) hrp7) (ins_ge C7.ge (by exact hrp0))).setG
        have hpt : pileT nmf w (t + 1) = insAt (bisP (fun i => decide (reachL ((pileT nmf w t).getD i ([], [])).2 < reachL (nmf kk))) 63 0 vs.length) (pieceN nmf w kk) (pileT nmf w t) := by
          show insK nmf w (6 - t) (pileT nmf w t) = _
          unfold insK
          rw [← hkk, if_pos hq, hlen]; rfl
        rw [← hpt] at h8
        exact ⟨t + 1, _, m' + 1, rfl, ht7, by exact lle [_, _, _, _] [.le (.v 2) (.m 8 (.v 1)), .le (.v 0) (.a (.v 2) (.v 3)), .le (.v 3) (.n 7)] [1, 1, 1] (.a (.v 0) (.n 1)) (.m 8 (.a (.v 1) (.n 1))) (by exact yes) hm hm' (Nat.sub_le _ _), h8, ⟨u1, u2, u3, u4, u5, u6⟩, rfl⟩
      · have hq : ¬ kk % 2 = 0 := by
          intro hc
          rw [hc] at hq
          exact nomatch hq
        repeat infer_instance
        refine K_list C7.g ?_
        repeat infer_instance
        refine insR5 P (X := .str (reachL (nmf kk))) (p := fun i => !decide (reachL (nmf kk) < reachL ((pileT nmf w t).getD i ([], [])).2)) C7.a C7.d (by exact lle [_, _] [.eq (.v 0) (.v 1), .le (.v 1) (.n 7)] [1, 1] (.v 0) (.n 64) (by exact yes) hvs ht) rfl (fun S' Q' ho hq => hX _ S' Q' ho hq) (fun i v S' Q' hv ho hq => hL _ i v S' Q' hv ho (hq _ (by rw [Bool.not_not]; rfl))) ?_
        repeat infer_instance
        refine M_append (C7.setA (C7.p.ins hrp7) (ins_ge C7.ge (by exact hrp0))).g (by rw [List.length_replicate]; exact llt [_, _, _, _] [.le (.v 1) (.m 8 (.v 2)), .le (.v 0) (.a (.v 1) (.v 3)), .le (.v 2) (.n 7), .le (.v 3) (.n 7)] [1, 1, 8, 1] (.v 0) (.n 4096) (by exact yes) hm hm' ht (Nat.sub_le _ _)) ⟨rfl, ?_⟩
        repeat infer_instance
        have h8 := (C7.setA (C7.p.ins (k := bisP (fun i => !decide (reachL (nmf kk) < reachL ((pileT nmf w t).getD i ([], [])).2)) 63 0 vs.length) hrp7) (ins_ge C7.ge (by exact hrp0))).setG
        have hpt : pileT nmf w (t + 1) = insAt (bisP (fun i => !decide (reachL (nmf kk) < reachL ((pileT nmf w t).getD i ([], [])).2)) 63 0 vs.length) (pieceN nmf w kk) (pileT nmf w t) := by
          show insK nmf w (6 - t) (pileT nmf w t) = _
          unfold insK
          rw [← hkk, if_neg hq, hlen]; rfl
        rw [← hpt] at h8
        exact ⟨t + 1, _, m' + 1, rfl, ht7, by exact lle [_, _, _, _] [.le (.v 2) (.m 8 (.v 1)), .le (.v 0) (.a (.v 2) (.v 3)), .le (.v 3) (.n 7)] [1, 1, 1] (.a (.v 0) (.n 1)) (.m 8 (.a (.v 1) (.n 1))) (by exact yes) hm hm' (Nat.sub_le _ _), h8, ⟨u1, u2, u3, u4, u5, u6⟩, rfl⟩
  · rintro ⟨O, L', c⟩ ⟨t, vs, m, hr, ht, hm, C, L, hc⟩
    have ht7 := down_nil hr
    obtain rfl : t = 7 := by exact leq [_] [.le (.v 0) (.n 7), .le (.n 7) (.v 0)] [1, 0] [0, 1] (.v 0) (.n 7) (by exact yes) (by exact yes) ht ht7
    have hc : c = emptyCel := hc
    subst hc
    dsimp only at C L
    refine ⟨items_rng C.r rfl, ?_⟩
    obtain ⟨l1, l2, l3, l4, l5, l6⟩ := id L
    repeat infer_instance
    refine C_len (L_list (get_app C.g) (by rw [List.length_replicate]; exact Nat.le_trans hm (by decide)) ?_)
    rw [List.length_replicate]
    refine B_nones get_new (by exact ix (lle [_] [.le (.v 0) (.n 56)] [1] (.v 0) (.n 4096) (by exact yes) hm)) ?_
    rw [Int.toNat_natCast]
    refine C_eql (get_app (get_app C.g)) get_new (nones_eq _ m) ?_
    repeat infer_instance
    refine hQ _ (S.objs.length + 1) S.objs.length vs _ ?_ ?_ ?_ ?_ ?_ ?_ ?_ ?_ ?_
    · exact fun i o h => get_app (get_app (get_app (C.kp i o h)))
    · rfl
    · rfl
    · exact get_new
    · exact get_app (get_app (get_app C.d))
    · exact get_app (get_app (get_app C.a))
    · exact (C.app _ |>.app _ |>.app _).p
    · exact C.ge
    · exact fun hz => lif [_] [.eq (.a (.v 0) (.n 1)) (.v 0)] [1] (by exact yes) hz
theorem strs_eq (S : MS) (l : List (List Nat)) : Paired (EqT S) (l.map .str) (l.map .str) := by
  induction l with
  | nil => exact .nil
  | cons x l ih => exact .cons (.flat (.str x)) ih
/-- two rows of like pieces, no piece in both -/
theorem pieces_eq {S : MS} {l : List Pc} {vs us : List MV} (h1 : Pieces S.objs vs l) (h2 : Pieces S.objs us l) (hd : ∀ a b, MV.ref a ∈ vs → MV.ref b ∈ us → a ≠ b) : Paired (EqT S) vs us := by
  induction l generalizing vs us with
  | nil => cases h1; cases h2; exact .nil
  | cons p l ih =>
    obtain ⟨⟩ | ⟨⟨i, rfl, e1⟩, h1⟩ := h1
    obtain ⟨⟩ | ⟨⟨j, rfl, e2⟩, h2⟩ := h2
    exact .cons (.tup (hd i j (List.mem_cons_self ..) (List.mem_cons_self ..)) e1 e2 (.cons (.str _) (.cons (.str _) .nil))) (ih h1 h2 fun a b ha hb => hd a b (List.mem_cons_of_mem _ ha) (List.mem_cons_of_mem _ hb))
theorem catL_cons (p : Pc) (l : List Pc) : catL (p :: l) = p.1 ++ p.2 ++ catL l := List.flatMap_cons
theorem join_cat (l : List Pc) : joinL [] (l.map fun p => p.1 ++ p.2) = catL l := by
  induction l with
  | nil => rfl
  | cons p l ih =>
    rw [catL_cons, ← ih]
    cases l with
    | nil => exact (List.append_nil _).symm
    | cons p' l => show (p.1 ++ p.2) ++ [] ++ _ = _; rw [List.append_nil]
theorem cat_len {n : Nat} {l : List Pc} (h : ∀ p ∈ l, p.1.length + p.2.length ≤ n) : (catL l).length ≤ n * l.length := by
  induction l with
  | nil => exact Nat.zero_le _
  | cons p l ih =>
    have h1 := h p (List.mem_cons_self ..)
    have h2 := ih fun p hp => h p (List.mem_cons_of_mem _ hp)
    rw [catL_cons, List.length_append, List.length_append, List.length_cons, Nat.mul_succ]; exact lle [_, _, _, _, _] [.le (.a (.v 0) (.v 1)) (.v 4), .le (.v 2) (.v 3)] [1, 1] (.a (.a (.v 0) (.v 1)) (.v 2)) (.a (.v 3) (.v 4)) (by exact yes) h1 h2
/-- the letters of a path, joined -/
theorem join_path (g : List Nat) : ∀ (k : Nat) (l : List Nat), joinL [46] ((k :: l).map fun i => [letL i]) ++ [46] ++ g = pathName g (k :: l)
  | k, [] => rfl
  | k, i :: l => by
    show [letL k] ++ [46] ++ joinL [46] ((i :: l).map fun i => [letL i]) ++ [46] ++ g = letL k :: 46 :: pathName g (i :: l)
    rw [← join_path g i l]
    simp
/-- the order of the law's own row -/
noncomputable def dueI : List Nat := [0, 2, 4, 6, 5, 3, 1]
/-- three told: the domain, the blanks, the name -/
noncomputable def P3 (objs : List MO) (vs : List MV) (l : List (List Nat × Pc)) : Prop := vs.length = l.length ∧ ∀ (i : Nat) p, l[i]? = some p → ∃ r, vs[i]? = some (.ref r) ∧ objs[r]? = some (.tup [.str p.1, .str p.2.1, .str p.2.2])
/-- what the plain law has to show -/
structure LF (nmf : Nat → List Nat) (an kinF : Nat → List Nat) (g : List Nat) (wy : Nat) (par : Nat → Option Nat) (w : Nat → Nat) (PL : List Pc) : Prop where
  pl : PL = pileT nmf w 7
  gar : Gar nmf par (fun j k => (kinF j).contains k) w
  kinE : kinF = if wy < 3 then an else fun _ => []
  wh : ∀ k, k < 7 → whitesF kinF 64 ((List.range 7).filter fun j => j == k || (kinF j).contains k) 0 1 = some (w k)
  all : wy < 3 → whitesF kinF 64 [0, 1, 2, 3, 4, 5, 6] 0 1 = some (xorL (sliceL PL (46 :: g)))
  udm1 : ∀ j k, j < 7 → k ≤ j → udm (uppL (nmf j)) (46 :: nmf k) = (kinF j).contains k
  udm2 : ∀ j k, j < 7 → k ∈ j :: an j → udm (uppL (nmf j)) (nmf k) = (j == k)
  asc : ∀ j, j < 7 → isAsciiL (nmf j) = true ∧ isAsciiL (uppL (nmf j)) = true
  dom : ∀ k, k < 7 → reachL (nmf k) = if wy = 3 then nmf k else 46 :: (match an k with | [] => g | p :: _ => nmf p)
  srt : ∃ ord, (runK (ltL (dueI.map fun k => reachL (nmf k))) (PySem.W.kas_sort 7)).toList = ord ∧ (∀ i ∈ ord, i < 7) ∧ ord.map (fun i => pieceN nmf w (dueI.getD i 0)) = PL
  gr : reachL g = g ∧ g.length ≤ 20
theorem LF.pm {nmf an kinF : Nat → List Nat} {g : List Nat} {wy : Nat} {par : Nat → Option Nat} {w : Nat → Nat} {PL : List Pc} (F : LF nmf an kinF g wy par w PL) {p : Pc} (hp : p ∈ PL) : ∃ k, k < 7 ∧ p = pieceN nmf w k := by
  rw [F.pl] at hp
  exact pile_mem (Nat.le_refl _) hp
theorem LF.plen {nmf an kinF : Nat → List Nat} {g : List Nat} {wy : Nat} {par : Nat → Option Nat} {w : Nat → Nat} {PL : List Pc} (F : LF nmf an kinF g wy par w PL) : PL.length = 7 := by rw [F.pl, pile_len]
theorem LF.small {nmf an kinF : Nat → List Nat} {g : List Nat} {wy : Nat} {par : Nat → Option Nat} {w : Nat → Nat} {PL : List Pc} (F : LF nmf an kinF g wy par w PL) {p : Pc} (hp : p ∈ PL) : p.1.length ≤ 64 ∧ p.2.length ≤ 200 := by
  obtain ⟨k, hk, rfl⟩ := F.pm hp
  have h1 := F.gar.small k hk
  have h2 := F.gar.len k hk
  show (List.replicate (w k) 32).length ≤ 64 ∧ (nmf k).length ≤ 200
  rw [List.length_replicate]
  exact ⟨h1, h2⟩
theorem LF.cat {nmf an kinF : Nat → List Nat} {g : List Nat} {wy : Nat} {par : Nat → Option Nat} {w : Nat → Nat} {PL : List Pc} (F : LF nmf an kinF g wy par w PL) : (catL PL).length ≤ 1848 := by
  have := cat_len (n := 264) (l := PL) fun p hp => by have := F.small hp; exact lle [_, _] [.le (.v 0) (.n 64), .le (.v 1) (.n 200)] [1, 1] (.a (.v 0) (.v 1)) (.n 264) (by exact yes) this.1 this.2
  rw [F.plen] at this
  exact this
/-- the objects that stand: all but the cells that change -/
noncomputable def isC : MO → Bool
  | .cell _ => true
  | _ => false
structure Ag (n0 : Nat) (O0 O : List MO) : Prop where
  c0 : ∀ i, i = n0 ∨ i = n0 + 4 ∨ i = n0 + 7 → ∃ o, O0[i]? = some (.cell o)
  c1 : ∀ i, i = n0 ∨ i = n0 + 4 ∨ i = n0 + 7 → ∃ o, O[i]? = some (.cell o)
  kp : ∀ (i : Nat) o, O0[i]? = some o → ¬ (i = n0 ∨ i = n0 + 4 ∨ i = n0 + 7) → O[i]? = some o
section
variable {n0 : Nat} {O0 O O' : List MO}
theorem Ag.get (A : Ag n0 O0 O) {i : Nat} {o : MO} (h : O0[i]? = some o) (ho : isC o = false) : O[i]? = some o := A.kp i o h fun hi => by
  obtain ⟨c, hc⟩ := A.c0 i hi
  rw [hc] at h; cases h; cases ho
theorem Ag.cell (A : Ag n0 O0 O) {i : Nat} {o : MO} (h : O0[n0 + i]? = some o) (hi : i ≠ 0 ∧ i ≠ 4 ∧ i ≠ 7 := by decide) : O[n0 + i]? = some o := A.kp _ o h fun hx => hx.elim (fun e => hi.1 (Nat.add_left_cancel (k := 0) e)) fun hx => hx.elim (fun e => hi.2.1 (Nat.add_left_cancel e)) fun e => hi.2.2 (Nat.add_left_cancel e)
theorem Ag.refl (h : ∀ i, i = n0 ∨ i = n0 + 4 ∨ i = n0 + 7 → ∃ o, O[i]? = some (.cell o)) : Ag n0 O O := ⟨h, h, fun _ _ h _ => h⟩
theorem Ag.keeps (A : Ag n0 O0 O) (k : ∀ (i : Nat) o, O[i]? = some o → O'[i]? = some o) : Ag n0 O0 O' :=
  ⟨A.c0, fun i hi => (by obtain ⟨o, h⟩ := A.c1 i hi; exact ⟨o, k _ _ h⟩), fun i o h hi => k _ _ (A.kp i o h hi)⟩
theorem Ag.app (A : Ag n0 O0 O) (o : MO) : Ag n0 O0 (O ++ [o]) := A.keeps fun _ _ h => get_app h
theorem Ag.setC (A : Ag n0 O0 O) {i : Nat} {v : Option MV} (hi : i = n0 ∨ i = n0 + 4 ∨ i = n0 + 7) : Ag n0 O0 (O.set i (.cell v)) := by
  refine ⟨A.c0, fun j hj => ?_, fun j o h hj => get_set (A.kp j o h hj) (fun hx => hj (hx ▸ hi))⟩
  obtain ⟨o, ho⟩ := A.c1 j hj
  by_cases hx : j = i
  · subst hx; exact ⟨_, get_set_same ho⟩
  · exact ⟨o, get_set ho hx⟩
theorem Ag.setN (A : Ag n0 O0 O) {i : Nat} {o' : MO} (hi : O0.length ≤ i) : Ag n0 O0 (O.set i o') := by
  refine ⟨A.c0, fun j hj => ?_, fun j o h hj => get_set (A.kp j o h hj) (by have := get_lt h; exact fun hz => lif [_, _, _] [.eq (.v 0) (.v 1), .le (.v 2) (.v 1), .lt (.v 0) (.v 2)] [-1, 1, 1] (by exact yes) hz hi this)⟩
  obtain ⟨c, hc⟩ := A.c0 j hj
  obtain ⟨o, ho⟩ := A.c1 j hj
  have := get_lt hc
  exact ⟨o, get_set ho (by exact fun hz => lif [_, _, _] [.eq (.v 0) (.v 1), .le (.v 2) (.v 1), .lt (.v 0) (.v 2)] [-1, 1, 1] (by exact yes) hz hi this)⟩
end
theorem C_nes_same {G : Gd} {S : MS} {x : List Nat} {Q : Bool → MS → Prop} (h : Q false S) : PC G .NotEq (.str x) (.str x) S Q := C_nes (by rw [beq_self_eq_true]; exact h)
theorem C_nei_same {G : Gd} {S : MS} {x y : Int} {Q : Bool → MS → Prop} (e : x = y) (h : Q false S) : PC G .NotEq (.int x) (.int y) S Q := C_nei (by rw [beq_iff_eq.mpr e]; exact h)
theorem C_eqi_same {G : Gd} {S : MS} {x y : Int} {Q : Bool → MS → Prop} (e : x = y) (h : Q true S) : PC G .Eq (.int x) (.int y) S Q := C_eqi (by rw [beq_iff_eq.mpr e]; exact h)
theorem rows_keep {O O' : List MO} {L L' : Str → Option MV} {c c' : Str → Option Nat} {a : Nat} {anc : Nat → List Nat} (h : Rows O a anc) (k : Keeps ⟨O, L, c⟩ ⟨O', L', c'⟩) : Rows O' a anc := by
  obtain ⟨rs, hrs, hr7, hrow⟩ := h
  exact ⟨rs, k _ _ hrs, hr7, fun i hi => (by obtain ⟨r, h1, h2, h3⟩ := hrow i hi; exact ⟨r, h1, k _ _ h2, h3⟩)⟩
variable (P : PP)
noncomputable abbrev lawCells : List Str := ["k", "tail", "above", "told", "j", "kin", "within", "great"]
theorem law_E2 {nmf an kinF : Nat → List Nat} {g : List Nat} {wy : Nat} {par : Nat → Option Nat} {w : Nat → Nat} {PL : List Pc} (F : LF nmf an kinF g wy par w PL) {n n0 jp jd jk jdu : Nat} {first : Int} {O : List MO} {L : Str → Option MV} {vsd vs : List MV}
    (e5 : O[n0 + 5]? = some (.cell (some (.ref jk)))) (ek : Rows O jk kinF) (lw : L "way" = some (.int (wy : Nat))) (lf : L "first" = some (.int first)) (hf : 0 ≤ first ∧ first ≤ 2)
    (lg : L "ground" = some (.str g)) (ld : L "due" = some (.ref jdu)) (ed : O[jdu]? = some (.list vsd)) (hd : Pieces O vsd (PL)) (lp : L "pile" = some (.ref jp)) (ejp : O[jp]? = some (.acc jd vs)) (ejd : O[jd]? = some (.dict [(sizeKey, .int first)]))
    (hvs : Pieces O vs (PL)) (hdis : ∀ a b, MV.ref a ∈ vs → MV.ref b ∈ vsd → a ≠ b) {Q : MFlow → MS → Prop} (hQ : ∀ S', Q (.ret (.bool true)) S') :
    WB (TK P) (n + 300) ⟨scK P 249, 249⟩ ((bodyK P 249).drop 17) ⟨O, L, celOf lawCells n0⟩ Q := by
  have hst : stopLen = 4096 := rfl
  have hg := F.gr.2
  have hvl : vs.length = 7 := by rw [hvs.len, F.plen]
  have hvd : vsd.length = 7 := by rw [hd.len, F.plen]
  refine W_cons (X_If (WT_post (Q' := fun b S1 => b = false ∧ Keeps ⟨O, L, celOf lawCells n0⟩ S1 ∧ S1.loc = L ∧ S1.cel = celOf lawCells n0) ?_ ?_))
  · repeat infer_instance
    refine B_if (fun hw => ?_) fun hw => ?_
    · have hw : wy < 3 := by have := of_decide_eq_true hw; omega
      repeat infer_instance
      refine below_W P ejp ejd hvs (fun p hp => ?_) (by exact lle [_] [.eq (.v 0) (.n 7)] [1] (.v 0) (.n 64) (by exact yes) hvl) (by exact lle [_] [.le (.v 0) (.n 20)] [1] (.v 0) (.n 4000) (by exact yes) hg) ?_
      · have := F.small hp
        exact lle [_] [.le (.v 0) (.n 200)] [1] (.v 0) (.n 4000) (by exact yes) this.2
      repeat infer_instance
      refine together_W P (l := sliceL (PL) (46 :: g)) get_new (slice_pieces hvs.grow _) (fun p hp => ?_) ?_
      · have := F.small (mem_slice hp)
        exact lle [_, _] [.eq (.v 1) (.n 4096), .le (.v 0) (.n 64)] [-1, 1] (.v 0) (.v 1) (by exact yes) hst this.1
      repeat infer_instance
      obtain ⟨rs, hrs, hr7, hrow⟩ := ek
      refine whites_W P (l := [0, 1, 2, 3, 4, 5, 6]) (anc := kinF) get_new ⟨rs, get_app (get_app hrs), hr7, fun k hk => ?_⟩ (by decide) (F.all hw) ?_
      · obtain ⟨r, h1, h2, h3⟩ := hrow k hk
        exact ⟨r, h1, get_app (get_app h2), h3⟩
      rintro ⟨O3, L3, c3⟩ hk3 e3 e2
      have e2 : c3 = celOf lawCells n0 := e2
      have e3 : L3 = L := e3
      subst e2 e3
      exact C_nei_same rfl ⟨rfl, fun i o h => hk3 _ _ (get_app (get_app h)), rfl, rfl⟩
    · exact ⟨rfl, Keeps.refl _, rfl, rfl⟩
  rintro b ⟨O3, L3, c3⟩ ⟨rfl, hk3, e3, e2⟩
  have e2 : c3 = celOf lawCells n0 := e2
  have e3 : L3 = L := e3
  subst e2 e3
  have ejp := hk3 _ _ ejp
  have ejd := hk3 _ _ ejd
  have ed := hk3 _ _ ed
  have hvs := hvs.keeps (objs' := O3) fun i o h _ _ _ => hk3 _ _ h
  have hd := hd.keeps (objs' := O3) fun i o h _ _ _ => hk3 _ _ h
  dsimp only at ejp ejd ed
  have nep : jdu ≠ jp := by rintro rfl; rw [ed] at ejp; cases ejp
  have ned : jd ≠ jp := by rintro rfl; rw [ejd] at ejp; cases ejp
  have lt1 := get_lt ejp
  have lt2 := get_lt ejd
  have lt3 := get_lt ed
  refine B_false (W_nil ?_)
  repeat infer_instance
  refine K_acc ejp ejd ?_
  repeat infer_instance
  refine M_pop ejp (by exact lle [_, _] [.eq (.v 1) (.n 4096), .eq (.v 0) (.n 7)] [-1, 1] (.v 0) (.v 1) (by exact yes) hst hvl) ?_
  have g1 : ((O3 ++ [MO.list vs]).set jp (.acc jd []))[O3.length]? = some (.list vs) := by array_get_dec
  have g2 : ((O3 ++ [MO.list vs]).set jp (.acc jd []))[jdu]? = some (.list vsd) := by array_get_dec
  have g3 : ((O3 ++ [MO.list vs]).set jp (.acc jd []))[jp]? = some (.acc jd []) := get_set_same (get_app ejp)
  have g4 : ((O3 ++ [MO.list vs]).set jp (.acc jd []))[jd]? = some (.dict [(sizeKey, .int first)]) := by array_get_dec
  have g5 := (hvs.grow (ob := [MO.list vs])).set (o' := .acc jd []) (get_app ejp) nofun
  have g6 := (hd.grow (ob := [MO.list vs])).set (o' := .acc jd []) (get_app ejp) nofun
  repeat infer_instance
  refine E_And4 ?_
  repeat infer_instance
  refine C_eql g1 g2 (pieces_eq g5 g6 hdis) ⟨rfl, ?_⟩
  repeat infer_instance
  refine C_len (L_list g1 (by exact lle [_, _] [.eq (.v 1) (.n 4096), .eq (.v 0) (.n 7)] [-1, 1] (.v 0) (.v 1) (by exact yes) hst hvl) ?_)
  repeat infer_instance
  refine C_eqi_same (by rw [hvl]; rfl) ⟨rfl, ?_⟩
  repeat infer_instance
  refine K_acc g3 g4 ?_
  repeat infer_instance
  refine M_count g3 (by decide) ?_
  repeat infer_instance
  refine C_eqi_same rfl ⟨rfl, ?_⟩
  repeat infer_instance
  refine C_len (L_acc g3 g4 (l := []) .nil (by rw [show (catL []).length = 0 from rfl]; omega) ?_)
  repeat infer_instance
  refine C_eqi_same (by rw [show (catL []).length = 0 from rfl]; omega) ?_
  exact hQ _
theorem law_E {nmf an kinF : Nat → List Nat} {g : List Nat} {wy : Nat} {par : Nat → Option Nat} {w : Nat → Nat} {PL : List Pc} (F : LF nmf an kinF g wy par w PL) {n n0 jt jk jw jdu : Nat} {first : Int} {O : List MO} {L : Str → Option MV} {vsd : List MV}
    (e3 : O[n0 + 3]? = some (.cell (some (.ref jt)))) (et : O[jt]? = some (.list ((List.range 7).map fun k => .str (nmf k)))) (e5 : O[n0 + 5]? = some (.cell (some (.ref jk)))) (ek : Rows O jk kinF)
    (e6 : O[n0 + 6]? = some (.cell (some (.ref jw)))) (ew : WithinOK O jw (fun j k => (kinF j).contains k)) (lw : L "way" = some (.int (wy : Nat))) (lf : L "first" = some (.int first)) (hf : 0 ≤ first ∧ first ≤ 2)
    (lg : L "ground" = some (.str g)) (ld : L "due" = some (.ref jdu)) (ed : O[jdu]? = some (.list vsd)) (hd : Pieces O vsd (PL)) (lt : L "text" = some (.str (catL (PL)))) {Q : MFlow → MS → Prop} (hQ : ∀ S', Q (.ret (.bool true)) S') :
    WB (TK P) (n + 300) ⟨scK P 249, 249⟩ ((bodyK P 249).drop 15) ⟨O, L, celOf lawCells n0⟩ Q := by
  have hst : stopLen = 4096 := rfl
  have hcl := F.cat
  have hg := F.gr.2
  refine W_cons (X_Assign rfl ?_)
  repeat infer_instance
  refine row_W P F.gar et ew ?_
  rintro j jp jd vs ⟨O2, L2, c2⟩ hk1 e1 e2 ej ejd ejp hvs hge hne
  have e1 : L2 = L := e1
  have e2 : c2 = celOf lawCells n0 := e2
  subst e1 e2
  dsimp only at ej ejd ejp hvs hge
  rw [← F.pl] at hvs
  have ed2 := hk1 _ _ ed
  have e52 := hk1 _ _ e5
  refine A_tup2 rfl (items_tup ej) (.inr rfl) ?_
  repeat infer_instance
  refine T_Or3 ?_
  repeat infer_instance
  refine C_str ejp hvs (by have h7 := Pieces.len hvs; have h8 := F.plen; exact ⟨lle [_, _] [.eq (.v 1) (.n 4096), .le (.v 0) (.n 1848)] [-1, 1] (.v 0) (.v 1) (by exact yes) hst hcl, lle [_, _, _] [.eq (.v 1) (.n 4096), .eq (.v 0) (.v 2), .eq (.v 2) (.n 7)] [-1, 1, 1] (.v 0) (.v 1) (by exact yes) hst h7 h8⟩) ?_
  repeat infer_instance
  refine C_nes_same (B_false ?_)
  repeat infer_instance
  refine C_len (L_acc ejp ejd hvs (by omega) ?_)
  repeat infer_instance
  refine C_len (L_str (by exact lle [_, _] [.eq (.v 1) (.n 4096), .le (.v 0) (.n 1848)] [-1, 1] (.v 0) (.v 1) (by exact yes) hst hcl) ?_)
  repeat infer_instance
  refine C_nei_same rfl (B_false ?_)
  refine T_Not (T_Name (E_local rfl rfl rfl (V_bool (B_if (fun h => nomatch h) fun _ => W_nil ?_))))
  refine law_E2 P F (jp := jp) (jd := jd) (vs := vs) (vsd := vsd) (first := first) e52 (rows_keep ek hk1) ?_ ?_ hf ?_ ?_ ed2 (hd.keeps fun i o h _ _ _ => hk1 _ _ h) ?_ ejp ejd hvs ?_ hQ
  · exact lw
  · exact lf
  · exact lg
  · exact ld
  · rfl
  intro a b ha hb
  have h1 := hge _ ha
  obtain ⟨i, hi⟩ := List.mem_iff_getElem?.mp hb
  obtain ⟨r, p, e, _, h2⟩ := hd.get hi
  cases e
  have h3 : b < O.length := get_lt h2
  have h1 : O.length ≤ a := h1
  exact fun hz => lif [_, _, _] [.eq (.v 0) (.v 1), .lt (.v 1) (.v 2), .le (.v 2) (.v 0)] [1, 1, 1] (by exact yes) hz h3 h1
theorem WE_gen {T : Gd} {n : Nat} {q : Sta} {O : List MO} {L : Str → Option MV} {C : Str → Option Nat} {e : Expr} {Q : MV → MS → Prop} (R : List MO → Prop) (h0 : R O) (h : ∀ O, R O → WE T n q e ⟨O, L, C⟩ Q) : WE T n q e ⟨O, L, C⟩ Q := h _ h0
theorem P3.keeps {objs objs' : List MO} {vs : List MV} {l : List (List Nat × Pc)} (h : P3 objs vs l) (hk : ∀ (i : Nat) vs, objs[i]? = some (.tup vs) → objs'[i]? = some (.tup vs)) : P3 objs' vs l :=
  ⟨h.1, fun i p hp => (by obtain ⟨r, h1, h2⟩ := h.2 i p hp; exact ⟨r, h1, hk _ _ h2⟩)⟩
theorem P3.push {objs : List MO} {vs : List MV} {l : List (List Nat × Pc)} {r : Nat} {p : List Nat × Pc} (h : P3 objs vs l) (hr : objs[r]? = some (.tup [.str p.1, .str p.2.1, .str p.2.2])) : P3 objs (vs ++ [.ref r]) (l ++ [p]) := by
  refine ⟨by simp [h.1], fun i q hq => ?_⟩
  by_cases hi : i < l.length
  · rw [List.getElem?_append_left hi] at hq
    obtain ⟨r', h1, h2⟩ := h.2 i q hq
    exact ⟨r', by rw [List.getElem?_append_left (by rw [h.1]; exact hi)]; exact h1, h2⟩
  · have hi' : i = l.length := by
      have := (List.getElem?_eq_some_iff.mp hq).1
      simp at this; exact leq [_, _] [.le (.v 1) (.v 0), .lt (.v 0) (.a (.v 1) (.n 1))] [0, 1] [1, 0] (.v 0) (.v 1) (by exact yes) (by exact yes) (Nat.le_of_not_lt hi) this
    subst hi'
    simp at hq
    subst hq
    exact ⟨r, by rw [← h.1]; simp, hr⟩
theorem natL_cons_drop {l : List Nat} {t : Nat} {v : MV} {r : List MV} (h : v :: r = natL (l.drop t)) : ∃ k, l[t]? = some k ∧ t < l.length ∧ v = .int (k : Nat) ∧ r = natL (l.drop (t + 1)) := by
  have ht : t < l.length := by
    by_cases hc : t < l.length
    · exact hc
    · rw [List.drop_eq_nil_of_le (by exact lle [_, _] [.le (.v 0) (.v 1)] [1] (.v 0) (.v 1) (by exact yes) (Nat.le_of_not_lt hc))] at h; cases h
  rw [List.drop_eq_getElem_cons ht] at h
  unfold natL at h
  rw [List.map_cons] at h
  cases h
  exact ⟨l[t], List.getElem?_eq_getElem ht, ht, rfl, rfl⟩
theorem natL_nil {l : List Nat} {t : Nat} (h : [] = natL (l.drop t)) : l.length ≤ t := by
  have := congrArg List.length h
  rw [natL_len, List.length_drop] at this
  simp at this
  exact lle [_, _, _] [.eq (.n 0) (.v 2), .le (.v 0) (.a (.v 2) (.v 1))] [-1, 1] (.v 0) (.v 1) (by exact yes) this (sbl _ _)
theorem cons_drop {α : Type} {l : List α} {t : Nat} {v : α} {r : List α} (h : v :: r = l.drop t) : l[t]? = some v ∧ t < l.length ∧ r = l.drop (t + 1) := by
  have ht : t < l.length := by
    by_cases hc : t < l.length
    · exact hc
    · rw [List.drop_eq_nil_of_le (by exact lle [_, _] [.le (.v 0) (.v 1)] [1] (.v 0) (.v 1) (by exact yes) (Nat.le_of_not_lt hc))] at h; cases h
  rw [List.drop_eq_getElem_cons ht] at h
  cases h
  exact ⟨List.getElem?_eq_getElem ht, ht, rfl⟩
theorem nil_drop {α : Type} {l : List α} {t : Nat} (h : [] = l.drop t) : l.length ≤ t := by
  have := congrArg List.length h
  rw [List.length_drop] at this
  simp at this
  exact lle [_, _, _] [.eq (.n 0) (.v 2), .le (.v 0) (.a (.v 2) (.v 1))] [-1, 1] (.v 0) (.v 1) (by exact yes) this (sbl _ _)
theorem take_succ_get {α : Type} {l : List α} {t : Nat} {x : α} (h : l[t]? = some x) : l.take (t + 1) = l.take t ++ [x] := by
  rw [List.take_add_one, h]; rfl
noncomputable def forB : Stmt → List Stmt
  | .For _ _ b _ _ => b
  | _ => []
theorem dueI_lt : ∀ k ∈ dueI, k < 7 := by decide
variable (P : PP)
theorem law_D2 {nmf an kinF : Nat → List Nat} {g : List Nat} {wy : Nat} {par : Nat → Option Nat} {w : Nat → Nat} {PL : List Pc} (F : LF nmf an kinF g wy par w PL) {n n0 jt jk jw jdu : Nat} {first : Int} {O : List MO} {L : Str → Option MV} {vs : List MV}
    (e3 : O[n0 + 3]? = some (.cell (some (.ref jt)))) (et : O[jt]? = some (.list ((List.range 7).map fun k => .str (nmf k)))) (e5 : O[n0 + 5]? = some (.cell (some (.ref jk)))) (ek : Rows O jk kinF)
    (e6 : O[n0 + 6]? = some (.cell (some (.ref jw)))) (ew : WithinOK O jw (fun j k => (kinF j).contains k))
    (lw : L "way" = some (.int (wy : Nat))) (lf : L "first" = some (.int first)) (hf : 0 ≤ first ∧ first ≤ 2) (lg : L "ground" = some (.str g)) (ld : L "due" = some (.ref jdu)) (hv : O[jdu]? = some (.list vs)) (hp : P3 O vs (dueI.map fun k => (reachL (nmf k), pieceN nmf w k)))
    {Q : MFlow → MS → Prop} (hQ : ∀ S', Q (.ret (.bool true)) S') :
    WB (TK P) (n + 400) ⟨scK P 249, 249⟩ ((bodyK P 249).drop 13) ⟨O, L, celOf lawCells n0⟩ Q := by
  have hst : stopLen = 4096 := rfl
  obtain ⟨ord, hord, hol, hoe⟩ := F.srt
  have hvl : vs.length = 7 := hp.1
  refine W_cons (X_AssignC (E_Comp0 rfl rfl (E_Call rfl rfl (E_global rfl rfl rfl (WL_cons ?_)))))
  repeat infer_instance
  refine E_Lam rfl rfl ?_
  repeat infer_instance
  refine C_sorted (ks := dueI.map fun k => reachL (nmf k)) (get_app hv) (by exact ⟨lle [_] [.eq (.v 0) (.n 7)] [-1] (.n 2) (.v 0) (by exact yes) hvl, llt [_] [.eq (.v 0) (.n 7)] [1] (.v 0) (.n 64) (by exact yes) hvl⟩) (by rw [hvl]; rfl) ?_ ?_
  · intro i v k h1 h2
    rw [List.getElem?_map] at h2
    cases hd : dueI[i]? with
    | none => rw [hd] at h2; cases h2
    | some kk =>
    rw [hd] at h2
    have h2 : k = reachL (nmf kk) := by cases h2; rfl
    subst h2
    obtain ⟨r, h3, h4⟩ := hp.2 i (reachL (nmf kk), pieceN nmf w kk) (by rw [List.getElem?_map, hd]; rfl)
    rw [h1] at h3
    cases h3
    refine W_clo (n := n + 396) (j := O.length) get_new rfl (fun _ _ _ _ _ _ _ _ => rfl) ?_
    repeat infer_instance
    refine G_tup (by decide) (get_app h4) rfl ?_
    exact ⟨rfl, rfl⟩
  · rw [hvl, hord]
    try dsimp only
    obtain ⟨sl, hsl⟩ : ∃ x, x = ord.map fun i => vs.getD i .none := ⟨_, rfl⟩
    rw [← hsl]
    have hol7 : ord.length = 7 := by
      have := congrArg List.length hoe
      rw [List.length_map, F.plen] at this
      exact this
    have hslt : ∀ (t : Nat) (v : MV), sl[t]? = some v → ∃ (r : Nat) (p : Pc), v = MV.ref r ∧ PL[t]? = some p ∧ ∃ dm : List Nat, O[r]? = some (MO.tup [MV.str dm, MV.str p.1, MV.str p.2]) := by
      intro t v hv
      rw [hsl, List.getElem?_map] at hv
      cases ho : ord[t]? with
      | none => rw [ho] at hv; cases hv
      | some i =>
      rw [ho] at hv
      have hi7 := hol i (List.mem_of_getElem? ho)
      have hv : v = vs.getD i .none := by cases hv; rfl
      obtain ⟨r, h3, h4⟩ := hp.2 i (reachL (nmf (dueI.getD i 0)), pieceN nmf w (dueI.getD i 0)) (by
        rw [List.getElem?_map, List.getD_eq_getElem?_getD, List.getElem?_eq_getElem (show i < dueI.length from hi7)]; rfl)
      refine ⟨r, pieceN nmf w (dueI.getD i 0), ?_, ?_, _, h4⟩
      · rw [hv, List.getD_eq_getElem?_getD, h3]; rfl
      · rw [← hoe, List.getElem?_map, ho]; rfl
    have hsll : sl.length = 7 := by rw [hsl, List.length_map, hol7]
    refine ⟨.list, sl, fun r out S3 => ∃ t, r = sl.drop t ∧ t ≤ 7 ∧ Pieces S3.objs out (PL.take t) ∧ (∀ i o, O[i]? = some o → S3.objs[i]? = some o) ∧ S3.objs[O.length + 1]? = some (.list sl), items_list (get_newAt (by simp)), .inr ⟨rfl, rfl⟩, by exact lle [_, _] [.eq (.v 1) (.n 4096), .eq (.v 0) (.n 7)] [-1, 1] (.v 0) (.v 1) (by exact yes) hst hsll, ⟨0, rfl, by decide, .nil, fun i o h => get_app (get_app h), get_newAt (by simp)⟩, ?_, ?_⟩
    · rintro v r out ⟨O2, L2, c2⟩ ⟨t, hr, ht, hpo, hk2, hs2⟩
      dsimp only at hpo hk2 hs2
      obtain ⟨h1, h2, rfl⟩ := cons_drop hr
      obtain ⟨rr, p, rfl, hpl, dm, hrr⟩ := hslt t v h1
      refine ⟨items_list (by rw [List.length_append]; exact hs2), A_tup3 rfl (items_tup (hk2 _ _ hrr)) (.inr rfl) ?_⟩
      repeat infer_instance
      refine ⟨t + 1, rfl, by exact lle [_, _] [.eq (.v 1) (.n 7), .lt (.v 0) (.v 1)] [1, 1] (.a (.v 0) (.n 1)) (.n 7) (by exact yes) hsll h2, ?_, fun i o h => get_app (hk2 i o h), get_app hs2⟩
      rw [take_succ_get hpl]
      exact pd_app hpo.grow (.cons ⟨_, rfl, get_new⟩ .nil)
    · rintro out ⟨O2, L2, c2⟩ ⟨t, hr, ht, hpo, hk2, hs2⟩
      dsimp only at hpo hk2 hs2
      have ht7 := nil_drop hr
      obtain rfl : t = 7 := by exact leq [_, _] [.eq (.v 1) (.n 7), .le (.v 0) (.n 7), .le (.v 1) (.v 0)] [0, 1, 0] [-1, 0, 1] (.v 0) (.n 7) (by exact yes) (by exact yes) hsll ht ht7
      rw [List.take_of_length_le (by rw [F.plen]; exact Nat.le_refl _)] at hpo
      refine ⟨items_list (by rw [List.length_append]; exact hs2), ?_⟩
      have hk3 : ∀ i o, O[i]? = some o → (O2 ++ [MO.list out])[i]? = some o := fun i o h => get_app (hk2 i o h)
      have hpo3 := hpo.grow (ob := [MO.list out])
      have hdu : (O2 ++ [MO.list out])[O2.length]? = some (.list out) := get_new
      have hol : out.length = 7 := by rw [hpo.len, F.plen]
      refine A_local rfl ?_
      try dsimp only
      refine WB_gen (fun O' L => O' = O2 ++ [MO.list out] ∧ L "way" = some (.int (wy : Nat)) ∧ L "first" = some (.int first) ∧ L "ground" = some (.str g) ∧ L "due" = some (.ref O2.length)) ⟨rfl, lw, lf, lg, rfl⟩ ?_
      generalize O2 ++ [MO.list out] = O3 at *
      generalize O2.length = jdu at *
      rintro O3 L3 ⟨rfl, lw, lf, lg, ld⟩
      repeat infer_instance
      refine E_Comp0 rfl rfl (E_local rfl rfl ld ?_)
      refine ⟨.list, out, fun r out2 S3 => ∃ t, r = out.drop t ∧ t ≤ 7 ∧ out2 = ((PL.take t).map fun p => p.1 ++ p.2).map .str ∧ S3.objs = O3, items_list hdu, .inr ⟨rfl, rfl⟩, by exact lle [_, _] [.eq (.v 1) (.n 4096), .eq (.v 0) (.n 7)] [-1, 1] (.v 0) (.v 1) (by exact yes) hst hol, ⟨0, rfl, by decide, rfl, rfl⟩, ?_, ?_⟩
      · rintro v r out2 ⟨O4, L4, c4⟩ ⟨t, hr, ht, rfl, e7⟩
        have e7 : O4 = O3 := e7
        subst e7
        obtain ⟨h1, h2, rfl⟩ := cons_drop hr
        obtain ⟨rr, p, rfl, hpl, hrr⟩ := hpo3.get h1
        have hps := F.small (List.mem_of_getElem? hpl)
        refine ⟨items_list hdu, A_tup2 rfl (items_tup hrr) (.inr rfl) ?_⟩
        repeat infer_instance
        refine B_adds (by rw [List.length_append]; exact lle [_, _, _] [.eq (.v 2) (.n 4096), .le (.v 0) (.n 64), .le (.v 1) (.n 200)] [-1, 1, 1] (.a (.v 0) (.v 1)) (.v 2) (by exact yes) hst hps.1 hps.2) ?_
        refine ⟨t + 1, rfl, by exact lle [_, _] [.eq (.v 1) (.n 7), .lt (.v 0) (.v 1)] [1, 1] (.a (.v 0) (.n 1)) (.n 7) (by exact yes) hol h2, ?_, rfl⟩
        rw [take_succ_get hpl, List.map_append, List.map_append]; rfl
      · rintro out2 ⟨O4, L4, c4⟩ ⟨t, hr, ht, rfl, e7⟩
        have e7 : O4 = O3 := e7
        subst e7
        have ht7 := nil_drop hr
        obtain rfl : t = 7 := by exact leq [_, _] [.eq (.v 1) (.n 7), .le (.v 0) (.n 7), .le (.v 1) (.v 0)] [0, 1, 0] [-1, 0, 1] (.v 0) (.n 7) (by exact yes) (by exact yes) hol ht ht7
        rw [List.take_of_length_le (by rw [F.plen]; exact Nat.le_refl _)]
        refine ⟨items_list hdu, ?_⟩
        have hcat := F.cat
        repeat infer_instance
        refine M_join (l := PL.map fun p => p.1 ++ p.2) get_new rfl ⟨?_, by decide⟩ ?_
        · rw [show (Str.ofString "").cps.toList = ([] : List Nat) from rfl, join_cat]; exact lle [_, _] [.eq (.v 1) (.n 4096), .le (.v 0) (.n 1848)] [-1, 1] (.v 0) (.v 1) (by exact yes) hst hcat
        rw [show (Str.ofString "").cps.toList = ([] : List Nat) from rfl, join_cat]
        refine A_local rfl ?_
        try dsimp only
        have e3 := hk3 _ _ e3
        refine law_E P F (n := n + 100) (get_app e3) (get_app (hk3 _ _ et)) (get_app (hk3 _ _ e5)) (rows_keep (L := L) (L' := L) (c := emptyCel) (c' := emptyCel) ek fun i o h => get_app (hk3 i o h)) (get_app (hk3 _ _ e6)) ?_ ?_ ?_ hf ?_ ?_ (get_app hdu) hpo3.grow ?_ hQ
        · obtain ⟨rs, hrs, hr7, hrow⟩ := ew
          exact ⟨rs, get_app (hk3 _ _ hrs), hr7, fun i hi => (by obtain ⟨r, bs, h1, h2, h3⟩ := hrow i hi; exact ⟨r, bs, h1, get_app (hk3 _ _ h2), h3⟩)⟩
        · exact lw
        · exact lf
        · exact lg
        · exact ld
        · rfl
variable (P : PP)
structure LawD1 (nmf : Nat → List Nat) (w : Nat → Nat) (n0 wy jn : Nat) (first : Int) (g : List Nat) (O : List MO) (t : Nat) (vs : List MV) (r : List MV) (S' : MS) : Prop where
  a1 : r = natL (dueI.drop t)
  a2 : t ≤ 7
  a3 : Ag n0 O S'.objs
  a4 : S'.objs[O.length]? = some (.list vs)
  a5 : P3 S'.objs vs ((dueI.take t).map fun k => (reachL (nmf k), pieceN nmf w k))
  a6 : S'.objs[O.length + 1]? = some (.tup (natL dueI))
  a7 : S'.loc "names" = some (.ref jn)
  a8 : S'.loc "way" = some (.int (wy : Nat))
  a9 : S'.loc "first" = some (.int first)
  a10 : S'.loc "ground" = some (.str g)
  a11 : S'.loc "due" = some (.ref O.length)
  a12 : S'.cel = celOf lawCells n0
theorem law_D {nmf an kinF : Nat → List Nat} {g : List Nat} {wy : Nat} {par : Nat → Option Nat} {w : Nat → Nat} {PL : List Pc} (F : LF nmf an kinF g wy par w PL) {n n0 ja jt jk jw jn : Nat} {first : Int} {O : List MO} {L : Str → Option MV}
    (hc : ∀ i, i = n0 ∨ i = n0 + 4 ∨ i = n0 + 7 → ∃ o, O[i]? = some (.cell o)) (e1 : O[n0 + 1]? = some (.cell (some (.str g)))) (e2 : O[n0 + 2]? = some (.cell (some (.ref ja)))) (ea : Rows O ja an) (hal : ∀ k, k < 7 → ∀ x ∈ an k, x < 7)
    (e3 : O[n0 + 3]? = some (.cell (some (.ref jt)))) (et : O[jt]? = some (.list ((List.range 7).map fun k => .str (nmf k)))) (e5 : O[n0 + 5]? = some (.cell (some (.ref jk)))) (ek : Rows O jk kinF)
    (e6 : O[n0 + 6]? = some (.cell (some (.ref jw)))) (ew : WithinOK O jw (fun j k => (kinF j).contains k)) (ln : L "names" = some (.ref jn)) (en : O[jn]? = some (.list ((List.range 7).map fun k => .str (nmf k)))) (hwy : wy < 4)
    (lw : L "way" = some (.int (wy : Nat))) (lf : L "first" = some (.int first)) (hf : 0 ≤ first ∧ first ≤ 2) (lg : L "ground" = some (.str g)) {Q : MFlow → MS → Prop} (hQ : ∀ S', Q (.ret (.bool true)) S') :
    WB (TK P) (n + 400) ⟨scK P 249, 249⟩ ((bodyK P 249).drop 11) ⟨O, L, celOf lawCells n0⟩ Q := by
  have hst : stopLen = 4096 := rfl
  have hg := F.gr.2
  have A0 := Ag.refl hc
  refine W_cons (X_Assign rfl ?_)
  repeat infer_instance
  refine X_For rfl rfl ?_
  repeat infer_instance
  try dsimp only
  dsimp only [KL2, KTu]
  rw [show (O ++ [MO.list []]).length = O.length + 1 by simp]
  refine ⟨.tup, natL dueI, fun r S' => ∃ t vs, LawD1 nmf w n0 wy jn first g O t vs r S', items_tup ?_, ?_, ?_, ?_⟩
  · exact get_newAt (by simp)
  · exact ⟨0, [], rfl, by decide, (A0.app _).app _, get_app get_new, ⟨rfl, fun i p h => nomatch h⟩, get_newAt (by simp), ln, lw, lf, lg, rfl, rfl⟩
  · rintro v r ⟨O2, L2, c2⟩ ⟨t, vs, hr, ht, A, hv, hp, hit, l1, l2, l3, l4, l5, hc2⟩
    have hc2 : c2 = celOf lawCells n0 := hc2
    subst hc2
    dsimp only at A hv hp hit l1 l2 l3 l4 l5
    refine ⟨items_tup hit, ?_⟩
    obtain ⟨k, hk, ht7, rfl, rfl⟩ := natL_cons_drop hr
    have hk7 : k < 7 := by
      exact dueI_lt k (List.mem_of_getElem? hk)
    obtain ⟨ok, ek0⟩ := A.c1 n0 (.inl rfl)
    refine A_cell rfl rfl ek0 ?_
    have A1 := A.setC (i := n0) (v := some (.int (k : Nat))) (.inl rfl)
    have ek1 : (O2.set n0 (.cell (some (.int (k : Nat)))))[n0]? = some (.cell (some (.int (k : Nat)))) := get_set_same ek0
    have nv : O.length ≠ n0 := by rintro rfl; obtain ⟨o, h⟩ := A0.c1 _ (.inl rfl); have := get_lt h; exact lif [_] [.lt (.v 0) (.v 0)] [1] (by exact yes) this
    have nit : O.length + 1 ≠ n0 := by rintro rfl; obtain ⟨o, h⟩ := A0.c1 _ (.inl rfl); have := get_lt h; exact lif [_] [.lt (.a (.v 0) (.n 1)) (.v 0)] [1] (by exact yes) this
    have hv1 : (O2.set n0 (.cell (some (.int (k : Nat)))))[O.length]? = some (.list vs) := get_set hv nv
    have hit1 : (O2.set n0 (.cell (some (.int (k : Nat)))))[O.length + 1]? = some (.tup (natL dueI)) := get_set hit nit
    have hp1 : P3 (O2.set n0 (.cell (some (.int (k : Nat))))) vs ((dueI.take t).map fun k => (reachL (nmf k), pieceN nmf w k)) := hp.keeps fun i vs h => get_set h (by rintro rfl; rw [ek0] at h; cases h)
    clear hv hit hp A ek0 ok
    try dsimp only
    generalize O2.set n0 (.cell (some (.int (k : Nat)))) = O3 at *
    refine WB_gen (fun O L => O = O3 ∧ L = L2) ⟨rfl, rfl⟩ ?_
    rintro O3 L2 ⟨rfl, rfl⟩
    have a1 := A1.cell e1
    have a2 := A1.cell e2
    have a5 := A1.cell e5
    have an' := A1.get en rfl
    obtain ⟨rs, hrs, hrl, hrow⟩ := id ea
    obtain ⟨r, hrk, hro, hrn⟩ := hrow k hk7
    have b1 := A1.get hrs rfl
    have b2 := A1.get hro rfl
    have hnk := F.gar.len k hk7
    refine W_cons (X_Assign rfl (WE_post (Q' := fun v S1 => v = .str (46 :: (match an k with | [] => g | p :: _ => nmf p)) ∧ Keeps ⟨O3, L2, celOf lawCells n0⟩ S1 ∧ S1.loc = L2 ∧ S1.cel = celOf lawCells n0) ?_ ?_))
    · refine E_If ?_
      repeat infer_instance
      refine G_list (by exact ix (lle [_] [.lt (.v 0) (.n 7)] [1] (.v 0) (.n 4096) (by exact yes) hk7)) (by array_get_dec) (v := .ref r) (by rw [Int.toNat_natCast, List.getElem?_map, hrk]; rfl) ?_
      repeat infer_instance
      refine C_ne0 (xs := natL (an k)) (by array_get_dec) get_new (B_if (fun h => ?_) fun h => ?_)
      · cases hank : an k with
        | nil => rw [hank] at h; exact absurd h (by decide)
        | cons p rest =>
        have hp7 : p < 7 := hal k hk7 p (by rw [hank]; exact List.mem_cons_self ..)
        have hnp := F.gar.len p hp7
        rw [hank] at b2
        repeat infer_instance
        refine G_list (by exact ix (lle [_] [.lt (.v 0) (.n 7)] [1] (.v 0) (.n 4096) (by exact yes) hk7)) (by array_get_dec) (v := .ref r) (by rw [Int.toNat_natCast, List.getElem?_map, hrk]; rfl) ?_
        repeat infer_instance
        refine G_list (by exact ⟨by decide, by decide⟩) (by array_get_dec) (v := .int (p : Nat)) rfl ?_
        refine G_list (by exact ix (lle [_] [.lt (.v 0) (.n 7)] [1] (.v 0) (.n 4096) (by exact yes) hp7)) (by array_get_dec) (v := .str (nmf p)) (by rw [Int.toNat_natCast, List.getElem?_map, List.getElem?_range hp7]; rfl) ?_
        refine B_adds (x := [46]) (by rw [List.length_append, List.length_cons, List.length_nil]; exact lle [_, _] [.eq (.v 1) (.n 4096), .le (.v 0) (.n 200)] [-1, 1] (.a (.n 1) (.v 0)) (.v 1) (by exact yes) hst hnp) ?_
        exact ⟨rfl, fun i o h => get_app h, rfl, rfl⟩
      · cases hank : an k with
        | cons p rest => rw [hank] at h; simp [natL] at h
        | nil =>
        repeat infer_instance
        refine B_adds (x := [46]) (by rw [List.length_append, List.length_cons, List.length_nil]; exact lle [_, _] [.eq (.v 1) (.n 4096), .le (.v 0) (.n 20)] [-1, 1] (.a (.n 1) (.v 0)) (.v 1) (by exact yes) hst hg) ?_
        exact ⟨rfl, fun i o h => get_app h, rfl, rfl⟩
    rintro v ⟨O4, L4, c4⟩ ⟨rfl, hk4, e4l, e4c⟩
    have e4c : c4 = celOf lawCells n0 := e4c
    have e4l : L4 = L2 := e4l
    subst e4c e4l
    have A4 := A1.keeps hk4
    have ek4 := hk4 _ _ ek1
    have hv4 := hk4 _ _ hv1
    have hit4 := hk4 _ _ hit1
    have hp4 := hp1.keeps (objs' := O4) fun i vs h => hk4 _ _ h
    have an4 := A4.get en rfl
    have a54 := A4.cell e5
    dsimp only at ek4 hv4 hit4
    clear a1 a2 a5 an' b1 b2 hk4 A1 ek1 hv1 hit1 hp1
    have hdom := F.dom k hk7
    refine A_local rfl ?_
    try dsimp only
    refine WB_gen (fun O' L => O' = O4 ∧ L "names" = some (.ref jn) ∧ L "way" = some (.int (wy : Nat)) ∧ L "first" = some (.int first) ∧ L "ground" = some (.str g) ∧ L "due" = some (.ref O.length) ∧ L "domain" = some (.str (46 :: (match an k with | [] => g | p :: _ => nmf p)))) ⟨rfl, l1, l2, l3, l4, l5, rfl⟩ ?_
    clear l1 l2 l3 l4 l5
    rintro O4 L2 ⟨rfl, l1, l2, l3, l4, l5, l6⟩
    refine W_cons (X_If (T_Cmp rfl (E_local rfl rfl l2 (E_Const (Q_int (C_eqi ?_))))))
    have hrest : ∀ L2 : Str → Option MV, L2 "names" = some (.ref jn) → L2 "way" = some (.int (wy : Nat)) → L2 "first" = some (.int first) → L2 "ground" = some (.str g) → L2 "due" = some (.ref O.length) → L2 "domain" = some (.str (reachL (nmf k))) → WB (TK P) (n + 399) ⟨scK P 249, 249⟩ ((forB ((bodyK P 249).getD 12 (.Pass ⟨0, 0, 0, 0⟩))).drop 2) ⟨O4, L2, celOf lawCells n0⟩ fun f S₃ => match f with
      | .next => ∃ t_1 vs, LawD1 nmf w n0 wy jn first g O t_1 vs (natL (dueI.drop (t + 1))) S₃
      | .ret u => Q (.ret u) S₃ := by
      clear l1 l2 l3 l4 l5 l6
      intro L2 l1 l2 l3 l4 l5 l6
      have b5 := A4.cell e5
      have b3 := A4.get en rfl
      obtain ⟨ks, hks, hkl, hkrow⟩ := id ek
      have d1 := A4.get hks rfl
      refine W_cons (X_Assign rfl (E_Call rfl rfl (E_global rfl rfl rfl (WL_cons (E_Comp1 rfl rfl ?_)))))
      repeat infer_instance
      refine C_range1 (by decide) ?_
      try dsimp only
      refine ⟨.rng 0 7 1, rngItems 0 7 1, fun r out S3 => ∃ t2, r = natL ((List.range 7).drop t2) ∧ t2 ≤ 7 ∧ out = natL (((List.range 7).take t2).filter fun j => j == k || (kinF j).contains k) ∧ S3.objs = O4 ++ [.rng 0 7 1] ∧ S3.cel = fun y => List.lookup y [(("k" : Str), n0), ("kin", n0 + 5)], items_rng get_new rfl, .inl rfl, by decide, ⟨0, rng7, by decide, rfl, rfl, rfl⟩, ?_, ?_⟩
      · rintro v r out ⟨O5, L5, c5⟩ ⟨t2, hr2, ht2, rfl, e7, e8⟩
        have e7 : O5 = _ := e7
        have e8 : c5 = _ := e8
        subst e7 e8
        obtain ⟨ht27, rfl, rfl⟩ := natL_range_drop hr2
        refine ⟨items_rng get_new rfl, A_local rfl (WT_post (Q' := fun b S1 => b = (t2 == k || (kinF t2).contains k) ∧ S1.objs = O4 ++ [.rng 0 7 1] ∧ S1.cel = (fun y => List.lookup y [(("k" : Str), n0), ("kin", n0 + 5)]) ∧ S1.loc "j" = some (.int (t2 : Nat))) ?_ ?_)⟩
        · obtain ⟨rj, hrj, hrjo, _⟩ := hkrow t2 ht27
          have d2 := A4.get hrjo rfl
          repeat infer_instance
          refine C_eqi (B_if (fun h => ?_) fun h => ?_)
          · have h : t2 = k := by have := eq_of_beq h; omega
            exact ⟨by rw [h, beq_self_eq_true]; rfl, rfl, rfl, rfl⟩
          · have h : (t2 == k) = false := by
              rw [beq_eq_false_iff_ne]
              rintro rfl
              rw [beq_self_eq_true] at h; cases h
            repeat infer_instance
            refine G_list (by exact ix (lle [_] [.lt (.v 0) (.n 7)] [1] (.v 0) (.n 4096) (by exact yes) ht27)) (by array_get_dec) (v := .ref rj) (by rw [Int.toNat_natCast, List.getElem?_map, hrj]; rfl) ?_
            refine C_in (by array_get_dec) ?_
            exact ⟨by rw [h]; rfl, rfl, rfl, rfl⟩
        rintro b ⟨O5, L5, c5⟩ ⟨rfl, e7, e8, e9⟩
        have e7 : O5 = _ := e7
        have e8 : c5 = _ := e8
        subst e7 e8
        have hts : ((List.range 7).take (t2 + 1)) = (List.range 7).take t2 ++ [t2] := take_succ_get (by rw [List.getElem?_range ht27])
        refine B_if (fun h => ?_) fun h => ?_
        · refine E_local rfl rfl e9 ⟨t2 + 1, rfl, ht27, ?_, rfl, rfl⟩
          rw [hts, List.filter_append, List.filter_cons_of_pos (p := fun j => j == k || (kinF j).contains k) h]
          unfold natL
          rw [List.map_append]; rfl
        · refine ⟨t2 + 1, rfl, ht27, ?_, rfl, rfl⟩
          rw [hts, List.filter_append, List.filter_cons_of_neg (p := fun j => j == k || (kinF j).contains k) (by rw [h]; decide), List.filter_nil, List.append_nil]
      · rintro out ⟨O5, L5, c5⟩ ⟨t2, hr2, ht2, rfl, e7, e8⟩
        have e7 : O5 = _ := e7
        have e8 : c5 = _ := e8
        subst e7 e8
        have ht27 := natL_nil_drop hr2
        obtain rfl : t2 = 7 := by exact leq [_] [.le (.v 0) (.n 7), .le (.n 7) (.v 0)] [1, 0] [0, 1] (.v 0) (.n 7) (by exact yes) (by exact yes) ht2 ht27
        refine ⟨items_rng get_new rfl, ?_⟩
        rw [List.take_of_length_le (by rw [List.length_range]; exact Nat.le_refl _)]
        have hfl : ((List.range 7).filter fun j => j == k || (kinF j).contains k).length ≤ 7 := by
          have := List.length_filter_le (fun j => j == k || (kinF j).contains k) (List.range 7)
          rw [List.length_range] at this
          exact this
        try dsimp only
        repeat infer_instance
        refine whites_W P (anc := kinF) get_new ⟨ks, get_app (get_app d1), hkl, fun i hi => ?_⟩ ⟨hfl, fun x hx => List.mem_range.mp (List.mem_filter.mp hx).1⟩ (F.wh k hk7) ?_
        · obtain ⟨ri, h1, h2, h3⟩ := hkrow i hi
          exact ⟨ri, h1, get_app (get_app (A4.get h2 rfl)), h3⟩
        rintro ⟨O6, L6, c6⟩ hk6 e6' e6''
        have e6' : L6 = L2 := e6'
        have e6'' : c6 = celOf lawCells n0 := e6''
        subst e6' e6''
        have hk6 : ∀ (i : Nat) o, O4[i]? = some o → O6[i]? = some o := fun i o h => hk6 _ _ (get_app (get_app h))
        have A6 := A4.keeps hk6
        have ek6 := hk6 _ _ ek4
        have hv6 := hk6 _ _ hv4
        have hit6 := hk6 _ _ hit4
        have hp6 := hp4.keeps (objs' := O6) fun i vs h => hk6 _ _ h
        have b6 := hk6 _ _ b3
        have hw64 := F.gar.small k hk7
        have hvl : vs.length = t := by rw [hp6.1, List.length_map, List.length_take]; show min t 7 = t; exact leq [_, _] [.eq (.v 0) (.v 1)] [1] [-1] (.v 0) (.v 1) (by exact yes) (by exact yes) (Nat.min_eq_left (ht))
        have hvlt := get_lt hv6
        repeat infer_instance
        refine K_list hv6 ?_
        repeat infer_instance
        refine B_rep (by exact ⟨Int.natCast_nonneg _, Int.ofNat_le (n := 64) |>.mpr (hw64)⟩) ?_
        rw [Int.toNat_natCast]
        repeat infer_instance
        refine G_list (by exact ix (lle [_] [.lt (.v 0) (.n 7)] [1] (.v 0) (.n 4096) (by exact yes) hk7)) (by array_get_dec) (v := .str (nmf k)) (by rw [Int.toNat_natCast, List.getElem?_map, List.getElem?_range hk7]; rfl) ?_
        repeat infer_instance
        refine M_append (get_app hv6) (by exact llt [_, _] [.le (.v 1) (.n 7), .eq (.v 0) (.v 1)] [1, 1] (.v 0) (.n 4096) (by exact yes) ht hvl) ⟨rfl, ?_⟩
        repeat infer_instance
        refine ⟨t + 1, vs ++ [.ref O6.length], rfl, ht7, (A6.app _).setN (Nat.le_refl _), get_set_same (get_app hv6), ?_, get_set (get_app hit6) (by exact fun hz => lif [_] [.eq (.a (.v 0) (.n 1)) (.v 0)] [1] (by exact yes) hz), l1, l2, l3, l4, l5, rfl⟩
        rw [take_succ_get hk, List.map_append]
        refine P3.push (hp6.keeps fun i us h => get_set (get_app h) ?_) (get_set get_new (by exact fun hz => lif [_, _] [.eq (.v 0) (.v 1), .lt (.v 1) (.v 0)] [1, 1] (by exact yes) hz hvlt))
        rintro rfl
        rw [hv6] at h; cases h
    refine B_if (fun h => ?_) fun h => ?_
    · have h : wy = 3 := by have := eq_of_beq h; omega
      rw [if_pos h] at hdom
      repeat infer_instance
      refine G_list (by exact ix (lle [_] [.lt (.v 0) (.n 7)] [1] (.v 0) (.n 4096) (by exact yes) hk7)) (by array_get_dec) (v := .str (nmf k)) (by rw [Int.toNat_natCast, List.getElem?_map, List.getElem?_range hk7]; rfl) ?_
      refine A_local rfl (W_nil ?_)
      exact hrest _ l1 l2 l3 l4 l5 (by rw [hdom]; rfl)
    · have h : wy ≠ 3 := by rintro rfl; exact nomatch h
      rw [if_neg h] at hdom
      exact W_nil (hrest _ l1 l2 l3 l4 l5 (by rw [hdom]; exact l6))
  · rintro ⟨O2, L2, c2⟩ ⟨t, vs, hr, ht, A, hv, hp, hit, l1, l2, l3, l4, l5, hc2⟩
    have hc2 : c2 = celOf lawCells n0 := hc2
    subst hc2
    dsimp only at A hv hp hit l1 l2 l3 l4 l5
    refine ⟨items_tup hit, ?_⟩
    have ht7 : 7 ≤ t := natL_nil hr
    obtain rfl : t = 7 := by exact leq [_] [.le (.v 0) (.n 7), .le (.n 7) (.v 0)] [1, 0] [0, 1] (.v 0) (.n 7) (by exact yes) (by exact yes) ht ht7
    have hp : P3 O2 vs (dueI.map fun k => (reachL (nmf k), pieceN nmf w k)) := hp
    refine law_D2 P F (A.cell e3) (A.get et rfl) (A.cell e5) ?_ (A.cell e6) ?_ l2 l3 hf l4 l5 hv hp hQ
    · obtain ⟨rs, hrs, hr7, hrow⟩ := ek
      exact ⟨rs, A.get hrs rfl, hr7, fun i hi => (by obtain ⟨r, h1, h2, h3⟩ := hrow i hi; exact ⟨r, h1, A.get h2 rfl, h3⟩)⟩
    · obtain ⟨rs, hrs, hr7, hrow⟩ := ew
      exact ⟨rs, A.get hrs rfl, hr7, fun i hi => (by obtain ⟨r, bs, h1, h2, h3⟩ := hrow i hi; exact ⟨r, bs, h1, A.get h2 rfl, h3⟩)⟩
theorem C_isNotB_same {G : Gd} {S : MS} {x y : Bool} {Q : Bool → MS → Prop} (e : x = y) (h : Q false S) : PC G .IsNot (.bool x) (.bool y) S Q := C_isNotB (by rw [beq_iff_eq.mpr e]; exact h)
theorem rng_natL (n : Nat) : rngItems 0 (n : Int) 1 = natL ((List.range n).drop 0) := by
  unfold rngItems natL
  rw [if_pos rfl, List.drop_zero, show ((n : Int) - 0).toNat = n by omega]
  congr 1
  funext k
  rw [Int.zero_add]
variable (P : PP)
noncomputable abbrev KinR (kinF : Nat → List Nat) (lo : Nat) (rs : List Nat) (t : Nat) (O : List MO) : Prop := ∀ j, j < t → ∃ r bs, rs[j]? = some r ∧ O[r]? = some (.list bs) ∧ lo < r ∧ ∀ k, k ≤ j → bs[k]? = some (.bool ((kinF j).contains k))
structure LawC1 (kinF : Nat → List Nat) (n0 wy jn : Nat) (first : Int) (g : List Nat) (O0 : List MO) (t : Nat) (rs : List Nat) (r : List MV) (S' : MS) : Prop where
  a1 : r = natL ((List.range 7).drop t)
  a2 : t ≤ 7
  a3 : Ag n0 O0 S'.objs
  a4 : S'.objs[O0.length]? = some (.list (rs.map .ref))
  a5 : rs.length = t
  a6 : KinR kinF O0.length rs t S'.objs
  a7 : S'.objs[O0.length + 1]? = some (.rng 0 7 1)
  a8 : S'.loc "names" = some (.ref jn)
  a9 : S'.loc "way" = some (.int (wy : Nat))
  a10 : S'.loc "first" = some (.int first)
  a11 : S'.loc "ground" = some (.str g)
  a12 : S'.cel = celOf lawCells n0
theorem law_C2 {nmf an kinF : Nat → List Nat} {g : List Nat} {wy : Nat} {par : Nat → Option Nat} {w : Nat → Nat} {PL : List Pc} (F : LF nmf an kinF g wy par w PL) {n n0 ja jt jk t : Nat} {rs : List Nat} {O0 O2 : List MO} {L : Str → Option MV}
    (e2 : O0[n0 + 2]? = some (.cell (some (.ref ja)))) (ea : Rows O0 ja an) (hal : ∀ k, k < 7 → ∀ x ∈ an k, x < 7)
    (e3 : O0[n0 + 3]? = some (.cell (some (.ref jt)))) (et : O0[jt]? = some (.list ((List.range 7).map fun k => .str (nmf k)))) (e5 : O0[n0 + 5]? = some (.cell (some (.ref jk)))) (ek : Rows O0 jk kinF)
    (e6 : O0[n0 + 6]? = some (.cell (some (.ref O0.length)))) (ht7 : t < 7) (hrl : rs.length = t + 1)
    (A : Ag n0 O0 O2) (hv : O2[O0.length]? = some (.list (rs.map .ref))) (hrw : KinR kinF O0.length rs (t + 1) O2) (hit : O2[O0.length + 1]? = some (.rng 0 7 1)) (hj : O2[n0 + 4]? = some (.cell (some (.int (t : Nat)))))
    (hgr : O2[n0 + 7]? = some (.cell (some (.str (uppL (nmf t)))))) {Q : MFlow → MS → Prop}
    (hQ : ∀ O', Ag n0 O0 O' → O'[O0.length]? = some (.list (rs.map .ref)) → KinR kinF O0.length rs (t + 1) O' → O'[O0.length + 1]? = some (.rng 0 7 1) → Q .next ⟨O', L, celOf lawCells n0⟩) :
    WB (TK P) (n + 399) ⟨scK P 249, 249⟩ ((forB ((bodyK P 249).getD 10 (.Pass ⟨0, 0, 0, 0⟩))).drop 2) ⟨O2, L, celOf lawCells n0⟩ Q := by
  have hst : stopLen = 4096 := rfl
  have hnt := F.gar.len t ht7
  have hasc := F.asc t ht7
  have hup : (uppL (nmf t)).length ≤ 200 := by unfold uppL; rw [List.length_map]; exact hnt
  obtain ⟨rt, bt, hrt, hbt, _, hbk⟩ := hrw t (by exact llt [_] [] [] (.v 0) (.a (.v 0) (.n 1)) (by exact yes))
  obtain ⟨ks, hks, hk7, hkr⟩ := ek
  obtain ⟨kt, hkt, hkto, hktl⟩ := hkr t ht7
  have hrok : rngOk 0 ((t + 1 : Nat) : Int) 1 = true := by
    unfold rngOk
    exact decide_eq_true ⟨.inl rfl, by decide, by decide, by exact Int.le_trans (by decide) (Int.natCast_nonneg _), by exact Int.ofNat_le (n := 2000) |>.mpr (lle [_] [.lt (.v 0) (.n 7)] [1] (.a (.v 0) (.n 1)) (.n 2000) (by exact yes) ht7)⟩
  refine W_cons (X_If (T_Cmp rfl (E_Comp1 rfl rfl ?_)))
  repeat infer_instance
  refine C_range1 (by omega) ?_
  rw [show ((t : Nat) : Int) + 1 = ((t + 1 : Nat) : Int) by omega]
  try dsimp only
  refine ⟨.rng 0 ((t + 1 : Nat) : Int) 1, rngItems 0 ((t + 1 : Nat) : Int) 1, fun r out S3 => ∃ k, r = natL ((List.range (t + 1)).drop k) ∧ k ≤ t + 1 ∧ out = [] ∧ S3.objs = O2 ++ [.rng 0 ((t + 1 : Nat) : Int) 1] ∧ S3.cel = fun y => List.lookup y [(("j" : Str), n0 + 4), ("kin", n0 + 5), ("within", n0 + 6)], items_rng get_new hrok, .inl rfl, ?_, ⟨0, rng_natL _, by exact lle [_] [] [] (.n 0) (.a (.v 0) (.n 1)) (by exact yes), rfl, rfl, rfl⟩, ?_, ?_⟩
  · rw [rng_len]; exact lle [_, _] [.lt (.v 0) (.n 7), .eq (.v 1) (.n 4096)] [1, -1] (.a (.v 0) (.n 1)) (.v 1) (by exact yes) ht7 hst
  · rintro v r out ⟨O3, L3, c3⟩ ⟨k, hr2, hk2, rfl, e7, e8⟩
    have e7 : O3 = _ := e7
    have e8 : c3 = _ := e8
    subst e7 e8
    obtain ⟨hkt7, rfl, rfl⟩ := natL_range_drop hr2
    refine ⟨items_rng get_new hrok, ?_⟩
    have a5 := A.cell e5
    have a6 := A.cell e6
    have a7 := A.get hks rfl
    have a8 := A.get hkto rfl
    repeat infer_instance
    refine G_list (by exact ix (lle [_] [.lt (.v 0) (.n 7)] [1] (.v 0) (.n 4096) (by exact yes) ht7)) (by array_get_dec) (v := .ref rt) (by rw [Int.toNat_natCast, List.getElem?_map, hrt]; rfl) ?_
    repeat infer_instance
    refine G_list (by exact ix (lle [_, _] [.lt (.v 1) (.n 7), .lt (.v 0) (.a (.v 1) (.n 1))] [1, 1] (.v 0) (.n 4096) (by exact yes) ht7 hkt7)) (by array_get_dec) (v := .bool ((kinF t).contains k)) (by rw [Int.toNat_natCast]; exact hbk k (by exact lle [_, _] [.lt (.v 0) (.a (.v 1) (.n 1))] [1] (.v 0) (.v 1) (by exact yes) hkt7)) ?_
    repeat infer_instance
    refine G_list (by exact ix (lle [_] [.lt (.v 0) (.n 7)] [1] (.v 0) (.n 4096) (by exact yes) ht7)) (by array_get_dec) (v := .ref kt) (by rw [Int.toNat_natCast, List.getElem?_map, hkt]; rfl) ?_
    refine C_in (by array_get_dec) ?_
    refine C_isNotB_same rfl (B_false ?_)
    exact ⟨k + 1, rfl, by exact lle [_, _] [.lt (.v 0) (.a (.v 1) (.n 1))] [1] (.a (.v 0) (.n 1)) (.a (.v 1) (.n 1)) (by exact yes) hkt7, rfl, rfl, rfl⟩
  rintro out ⟨O3, L3, c3⟩ ⟨k, hr2, hk2, rfl, e7, e8⟩
  have e7 : O3 = _ := e7
  have e8 : c3 = _ := e8
  subst e7 e8
  refine ⟨items_rng get_new hrok, ?_⟩
  repeat infer_instance
  refine C_ne0 (xs := []) (get_app get_new) get_new (B_if (fun h => nomatch h) fun _ => W_nil ?_)
  try dsimp only
  refine WB_gen (fun O' L' => Ag n0 O0 O' ∧ O'[O0.length]? = some (.list (rs.map .ref)) ∧ KinR kinF O0.length rs (t + 1) O' ∧ O'[O0.length + 1]? = some (.rng 0 7 1) ∧ O'[n0 + 4]? = some (.cell (some (.int (t : Nat)))) ∧ O'[n0 + 7]? = some (.cell (some (.str (uppL (nmf t))))) ∧ L' = L)
    ⟨((A.app _).app _).app _, get_app (get_app (get_app hv)), fun j hj => (by obtain ⟨r, bs, h1, h2, h3, h4⟩ := hrw j hj; exact ⟨r, bs, h1, get_app (get_app (get_app h2)), h3, h4⟩), get_app (get_app (get_app hit)), get_app (get_app (get_app hj)), get_app (get_app (get_app hgr)), rfl⟩ ?_
  clear A hv hrw hit hj hgr hbt hr2 hk2 hks hkr hkt hkto hktl hrt hbk
  rintro O4 L4 ⟨A, hv, hrw, hit, hj, hgr, rfl⟩
  obtain ⟨rs2, hrs2, hr7, hrow⟩ := ea
  obtain ⟨ra, hra, hrao, hral⟩ := hrow t ht7
  have a2 := A.cell e2
  have a3 := A.cell e3
  have a7 := A.get hrs2 rfl
  have a8 := A.get hrao rfl
  have a9 := A.get et rfl
  refine W_cons (X_If (T_Cmp rfl (E_Comp1 rfl rfl ?_)))
  repeat infer_instance
  refine G_list (by exact ix (lle [_] [.lt (.v 0) (.n 7)] [1] (.v 0) (.n 4096) (by exact yes) ht7)) (by array_get_dec) (v := .ref ra) (by rw [Int.toNat_natCast, List.getElem?_map, hra]; rfl) ?_
  refine B_cat (by array_get_dec) (xs := [.int (t : Nat)]) (ys := natL (an t)) (by array_get_dec) ?_ ?_
  · rw [List.length_append, natL_len, List.length_cons, List.length_nil]; exact lle [_, _] [.eq (.v 1) (.n 4096), .le (.v 0) (.n 7)] [-1, 1] (.a (.n 1) (.v 0)) (.v 1) (by exact yes) hst hral
  try dsimp only
  refine ⟨.list, natL (t :: an t), fun r out S3 => ∃ k, r = natL ((t :: an t).drop k) ∧ k ≤ (t :: an t).length ∧ out = [] ∧ S3.objs = O4 ++ [.list [.int (t : Nat)]] ++ [.list (natL (t :: an t))] ∧ S3.cel = fun y => List.lookup y [(("great" : Str), n0 + 7), ("j", n0 + 4), ("told", n0 + 3)], items_list get_new, .inl rfl, ?_, ⟨0, rfl, by exact lle [_] [] [] (.n 0) (.v 0) (by exact yes), rfl, rfl, rfl⟩, ?_, ?_⟩
  · rw [natL_len, List.length_cons]; exact lle [_, _] [.eq (.v 1) (.n 4096), .le (.v 0) (.n 7)] [-1, 1] (.a (.v 0) (.n 1)) (.v 1) (by exact yes) hst hral
  · rintro v r out ⟨O5, L5, c5⟩ ⟨k, hr2, hk2, rfl, e7, e8⟩
    have e7 : O5 = _ := e7
    have e8 : c5 = _ := e8
    subst e7 e8
    obtain ⟨x, hx, hkl, rfl, rfl⟩ := natL_cons_drop hr2
    have hxm := List.mem_of_getElem? hx
    have hx7 : x < 7 := by
      rcases List.mem_cons.mp hxm with rfl | h
      · exact ht7
      · exact hal t ht7 x h
    have hnx := F.gar.len x hx7
    have hascx := F.asc x hx7
    refine ⟨items_list get_new, ?_⟩
    repeat infer_instance
    refine G_list (by exact ix (lle [_] [.lt (.v 0) (.n 7)] [1] (.v 0) (.n 4096) (by exact yes) hx7)) (by array_get_dec) (v := .str (nmf x)) (by rw [Int.toNat_natCast, List.getElem?_map, List.getElem?_range hx7]; rfl) ?_
    repeat infer_instance
    refine udm_W P ⟨hasc.2, by exact lle [_, _] [.eq (.v 1) (.n 4096), .le (.v 0) (.n 200)] [-1, 1] (.v 0) (.v 1) (by exact yes) hst hup⟩ ⟨hascx.1, by exact lle [_, _] [.eq (.v 1) (.n 4096), .le (.v 0) (.n 200)] [-1, 1] (.v 0) (.v 1) (by exact yes) hst hnx⟩ ?_
    rw [F.udm2 t x ht7 hxm]
    repeat infer_instance
    refine C_eqi ?_
    refine C_isNotB_same ?_ (B_false ?_)
    · rw [Bool.eq_iff_iff, beq_iff_eq, beq_iff_eq]; omega
    exact ⟨k + 1, rfl, hkl, rfl, rfl, rfl⟩
  rintro out ⟨O5, L5, c5⟩ ⟨k, hr2, hk2, rfl, e7, e8⟩
  have e7 : O5 = _ := e7
  have e8 : c5 = _ := e8
  subst e7 e8
  refine ⟨items_list get_new, ?_⟩
  repeat infer_instance
  refine C_ne0 (xs := []) (get_app get_new) get_new (B_if (fun h => nomatch h) fun _ => W_nil ?_)
  repeat infer_instance
  exact hQ _ ((((A.app _).app _).app _).app _) (get_app (get_app (get_app (get_app hv)))) (fun j hj => (by obtain ⟨r, bs, h1, h2, h3, h4⟩ := hrw j hj; exact ⟨r, bs, h1, get_app (get_app (get_app (get_app h2))), h3, h4⟩)) (get_app (get_app (get_app (get_app hit))))
theorem law_C {nmf an kinF : Nat → List Nat} {g : List Nat} {wy : Nat} {par : Nat → Option Nat} {w : Nat → Nat} {PL : List Pc} (F : LF nmf an kinF g wy par w PL) {n n0 ja jt jk jn : Nat} {first : Int} {O : List MO} {L : Str → Option MV}
    (hc : ∀ i, i = n0 ∨ i = n0 + 4 ∨ i = n0 + 7 → ∃ o, O[i]? = some (.cell o)) (e1 : O[n0 + 1]? = some (.cell (some (.str g)))) (e2 : O[n0 + 2]? = some (.cell (some (.ref ja)))) (ea : Rows O ja an) (hal : ∀ k, k < 7 → ∀ x ∈ an k, x < 7)
    (e3 : O[n0 + 3]? = some (.cell (some (.ref jt)))) (et : O[jt]? = some (.list ((List.range 7).map fun k => .str (nmf k)))) (e5 : O[n0 + 5]? = some (.cell (some (.ref jk)))) (ek : Rows O jk kinF)
    (e6 : ∃ o, O[n0 + 6]? = some (.cell o)) (ln : L "names" = some (.ref jn)) (en : O[jn]? = some (.list ((List.range 7).map fun k => .str (nmf k)))) (hwy : wy < 4)
    (lw : L "way" = some (.int (wy : Nat))) (lf : L "first" = some (.int first)) (hf : 0 ≤ first ∧ first ≤ 2) (lg : L "ground" = some (.str g)) {Q : MFlow → MS → Prop} (hQ : ∀ S', Q (.ret (.bool true)) S') :
    WB (TK P) (n + 400) ⟨scK P 249, 249⟩ ((bodyK P 249).drop 9) ⟨O, L, celOf lawCells n0⟩ Q := by
  have hst : stopLen = 4096 := rfl
  have hg := F.gr.2
  obtain ⟨o6, e6⟩ := e6
  have lt6 := get_lt e6
  refine W_cons (X_Assign rfl ?_)
  repeat infer_instance
  refine A_cell rfl rfl (get_app e6) ?_
  try dsimp only
  obtain ⟨O0, hO0⟩ : ∃ x, x = O.set (n0 + 6) (.cell (some (.ref O.length))) := ⟨_, rfl⟩
  have hlen0 : O0.length = O.length := by rw [hO0, List.length_set]
  have hO1 : (O ++ [MO.list []]).set (n0 + 6) (.cell (some (.ref O.length))) = O0 ++ [MO.list []] := by
    rw [hO0, List.set_append_left _ _ lt6]
  have gk : ∀ (i : Nat) o, O[i]? = some o → i ≠ n0 + 6 → O0[i]? = some o := fun i o h hi => by rw [hO0]; exact get_set h hi
  have gl : ∀ (i : Nat) vs, O[i]? = some (.list vs) → O0[i]? = some (.list vs) := fun i vs h => gk i _ h (by rintro rfl; rw [e6] at h; cases h)
  have hc0 : ∀ i, i = n0 ∨ i = n0 + 4 ∨ i = n0 + 7 → ∃ o, O0[i]? = some (.cell o) := fun i hi => (by obtain ⟨o, h⟩ := hc i hi; exact ⟨o, gk _ _ h (by omega)⟩)
  have e1 := gk _ _ e1 (by exact fun hz => lif [_] [.eq (.a (.v 0) (.n 1)) (.a (.v 0) (.n 6))] [-1] (by exact yes) hz)
  have e2 := gk _ _ e2 (by exact fun hz => lif [_] [.eq (.a (.v 0) (.n 2)) (.a (.v 0) (.n 6))] [-1] (by exact yes) hz)
  have e3 := gk _ _ e3 (by exact fun hz => lif [_] [.eq (.a (.v 0) (.n 3)) (.a (.v 0) (.n 6))] [-1] (by exact yes) hz)
  have e5 := gk _ _ e5 (by exact fun hz => lif [_] [.eq (.a (.v 0) (.n 5)) (.a (.v 0) (.n 6))] [-1] (by exact yes) hz)
  have et := gl _ _ et
  have en := gl _ _ en
  have e6 : O0[n0 + 6]? = some (.cell (some (.ref O.length))) := by rw [hO0]; exact get_set_same e6
  have ea : Rows O0 ja an := (by obtain ⟨rs, h1, h2, h3⟩ := ea; exact ⟨rs, gl _ _ h1, h2, fun i hi => (by obtain ⟨r, h4, h5, h6⟩ := h3 i hi; exact ⟨r, h4, gl _ _ h5, h6⟩)⟩)
  have ek : Rows O0 jk kinF := (by obtain ⟨rs, h1, h2, h3⟩ := ek; exact ⟨rs, gl _ _ h1, h2, fun i hi => (by obtain ⟨r, h4, h5, h6⟩ := h3 i hi; exact ⟨r, h4, gl _ _ h5, h6⟩)⟩)
  rw [hO1]
  rw [← hlen0] at e6
  clear hO1 gk gl hO0 hc lt6
  have A0 := (Ag.refl hc0).app (.list [])
  refine WB_gen (fun O' L' => O' = O0 ++ [.list []] ∧ L' = L) ⟨rfl, rfl⟩ ?_
  rintro O1 L1 ⟨rfl, rfl⟩
  clear hlen0
  repeat infer_instance
  refine X_For rfl rfl ?_
  repeat infer_instance
  refine C_range1 (by decide) ?_
  try dsimp only
  rw [show (O0 ++ [MO.list []]).length = O0.length + 1 by simp]
  refine ⟨.rng 0 7 1, rngItems 0 7 1, fun r S' => ∃ (t : Nat) (rs : List Nat), LawC1 kinF n0 wy jn first g O0 t rs r S', items_rng (get_newAt (by simp)) rfl, ?_, ?_, ?_⟩
  · exact ⟨0, [], rng7, by decide, A0.app _, get_app get_new, rfl, fun j hj => absurd hj (Nat.not_lt_zero j), get_newAt (by simp), ln, lw, lf, lg, rfl⟩
  · rintro v r ⟨O2, L2, c2⟩ ⟨t, rs, hr, ht, A, hv, hrl, hrw, hit, l1, l2, l3, l4, hc2⟩
    have hc2 : c2 = celOf lawCells n0 := hc2
    subst hc2
    dsimp only at A hv hrw hit l1 l2 l3 l4
    refine ⟨items_rng hit rfl, ?_⟩
    obtain ⟨ht7, rfl, rfl⟩ := natL_range_drop hr
    obtain ⟨oj, ej0⟩ := A.c1 (n0 + 4) (.inr (.inl rfl))
    have hn4 : n0 + 4 < O0.length := by obtain ⟨o, h⟩ := A0.c0 (n0 + 4) (.inr (.inl rfl)); exact get_lt h
    have hn7 : n0 + 7 < O0.length := by obtain ⟨o, h⟩ := A0.c0 (n0 + 7) (.inr (.inr rfl)); exact get_lt h
    refine A_cell rfl rfl ej0 ?_
    try dsimp only
    let Rin : List MO → Prop := fun O' => Ag n0 O0 O' ∧ O'[O0.length]? = some (.list (rs.map .ref)) ∧ KinR kinF O0.length rs t O' ∧ O'[O0.length + 1]? = some (.rng 0 7 1) ∧ O'[n0 + 4]? = some (.cell (some (.int (t : Nat))))
    refine WB_gen (fun O' L' => Rin O' ∧ L' = L2) ⟨⟨A.setC (.inr (.inl rfl)), get_set hv (by exact fun hz => lif [_, _] [.eq (.v 0) (.a (.a (.a (.a (.v 1) (.n 1)) (.n 1)) (.n 1)) (.n 1)), .lt (.a (.v 1) (.n 7)) (.v 0)] [1, 1] (by exact yes) hz hn7), fun j hj => (by obtain ⟨r, bs, h1, h2, h3, h4⟩ := hrw j hj; exact ⟨r, bs, h1, get_set h2 (by exact fun hz => lif [_, _, _] [.eq (.v 0) (.a (.a (.a (.a (.v 1) (.n 1)) (.n 1)) (.n 1)) (.n 1)), .lt (.a (.v 1) (.n 7)) (.v 2), .lt (.v 2) (.v 0)] [1, 1, 1] (by exact yes) hz hn7 h3), h3, h4⟩), get_set hit (by exact fun hz => lif [_, _] [.eq (.a (.v 0) (.n 1)) (.a (.a (.a (.a (.v 1) (.n 1)) (.n 1)) (.n 1)) (.n 1)), .lt (.a (.v 1) (.n 7)) (.v 0)] [1, 1] (by exact yes) hz hn7), get_set_same ej0⟩, rfl⟩ ?_
    clear hc2 A hv hrw hit ej0 oj O2
    rintro O2 L2 ⟨⟨A, hv, hrw, hit, hj⟩, rfl⟩
    have et2 := A.get et rfl
    have e32 := A.cell e3
    have hnt := F.gar.len t ht7
    have hasc := F.asc t ht7
    obtain ⟨og, eg0⟩ := A.c1 (n0 + 7) (.inr (.inr rfl))
    refine W_cons (X_Assign rfl ?_)
    repeat infer_instance
    refine G_list (by exact ix (lle [_] [.lt (.v 0) (.n 7)] [1] (.v 0) (.n 4096) (by exact yes) ht7)) (by array_get_dec) (v := .str (nmf t)) (by rw [Int.toNat_natCast, List.getElem?_map, List.getElem?_range ht7]; rfl) ?_
    repeat infer_instance
    refine M_upper ⟨hasc.1, by exact lle [_, _] [.eq (.v 1) (.n 4096), .le (.v 0) (.n 200)] [-1, 1] (.v 0) (.v 1) (by exact yes) hst hnt⟩ ?_
    refine A_cell rfl rfl eg0 ?_
    try dsimp only
    have hup : (uppL (nmf t)).length ≤ 200 := by unfold uppL; rw [List.length_map]; exact hnt
    refine WB_gen (fun O' L' => Rin O' ∧ O'[n0 + 7]? = some (.cell (some (.str (uppL (nmf t))))) ∧ L' = L2) ⟨⟨A.setC (.inr (.inr rfl)), get_set hv (by exact fun hz => lif [_, _] [.eq (.v 0) (.a (.a (.a (.a (.a (.a (.a (.v 1) (.n 1)) (.n 1)) (.n 1)) (.n 1)) (.n 1)) (.n 1)) (.n 1)), .lt (.a (.v 1) (.n 7)) (.v 0)] [1, 1] (by exact yes) hz hn7), fun j hj => (by obtain ⟨r, bs, h1, h2, h3, h4⟩ := hrw j hj; exact ⟨r, bs, h1, get_set h2 (by exact fun hz => lif [_, _, _] [.eq (.v 0) (.a (.a (.a (.a (.a (.a (.a (.v 1) (.n 1)) (.n 1)) (.n 1)) (.n 1)) (.n 1)) (.n 1)) (.n 1)), .lt (.a (.v 1) (.n 7)) (.v 2), .lt (.v 2) (.v 0)] [1, 1, 1] (by exact yes) hz hn7 h3), h3, h4⟩), get_set hit (by exact fun hz => lif [_, _] [.eq (.a (.v 0) (.n 1)) (.a (.a (.a (.a (.a (.a (.a (.v 1) (.n 1)) (.n 1)) (.n 1)) (.n 1)) (.n 1)) (.n 1)) (.n 1)), .lt (.a (.v 1) (.n 7)) (.v 0)] [1, 1] (by exact yes) hz hn7), get_set hj (by exact fun hz => lif [_] [.eq (.a (.v 0) (.n 4)) (.a (.a (.a (.a (.a (.a (.a (.v 0) (.n 1)) (.n 1)) (.n 1)) (.n 1)) (.n 1)) (.n 1)) (.n 1))] [-1] (by exact yes) hz)⟩, get_set_same eg0, rfl⟩ ?_
    clear A hv hrw hit eg0 og hj et2 e32 O2
    rintro O2 L2 ⟨⟨A, hv, hrw, hit, hj⟩, hgr, rfl⟩
    have et2 := A.get et rfl
    have e32 := A.cell e3
    have e62 := A.cell e6
    repeat infer_instance
    refine K_list hv ?_
    repeat infer_instance
    refine E_Comp0 rfl rfl ?_
    repeat infer_instance
    refine C_range1 (by omega) ?_
    rw [show ((t : Nat) : Int) + 1 = ((t + 1 : Nat) : Int) by omega]
    try dsimp only
    have hrok : rngOk 0 ((t + 1 : Nat) : Int) 1 = true := by
      unfold rngOk
      exact decide_eq_true ⟨.inl rfl, by decide, by decide, by exact Int.le_trans (by decide) (Int.natCast_nonneg _), by exact Int.ofNat_le (n := 2000) |>.mpr (lle [_] [.lt (.v 0) (.n 7)] [1] (.a (.v 0) (.n 1)) (.n 2000) (by exact yes) ht7)⟩
    refine ⟨.rng 0 ((t + 1 : Nat) : Int) 1, rngItems 0 ((t + 1 : Nat) : Int) 1, fun r out S3 => ∃ k, r = natL ((List.range (t + 1)).drop k) ∧ k ≤ t + 1 ∧ out = ((List.range k).map fun k => .bool ((kinF t).contains k)) ∧ S3.objs = O2 ++ [.rng 0 ((t + 1 : Nat) : Int) 1] ∧ S3.cel = fun y => List.lookup y [(("great" : Str), n0 + 7), ("told", n0 + 3)], items_rng get_new hrok, .inl rfl, ?_, ⟨0, rng_natL _, by exact lle [_] [] [] (.n 0) (.a (.v 0) (.n 1)) (by exact yes), rfl, rfl, rfl⟩, ?_, ?_⟩
    · rw [rng_len]; exact lle [_, _] [.eq (.v 1) (.n 4096), .lt (.v 0) (.n 7)] [-1, 1] (.a (.v 0) (.n 1)) (.v 1) (by exact yes) hst ht7
    · rintro v r out ⟨O3, L3, c3⟩ ⟨k, hr2, hk2, rfl, e7, e8⟩
      have e7 : O3 = _ := e7
      have e8 : c3 = _ := e8
      subst e7 e8
      obtain ⟨hkt, rfl, rfl⟩ := natL_range_drop hr2
      have hnk := F.gar.len k (by exact llt [_, _] [.lt (.v 1) (.n 7), .lt (.v 0) (.a (.v 1) (.n 1))] [1, 1] (.v 0) (.n 7) (by exact yes) ht7 hkt)
      have hasck := F.asc k (by exact llt [_, _] [.lt (.v 1) (.n 7), .lt (.v 0) (.a (.v 1) (.n 1))] [1, 1] (.v 0) (.n 7) (by exact yes) ht7 hkt)
      refine ⟨items_rng get_new hrok, ?_⟩
      repeat infer_instance
      refine G_list (by exact ix (lle [_, _] [.lt (.v 1) (.n 7), .lt (.v 0) (.a (.v 1) (.n 1))] [1, 1] (.v 0) (.n 4096) (by exact yes) ht7 hkt)) (by array_get_dec) (v := .str (nmf k)) (by rw [Int.toNat_natCast, List.getElem?_map, List.getElem?_range (by exact llt [_, _] [.lt (.v 1) (.n 7), .lt (.v 0) (.a (.v 1) (.n 1))] [1, 1] (.v 0) (.n 7) (by exact yes) ht7 hkt)]; rfl) ?_
      refine B_adds (x := [46]) (by rw [List.length_append, List.length_cons, List.length_nil]; exact lle [_, _] [.eq (.v 1) (.n 4096), .le (.v 0) (.n 200)] [-1, 1] (.a (.n 1) (.v 0)) (.v 1) (by exact yes) hst hnk) ?_
      repeat infer_instance
      refine udm_W P ⟨hasc.2, by exact lle [_, _] [.eq (.v 1) (.n 4096), .le (.v 0) (.n 200)] [-1, 1] (.v 0) (.v 1) (by exact yes) hst hup⟩ ⟨?_, ?_⟩ ?_
      · show isAsciiL (46 :: nmf k) = true
        unfold isAsciiL
        rw [List.all_cons]
        exact Bool.and_eq_true_iff.mpr ⟨rfl, hasck.1⟩
      · show (46 :: nmf k).length ≤ stopLen
        rw [List.length_cons]; exact lle [_, _] [.eq (.v 1) (.n 4096), .le (.v 0) (.n 200)] [-1, 1] (.a (.v 0) (.n 1)) (.v 1) (by exact yes) hst hnk
      refine ⟨k + 1, rfl, by exact lle [_, _] [.lt (.v 0) (.a (.v 1) (.n 1))] [1] (.a (.v 0) (.n 1)) (.a (.v 1) (.n 1)) (by exact yes) hkt, ?_, rfl, rfl⟩
      rw [List.range_succ, List.map_append]
      show _ ++ [MV.bool (udm (uppL (nmf t)) (46 :: nmf k))] = _
      rw [F.udm1 t k ht7 (by exact lle [_, _] [.lt (.v 0) (.a (.v 1) (.n 1))] [1] (.v 0) (.v 1) (by exact yes) hkt)]; rfl
    rintro out ⟨O3, L3, c3⟩ ⟨k, hr2, hk2, rfl, e7, e8⟩
    have e7 : O3 = _ := e7
    have e8 : c3 = _ := e8
    subst e7 e8
    have hkt := natL_nil_drop hr2
    obtain rfl : k = t + 1 := by exact leq [_, _] [.le (.v 0) (.a (.v 1) (.n 1)), .le (.a (.v 1) (.n 1)) (.v 0)] [1, 0] [0, 1] (.v 0) (.a (.v 1) (.n 1)) (by exact yes) (by exact yes) hk2 hkt
    refine ⟨items_rng get_new hrok, ?_⟩
    repeat infer_instance
    refine M_append (get_app (get_app hv)) (by rw [List.length_map]; exact llt [_, _] [.eq (.v 0) (.v 1), .lt (.v 1) (.n 7)] [1, 1] (.v 0) (.n 4096) (by exact yes) hrl ht7) ⟨rfl, ?_⟩
    try dsimp only
    have hlt0 := get_lt hit
    refine WB_gen (fun O' L' => ∃ rs' : List Nat, rs'.length = t + 1 ∧ Ag n0 O0 O' ∧ O'[O0.length]? = some (.list (rs'.map .ref)) ∧ KinR kinF O0.length rs' (t + 1) O' ∧ O'[O0.length + 1]? = some (.rng 0 7 1) ∧ O'[n0 + 4]? = some (.cell (some (.int (t : Nat)))) ∧ O'[n0 + 7]? = some (.cell (some (.str (uppL (nmf t))))) ∧ L' = L2)
      ⟨rs ++ [(O2 ++ [MO.rng 0 ((t + 1 : Nat) : Int) 1]).length], by simp [hrl], ((A.app _).app _).setN (Nat.le_refl _), ?_, ?_, get_set (get_app (get_app hit)) (by exact fun hz => lif [_] [.eq (.a (.v 0) (.n 1)) (.v 0)] [1] (by exact yes) hz), get_set (get_app (get_app hj)) (by exact fun hz => lif [_, _] [.eq (.a (.v 0) (.n 4)) (.v 1), .lt (.a (.v 0) (.n 7)) (.v 1)] [-1, 1] (by exact yes) hz hn7), get_set (get_app (get_app hgr)) (by exact fun hz => lif [_, _] [.eq (.a (.v 0) (.n 7)) (.v 1), .lt (.a (.v 0) (.n 7)) (.v 1)] [-1, 1] (by exact yes) hz hn7), rfl⟩ ?_
    · rw [List.map_append]
      exact get_set_same (get_app (get_app hv))
    · intro j hj
      by_cases hjt : j = t
      · subst hjt
        refine ⟨_, _, by rw [List.getElem?_append_right (by exact lle [_, _] [.eq (.v 0) (.v 1)] [1] (.v 0) (.v 1) (by exact yes) hrl), hrl, Nat.sub_self]; rfl, get_set get_new (by rw [List.length_append]; exact fun hz => lif [_, _, _] [.eq (.a (.v 0) (.v 1)) (.v 2), .lt (.a (.v 2) (.n 1)) (.v 0)] [1, 1] (by exact yes) hz hlt0), by rw [List.length_append]; exact llt [_, _, _] [.lt (.a (.v 0) (.n 1)) (.v 1)] [1] (.v 0) (.a (.v 1) (.v 2)) (by exact yes) hlt0, fun k hk => ?_⟩
        rw [List.getElem?_map, List.getElem?_range (by exact llt [_, _] [.le (.v 0) (.v 1)] [1] (.v 0) (.a (.v 1) (.n 1)) (by exact yes) hk)]; rfl
      · obtain ⟨r, bs, h1, h2, h3, h4⟩ := hrw j (by exact llt [_, _] [.lt (.v 0) (.v 1)] [1] (.v 0) (.v 1) (by exact yes) (Nat.lt_of_le_of_ne (lle [_, _] [.lt (.v 0) (.a (.v 1) (.n 1))] [1] (.v 0) (.v 1) (by exact yes) hj) hjt))
        exact ⟨r, bs, by rw [List.getElem?_append_left (by exact llt [_, _, _] [.eq (.v 1) (.v 2), .lt (.v 0) (.v 2)] [-1, 1] (.v 0) (.v 1) (by exact yes) hrl (Nat.lt_of_le_of_ne (lle [_, _] [.lt (.v 0) (.a (.v 1) (.n 1))] [1] (.v 0) (.v 1) (by exact yes) hj) hjt))]; exact h1, get_set (get_app (get_app h2)) (by exact fun hz => lif [_, _] [.eq (.v 0) (.v 1), .lt (.v 1) (.v 0)] [1, 1] (by exact yes) hz h3), h3, h4⟩
    clear hr2 hk2 A hv hrw hit hj hgr et2 e32 e62 hkt hlt0
    rintro O2 L2 ⟨rs', hrl', A, hv, hrw, hit, hj, hgr, rfl⟩
    exact law_C2 P F e2 ea hal e3 et e5 ek e6 ht7 hrl' A hv hrw hit hj hgr fun O' A hv hrw hit => ⟨t + 1, rs', rfl, ht7, A, hv, hrl', hrw, hit, l1, l2, l3, l4, rfl⟩
  · rintro ⟨O2, L2, c2⟩ ⟨t, rs, hr, ht, A, hv, hrl, hrw, hit, l1, l2, l3, l4, hc2⟩
    have hc2 : c2 = celOf lawCells n0 := hc2
    subst hc2
    dsimp only at A hv hrw hit l1 l2 l3 l4
    refine ⟨items_rng hit rfl, ?_⟩
    have ht7 := natL_nil_drop hr
    obtain rfl : t = 7 := by exact leq [_] [.le (.v 0) (.n 7), .le (.n 7) (.v 0)] [1, 0] [0, 1] (.v 0) (.n 7) (by exact yes) (by exact yes) ht ht7
    refine law_D P F A.c1 (A.cell e1) (A.cell e2) ?_ hal (A.cell e3) (A.get et rfl) (A.cell e5) ?_ (A.cell e6) ⟨rs, hv, hrl, ?_⟩ l1 (A.get en rfl) hwy l2 l3 hf l4 hQ
    · obtain ⟨rs, hrs, hr7, hrow⟩ := ea
      exact ⟨rs, A.get hrs rfl, hr7, fun i hi => (by obtain ⟨r, h1, h2, h3⟩ := hrow i hi; exact ⟨r, h1, A.get h2 rfl, h3⟩)⟩
    · obtain ⟨rs, hrs, hr7, hrow⟩ := ek
      exact ⟨rs, A.get hrs rfl, hr7, fun i hi => (by obtain ⟨r, h1, h2, h3⟩ := hrow i hi; exact ⟨r, h1, A.get h2 rfl, h3⟩)⟩
    · intro j hj
      obtain ⟨r, bs, h1, h2, _, h3⟩ := hrw j hj
      exact ⟨r, bs, h1, h2, h3⟩
theorem C_nel_same {G : Gd} {S : MS} {i j : Nat} {xs : List (List Nat)} {Q : Bool → MS → Prop} (e1 : S.objs[i]? = some (.list (xs.map .str))) (e2 : S.objs[j]? = some (.list (xs.map .str))) (h : Q false S) : PC G .NotEq (.ref i) (.ref j) S Q := C_nel e1 e2 (strs_eq _ _) h
theorem told_strs (d : Nat → Nat) (g : List Nat) (n : Nat) : toldL d g n = ((List.range n).map (nm d g)).map .str := by unfold toldL; rw [List.map_map]; rfl
theorem told_map (d : Nat → Nat) (g : List Nat) : toldL d g 7 = (List.range 7).map fun k => MV.str (nm d g k) := rfl
theorem WB_gen_T {T : Gd} {n : Nat} {q : Sta} {O : List MO} {L : Str → Option MV} {C : Str → Option Nat} {e : Expr} {Q : MV → MS → Prop} (R : List MO → (Str → Option MV) → Prop) (h0 : R O L) (h : ∀ O L, R O L → WE T n q e ⟨O, L, C⟩ Q) : WE T n q e ⟨O, L, C⟩ Q := h _ _ h0
variable (P : PP)
theorem law_B {kinF : Nat → List Nat} {g : List Nat} {c0 : Int} {wy : Nat} {par : Nat → Option Nat} {w : Nat → Nat} {PL : List Pc} (F : LF (nm (fig c0) g) (anc (fig c0)) kinF g wy par w PL) {n n0 jc : Nat} {first c1 : Int} {O : List MO} {L : Str → Option MV}
    (hc : ∀ i, i < 8 → i ≠ 1 → ∃ o, O[n0 + i]? = some (.cell o)) (e1 : O[n0 + 1]? = some (.cell (some (.str g)))) (lc : L "cells" = some (.ref jc)) (ejc : O[jc]? = some (.list [.int c0, .int c1])) (hwy : wy < 4)
    (lw : L "way" = some (.int (wy : Nat))) (lf : L "first" = some (.int first)) (hf : 0 ≤ first ∧ first ≤ 2) (lg : L "ground" = some (.str g)) {Q : MFlow → MS → Prop} (hQ : ∀ S', Q (.ret (.bool true)) S') :
    WB (TK P) (n + 400) ⟨scK P 249, 249⟩ ((bodyK P 249).drop 5) ⟨O, L, celOf lawCells n0⟩ Q := by
  have hst : stopLen = 4096 := rfl
  have hg := F.gr.2
  refine W_cons (X_Assign rfl ?_)
  repeat infer_instance
  refine G_list (by exact ⟨by decide, by decide⟩) (by array_get_dec) (v := .int c0) rfl ?_
  repeat infer_instance
  refine garden_W P (by exact lle [_] [.le (.v 0) (.n 20)] [1] (.v 0) (.n 100) (by exact yes) hg) ?_
  rintro j ja jt ⟨O2, L2, c2⟩ hk2 q2 q3 ej hrows htold
  have q3 : c2 = celOf lawCells n0 := q3
  have q2 : L2 = L := q2
  subst q2 q3
  dsimp only at ej hrows htold
  have hk2 : ∀ (i : Nat) o, O[i]? = some o → O2[i]? = some o := hk2
  obtain ⟨o2, a2⟩ := hc 2 (by decide) (by decide)
  obtain ⟨o3, a3⟩ := hc 3 (by decide) (by decide)
  have a2 := hk2 _ _ a2
  have a3 := hk2 _ _ a3
  refine A_tup2 rfl (items_tup ej) (.inr rfl) ?_
  refine A_cell rfl rfl a2 ?_
  refine A_cell rfl rfl (get_set a3 (by exact fun hz => lif [_] [.eq (.a (.a (.a (.v 0) (.n 1)) (.n 1)) (.n 1)) (.a (.a (.v 0) (.n 1)) (.n 1))] [1] (by exact yes) hz)) ?_
  try dsimp only
  obtain ⟨rs, hrs, hrl, hrow⟩ := hrows
  have gl : ∀ (i : Nat) vs, O2[i]? = some (.list vs) → ((O2.set (n0 + 1 + 1) (.cell (some (.ref ja)))).set (n0 + 1 + 1 + 1) (.cell (some (.ref jt))))[i]? = some (.list vs) := fun i vs h => get_set (get_set h (by rintro rfl; rw [a2] at h; cases h)) (by rintro rfl; rw [a3] at h; cases h)
  refine WB_gen (fun O' L' => (∀ i, i < 8 → i ≠ 1 → i ≠ 2 → i ≠ 3 → ∃ o, O'[n0 + i]? = some (.cell o)) ∧ O'[n0 + 1]? = some (.cell (some (.str g))) ∧ O'[n0 + 2]? = some (.cell (some (.ref ja))) ∧ Rows O' ja (anc (fig c0)) ∧ O'[n0 + 3]? = some (.cell (some (.ref jt))) ∧ O'[jt]? = some (.list (toldL (fig c0) g 7)) ∧ L' = L2) ⟨fun i h1 h2 h3 h4 => ?_, ?_, ?_, ⟨rs, gl _ _ hrs, hrl, fun i hi => ?_⟩, ?_, gl _ _ htold, rfl⟩ ?_
  · obtain ⟨o, h⟩ := hc i h1 h2
    exact ⟨o, get_set (get_set (hk2 _ _ h) (by exact fun hz => lif [_, _] [.eq (.a (.v 0) (.v 1)) (.a (.a (.v 0) (.n 1)) (.n 1)), .lt (.v 1) (.n 2)] [-1, 1] (by exact yes) hz (Nat.lt_of_le_of_ne (lle [_, _] [.eq (.a (.v 1) (.v 0)) (.a (.a (.v 1) (.n 1)) (.n 1))] [1] (.v 0) (.n 2) (by exact yes) hz) h3))) (by exact fun hz => lif [_, _] [.eq (.a (.v 0) (.v 1)) (.a (.a (.a (.v 0) (.n 1)) (.n 1)) (.n 1)), .lt (.v 1) (.n 3)] [-1, 1] (by exact yes) hz (Nat.lt_of_le_of_ne (lle [_, _] [.eq (.a (.v 1) (.v 0)) (.a (.a (.a (.v 1) (.n 1)) (.n 1)) (.n 1))] [1] (.v 0) (.n 3) (by exact yes) hz) h4))⟩
  · exact get_set (get_set (hk2 _ _ e1) (by exact fun hz => lif [_] [.eq (.a (.v 0) (.n 1)) (.a (.a (.v 0) (.n 1)) (.n 1))] [-1] (by exact yes) hz)) (by exact fun hz => lif [_] [.eq (.a (.v 0) (.n 1)) (.a (.a (.a (.v 0) (.n 1)) (.n 1)) (.n 1))] [-1] (by exact yes) hz)
  · exact get_set (get_set_same a2) (by exact fun hz => lif [_] [.eq (.a (.v 0) (.n 2)) (.a (.a (.a (.v 0) (.n 1)) (.n 1)) (.n 1))] [-1] (by exact yes) hz)
  · obtain ⟨r, h1, h2⟩ := hrow i hi
    exact ⟨r, h1, gl _ _ h2, Nat.le_trans (anc_len (fig_le c0) i) (by exact lle [_] [.lt (.v 0) (.n 7)] [1] (.v 0) (.n 7) (by exact yes) hi)⟩
  · exact get_set_same (get_set a3 (by exact fun hz => lif [_] [.eq (.a (.a (.a (.v 0) (.n 1)) (.n 1)) (.n 1)) (.a (.a (.v 0) (.n 1)) (.n 1))] [1] (by exact yes) hz))
  clear hk2 gl hrow hrl hrs a2 a3 ej htold hc e1 ejc lc
  rintro O3 L3 ⟨hc, e1, e2, ea, e3, et, rfl⟩
  obtain ⟨rs, hrs, hrl, hrow⟩ := ea
  repeat infer_instance
  refine E_Comp0 rfl rfl ?_
  repeat infer_instance
  refine C_range1 (by decide) ?_
  try dsimp only
  refine ⟨.rng 0 7 1, rngItems 0 7 1, fun r out S3 => ∃ t, r = natL ((List.range 7).drop t) ∧ t ≤ 7 ∧ out = toldL (fig c0) g t ∧ (∀ (i : Nat) o, O3[i]? = some o → S3.objs[i]? = some o) ∧ S3.objs[O3.length]? = some (.rng 0 7 1) ∧ S3.cel = fun y => List.lookup y [(("above" : Str), n0 + 2), ("tail", n0 + 1)], items_rng get_new rfl, .inl rfl, by decide, ⟨0, rng7, by decide, rfl, fun i o h => get_app h, get_new, rfl⟩, ?_, ?_⟩
  · rintro v r out ⟨O4, L4, c4⟩ ⟨t, hr, ht, rfl, hk4, hit, e8⟩
    have e8 : c4 = _ := e8
    subst e8
    dsimp only at hk4 hit
    obtain ⟨ht7, rfl, rfl⟩ := natL_range_drop hr
    refine ⟨items_rng hit rfl, ?_⟩
    obtain ⟨rt, hrt, hrto, hrtl⟩ := hrow t ht7
    have b1 := hk4 _ _ e1
    have b2 := hk4 _ _ e2
    have b3 := hk4 _ _ hrs
    have b4 := hk4 _ _ hrto
    repeat infer_instance
    have hal := anc_lt (fig_le c0) t
    have hpl := path_len g (t :: anc (fig c0) t)
    have hjl : (joinL [46] ((t :: anc (fig c0) t).map fun i => [letL i])).length + 1 + g.length = (pathName g (t :: anc (fig c0) t)).length := by
      rw [← join_path]
      simp only [List.length_append, List.length_cons, List.length_nil]
    rw [List.length_cons] at hpl
    refine E_Comp0 rfl rfl ?_
    repeat infer_instance
    refine G_list (by exact ix (lle [_] [.lt (.v 0) (.n 7)] [1] (.v 0) (.n 4096) (by exact yes) ht7)) (by array_get_dec) (v := .ref rt) (by rw [Int.toNat_natCast, List.getElem?_map, hrt]; rfl) ?_
    refine B_cat (by array_get_dec) (xs := [.int (t : Nat)]) (ys := natL (anc (fig c0) t)) (by array_get_dec) ?_ ?_
    · rw [List.length_append, natL_len, List.length_cons, List.length_nil]; exact lle [_, _] [.eq (.v 1) (.n 4096), .le (.v 0) (.n 7)] [-1, 1] (.a (.n 1) (.v 0)) (.v 1) (by exact yes) hst hrtl
    try dsimp only
    refine ⟨.list, natL (t :: anc (fig c0) t), fun r out S3 => ∃ k, r = natL ((t :: anc (fig c0) t).drop k) ∧ k ≤ (t :: anc (fig c0) t).length ∧ out = (((t :: anc (fig c0) t).take k).map fun i => [letL i]).map .str ∧ S3.objs = O4 ++ [.list [.int (t : Nat)]] ++ [.list (natL (t :: anc (fig c0) t))], items_list get_new, .inl rfl, ?_, ⟨0, rfl, by exact lle [_] [] [] (.n 0) (.v 0) (by exact yes), rfl, rfl⟩, ?_, ?_⟩
    · rw [natL_len, List.length_cons]; exact lle [_, _] [.eq (.v 1) (.n 4096), .le (.v 0) (.n 7)] [-1, 1] (.a (.v 0) (.n 1)) (.v 1) (by exact yes) hst hrtl
    · rintro v r out ⟨O5, L5, c5⟩ ⟨k, hr2, hk2, rfl, e7⟩
      have e7 : O5 = _ := e7
      subst e7
      obtain ⟨x, hx, hkl, rfl, rfl⟩ := natL_cons_drop hr2
      have hxm := List.mem_of_getElem? hx
      have hx7 : x < 7 := by
        rcases List.mem_cons.mp hxm with rfl | h
        · exact ht7
        · have := hal x h; exact llt [_, _] [.lt (.v 1) (.n 7), .lt (.v 0) (.v 1)] [1, 1] (.v 0) (.n 7) (by exact yes) ht7 this
      refine ⟨items_list get_new, ?_⟩
      repeat infer_instance
      refine G_strIdx (by decide) (by exact Int.natCast_nonneg _) (letL_get hx7) ?_
      refine ⟨k + 1, rfl, hkl, ?_, rfl⟩
      rw [take_succ_get hx, List.map_append, List.map_append]; rfl
    rintro out ⟨O5, L5, c5⟩ ⟨k, hr2, hk2, rfl, e7⟩
    have e7 : O5 = _ := e7
    subst e7
    have hkt := natL_nil hr2
    rw [List.take_of_length_le hkt]
    refine ⟨items_list get_new, ?_⟩
    repeat infer_instance
    refine M_join (l := (t :: anc (fig c0) t).map fun i => [letL i]) get_new rfl ⟨?_, by decide⟩ ?_
    · show (joinL [46] ((t :: anc (fig c0) t).map fun i => [letL i])).length ≤ stopLen
      exact lle [_, _, _, _, _] [.eq (.v 1) (.n 4096), .le (.v 2) (.n 7), .eq (.v 3) (.a (.m 2 (.a (.v 2) (.n 1))) (.v 4)), .eq (.a (.a (.v 0) (.n 1)) (.v 4)) (.v 3)] [-1, 2, 1, 1] (.v 0) (.v 1) (by exact yes) hst hrtl hpl hjl
    repeat infer_instance
    refine B_adds (x := joinL [46] ((t :: anc (fig c0) t).map fun i => [letL i])) (y := [46]) ?_ ?_
    · rw [List.length_append, List.length_cons, List.length_nil]; exact lle [_, _, _, _, _] [.eq (.v 1) (.n 4096), .le (.v 2) (.n 7), .eq (.v 3) (.a (.m 2 (.a (.v 2) (.n 1))) (.v 4)), .eq (.a (.a (.v 0) (.n 1)) (.v 4)) (.v 3)] [-1, 2, 1, 1] (.a (.v 0) (.n 1)) (.v 1) (by exact yes) hst hrtl hpl hjl
    repeat infer_instance
    refine B_adds (x := joinL [46] ((t :: anc (fig c0) t).map fun i => [letL i]) ++ [46]) (y := g) ?_ ?_
    · rw [List.length_append, List.length_append, List.length_cons, List.length_nil]; exact lle [_, _, _, _, _] [.eq (.v 2) (.n 4096), .le (.v 1) (.n 20), .le (.v 3) (.n 7), .eq (.v 4) (.a (.m 2 (.a (.v 3) (.n 1))) (.v 1)), .eq (.a (.a (.v 0) (.n 1)) (.v 1)) (.v 4)] [-1, 1, 2, 1, 1] (.a (.a (.v 0) (.n 1)) (.v 1)) (.v 2) (by exact yes) hst hg hrtl hpl hjl
    rw [join_path]
    refine ⟨t + 1, rfl, ht7, ?_, fun i o h => get_app (get_app (get_app (hk4 i o h))), get_app (get_app (get_app hit)), rfl⟩
    rw [told_succ]; rfl
  rintro out ⟨O4, L4, c4⟩ ⟨t, hr, ht, rfl, hk4, hit, e8⟩
  have e8 : c4 = _ := e8
  subst e8
  dsimp only at hk4 hit
  have ht7 := natL_nil_drop hr
  obtain rfl : t = 7 := by exact leq [_] [.le (.v 0) (.n 7), .le (.n 7) (.v 0)] [1, 0] [0, 1] (.v 0) (.n 7) (by exact yes) (by exact yes) ht ht7
  refine ⟨items_rng hit rfl, ?_⟩
  repeat infer_instance
  try dsimp only
  have hk5 : ∀ (i : Nat) o, O3[i]? = some o → (O4 ++ [MO.list (toldL (fig c0) g 7)])[i]? = some o := fun i o h => get_app (hk4 i o h)
  have en : (O4 ++ [MO.list (toldL (fig c0) g 7)])[O4.length]? = some (.list (toldL (fig c0) g 7)) := get_new
  refine WB_gen_T (fun O' L' => (∀ (i : Nat) o, O3[i]? = some o → O'[i]? = some o) ∧ O'[O4.length]? = some (.list (toldL (fig c0) g 7)) ∧ L' "names" = some (.ref O4.length) ∧ L' "way" = some (.int (wy : Nat)) ∧ L' "first" = some (.int first) ∧ L' "ground" = some (.str g)) ⟨hk5, en, rfl, lw, lf, lg⟩ ?_
  clear hk5 en hit hk4
  generalize O4.length = jn
  rintro O5 L5 ⟨hk5, en, ln, lw, lf, lg⟩
  have b1 := hk5 _ _ e1
  have b2 := hk5 _ _ e2
  have b3 := hk5 _ _ e3
  have b4 := hk5 _ _ et
  repeat infer_instance
  rw [told_strs] at b4 en
  refine C_nel_same b4 en ?_
  refine B_if (fun h => nomatch h) fun _ => ?_
  repeat infer_instance
  refine reach_W P (by exact lle [_] [.le (.v 0) (.n 20)] [1] (.v 0) (.n 4000) (by exact yes) hg) ?_
  rw [F.gr.1]
  repeat infer_instance
  refine C_nes_same (B_if (fun h => nomatch h) fun _ => W_nil ?_)
  have hrows5 : Rows O5 ja (anc (fig c0)) := ⟨rs, hk5 _ _ hrs, hrl, fun i hi => (by obtain ⟨r, h1, h2, h3⟩ := hrow i hi; exact ⟨r, h1, hk5 _ _ h2, h3⟩)⟩
  have hkin := F.kinE
  try dsimp only
  refine WB_gen (fun O' L' => O' = O5 ∧ L' = L5) ⟨rfl, rfl⟩ ?_
  rintro O5 L5 ⟨rfl, rfl⟩
  refine W_cons (X_Assign rfl (WE_post (Q' := fun v S1 => ∃ jk, v = .ref jk ∧ Rows S1.objs jk kinF ∧ (∀ (i : Nat) o, O5[i]? = some o → S1.objs[i]? = some o) ∧ S1.loc = L5 ∧ S1.cel = celOf lawCells n0) ?_ ?_))
  · refine E_If (T_Cmp rfl (E_local rfl rfl lw (E_Const (Q_int (C_lt (B_if (fun h => ?_) fun h => ?_))))))
    · have h : wy < 3 := by have := of_decide_eq_true h; omega
      rw [if_pos h] at hkin
      rw [hkin]
      repeat infer_instance
      exact ⟨ja, rfl, hrows5, fun _ _ h => h, rfl, rfl⟩
    · have h : ¬ wy < 3 := by have := of_decide_eq_false h; omega
      rw [if_neg h] at hkin
      rw [hkin]
      refine E_Comp0 rfl rfl ?_
      repeat infer_instance
      refine C_range1 (by decide) ?_
      try dsimp only
      refine ⟨.rng 0 7 1, rngItems 0 7 1, fun r out S3 => ∃ (t : Nat) (rs : List Nat), r = natL ((List.range 7).drop t) ∧ t ≤ 7 ∧ out = rs.map .ref ∧ rs.length = t ∧ (∀ i, i < t → ∃ r, rs[i]? = some r ∧ S3.objs[r]? = some (.list (natL []))) ∧ (∀ (i : Nat) o, O5[i]? = some o → S3.objs[i]? = some o) ∧ S3.objs[O5.length]? = some (.rng 0 7 1), items_rng get_new rfl, .inl rfl, by decide, ⟨0, [], rng7, by decide, rfl, rfl, fun i hi => absurd hi (Nat.not_lt_zero i), fun i o h => get_app h, get_new⟩, ?_, ?_⟩
      · rintro v r out ⟨O6, L6, c6⟩ ⟨t, rs2, hr, ht, rfl, hl2, hrw, hk6, hit⟩
        dsimp only at hrw hk6 hit
        obtain ⟨ht7, rfl, rfl⟩ := natL_range_drop hr
        refine ⟨items_rng hit rfl, ?_⟩
        repeat infer_instance
        refine ⟨t + 1, rs2 ++ [O6.length], rfl, ht7, by rw [List.map_append]; rfl, by simp [hl2], fun i hi => ?_, fun i o h => get_app (hk6 i o h), get_app hit⟩
        by_cases hit : i < t
        · obtain ⟨r, h1, h2⟩ := hrw i hit
          exact ⟨r, by rw [List.getElem?_append_left (by exact llt [_, _, _] [.eq (.v 1) (.v 2), .lt (.v 0) (.v 2)] [-1, 1] (.v 0) (.v 1) (by exact yes) hl2 hit)]; exact h1, get_app h2⟩
        · obtain rfl : i = t := by exact leq [_, _] [.lt (.v 0) (.a (.v 1) (.n 1)), .le (.v 1) (.v 0)] [1, 0] [0, 1] (.v 0) (.v 1) (by exact yes) (by exact yes) hi (Nat.le_of_not_lt hit)
          exact ⟨O6.length, by rw [List.getElem?_append_right (by exact lle [_, _] [.eq (.v 0) (.v 1)] [1] (.v 0) (.v 1) (by exact yes) hl2), hl2, Nat.sub_self]; rfl, get_new⟩
      · rintro out ⟨O6, L6, c6⟩ ⟨t, rs2, hr, ht, rfl, hl2, hrw, hk6, hit⟩
        dsimp only at hrw hk6 hit
        have ht7 := natL_nil_drop hr
        obtain rfl : t = 7 := by exact leq [_] [.le (.v 0) (.n 7), .le (.n 7) (.v 0)] [1, 0] [0, 1] (.v 0) (.n 7) (by exact yes) (by exact yes) ht ht7
        refine ⟨items_rng hit rfl, O6.length, rfl, ⟨rs2, get_new, hl2, fun i hi => ?_⟩, fun i o h => get_app (hk6 i o h), rfl, rfl⟩
        obtain ⟨r, h1, h2⟩ := hrw i hi
        exact ⟨r, h1, get_app h2, by simp⟩
  rintro v ⟨O6, L6, c6⟩ ⟨jk, rfl, hjk, hk6, q2, q3⟩
  have q3 : c6 = celOf lawCells n0 := q3
  have q2 : L6 = L5 := q2
  subst q2 q3
  dsimp only at hjk hk6
  obtain ⟨o5, h5⟩ := hc 5 (by decide) (by decide) (by decide) (by decide)
  have h5 := hk6 _ _ (hk5 _ _ h5)
  refine A_cell rfl rfl h5 ?_
  try dsimp only
  have gc : ∀ (i : Nat) o, O3[i]? = some o → i ≠ n0 + 5 → (O6.set (n0 + 5) (.cell (some (.ref jk))))[i]? = some o := fun i o h hi => get_set (hk6 _ _ (hk5 _ _ h)) hi
  have gl : ∀ (i : Nat) vs, O6[i]? = some (.list vs) → (O6.set (n0 + 5) (.cell (some (.ref jk))))[i]? = some (.list vs) := fun i vs h => get_set h (by rintro rfl; rw [h5] at h; cases h)
  refine law_C P F (fun i hi => ?_) (gc _ _ e1 (by exact fun hz => lif [_] [.eq (.a (.v 0) (.n 1)) (.a (.v 0) (.n 5))] [-1] (by exact yes) hz)) (gc _ _ e2 (by exact fun hz => lif [_] [.eq (.a (.v 0) (.n 2)) (.a (.v 0) (.n 5))] [-1] (by exact yes) hz)) ?_ ?_ (gc _ _ e3 (by exact fun hz => lif [_] [.eq (.a (.v 0) (.n 3)) (.a (.v 0) (.n 5))] [-1] (by exact yes) hz)) (gl _ _ (hk6 _ _ (hk5 _ _ et))) (get_set_same h5) ?_ ?_ ln (gl _ _ (hk6 _ _ (by rw [← told_map, told_strs]; exact en))) hwy lw lf hf lg hQ
  · rcases hi with rfl | rfl | rfl
    · obtain ⟨o, h⟩ := hc 0 (by decide) (by decide) (by decide) (by decide)
      exact ⟨o, gc _ _ h (by exact fun hz => lif [_] [.eq (.v 0) (.a (.v 0) (.n 5))] [-1] (by exact yes) hz)⟩
    · obtain ⟨o, h⟩ := hc 4 (by decide) (by decide) (by decide) (by decide)
      exact ⟨o, gc _ _ h (by exact fun hz => lif [_] [.eq (.a (.v 0) (.n 4)) (.a (.v 0) (.n 5))] [-1] (by exact yes) hz)⟩
    · obtain ⟨o, h⟩ := hc 7 (by decide) (by decide) (by decide) (by decide)
      exact ⟨o, gc _ _ h (by exact fun hz => lif [_] [.eq (.a (.v 0) (.n 7)) (.a (.v 0) (.n 5))] [1] (by exact yes) hz)⟩
  · exact ⟨rs, gl _ _ (hk6 _ _ (hk5 _ _ hrs)), hrl, fun i hi => (by obtain ⟨r, h1, h2, h3⟩ := hrow i hi; exact ⟨r, h1, gl _ _ (hk6 _ _ (hk5 _ _ h2)), h3⟩)⟩
  · intro k hk x hx
    have := anc_lt (fig_le c0) k x hx
    exact llt [_, _] [.lt (.v 1) (.n 7), .lt (.v 0) (.v 1)] [1, 1] (.v 0) (.n 7) (by exact yes) hk this
  · obtain ⟨rs, h1, h2, h3⟩ := hjk
    exact ⟨rs, gl _ _ h1, h2, fun i hi => (by obtain ⟨r, h4, h5, h6⟩ := h3 i hi; exact ⟨r, h4, gl _ _ h5, h6⟩)⟩
  · obtain ⟨o, h⟩ := hc 6 (by decide) (by decide) (by decide) (by decide)
    exact ⟨o, gc _ _ h (by exact fun hz => lif [_] [.eq (.a (.v 0) (.n 6)) (.a (.v 0) (.n 5))] [1] (by exact yes) hz)⟩
/-- the grounds -/
noncomputable def tlL (wy : Nat) : List Nat := [localL, localL, [120, 46, 99, 111, 109], [121, 46, 55]].getD wy []
theorem four : ∀ wy, wy < 4 → wy = 0 ∨ wy = 1 ∨ wy = 2 ∨ wy = 3 := by decide
theorem tl_get {wy : Nat} (h : wy < 4) : ([.str localL, .str localL, .str [120, 46, 99, 111, 109], .str [121, 46, 55]] : List MV)[((wy : Nat) : Int).toNat]? = some (.str (tlL wy)) := by
  rcases four _ h with rfl | rfl | rfl | rfl <;> rfl
theorem grounds (O : List MO) (x : MO) (L : Str → Option MV) (C : Str → Option Nat) {wy : Nat} (h : wy < 4) : ∃ sk l e, itemsOf ⟨O ++ [.tup [.str localL, .none]] ++ [.list [.str localL, .none]] ++ [.tup [.str [120], .str [99, 111, 109]]] ++ [.list [.str [121], .str [55]]] ++ [x], L, C⟩ (.ref (O.length + wy)) = some (sk, [optStr l, optStr e]) ∧ (sk = .list ∨ sk = .tup) ∧ builtL l e = tlL wy := by
  rcases four _ h with rfl | rfl | rfl | rfl
  · exact ⟨.tup, some localL, none, items_tup (by simp; rfl), .inr rfl, rfl⟩
  · exact ⟨.list, some localL, none, items_list (by simp; rfl), .inl rfl, rfl⟩
  · exact ⟨.tup, some [120], some [99, 111, 109], items_tup (by simp; rfl), .inr rfl, rfl⟩
  · exact ⟨.list, some [121], some [55], items_list (by simp; rfl), .inl rfl, rfl⟩
theorem ref_get {wy n a b c d : Nat} (h : wy < 4) (ha : a = n) (hb : b = n + 1) (hc : c = n + 2) (hd : d = n + 3) : ([.ref a, .ref b, .ref c, .ref d] : List MV)[((wy : Nat) : Int).toNat]? = some (.ref (n + wy)) := by
  subst ha hb hc hd
  rcases four _ h with rfl | rfl | rfl | rfl <;> rfl
variable (P : PP)
theorem law_A2 (hLF : ∀ (c0 : Int) (wy : Nat), wy < 4 → ∃ kinF par w PL, LF (nm (fig c0) (tlL wy)) (anc (fig c0)) kinF (tlL wy) wy par w PL) {n n0 jc : Nat} {c0 c1 : Int} {O : List MO} {L : Str → Option MV}
    (hc : ∀ i, i < 8 → ∃ o, O[n0 + i]? = some (.cell o)) (lc : L "cells" = some (.ref jc)) (ejc : O[jc]? = some (.list [.int c0, .int c1])) {Q : MFlow → MS → Prop} (hQ : ∀ S', Q (.ret (.bool true)) S') :
    WB (TK P) (n + 400) ⟨scK P 249, 249⟩ ((bodyK P 249).drop 2) ⟨O, L, celOf lawCells n0⟩ Q := by
  have hst : stopLen = 4096 := rfl
  refine W_cons (X_Swap rfl rfl rfl ?_)
  repeat infer_instance
  refine G_list (by decide) (by array_get_dec) (v := .int c1) rfl ?_
  refine E_Const (Q_int (B_mod (by decide) ?_))
  repeat infer_instance
  refine G_list (by decide) (by array_get_dec) (v := .int c1) rfl ?_
  refine E_Const (Q_int (B_div (by decide) ?_))
  refine E_Const (Q_int (B_mod (by decide) ?_))
  obtain ⟨wy, hwy, hwy4⟩ : ∃ wy : Nat, c1.fmod 4 = (wy : Nat) ∧ wy < 4 := by
    rw [Int.fmod_eq_emod_of_nonneg _ (by decide)]
    have h0 := Int.emod_nonneg c1 (show (4 : Int) ≠ 0 by decide)
    exact ⟨(c1 % 4).toNat, (Int.toNat_of_nonneg h0).symm, (Int.toNat_lt h0).mpr (Int.emod_lt_of_pos c1 (by decide))⟩
  obtain ⟨first, hfirst, hf⟩ : ∃ first : Int, (c1.fdiv 4).fmod 3 = first ∧ 0 ≤ first ∧ first ≤ 2 := by
    rw [Int.fmod_eq_emod_of_nonneg _ (by decide)]
    exact ⟨_, rfl, Int.emod_nonneg _ (by decide), Int.le_of_lt_add_one (Int.emod_lt_of_pos _ (by decide))⟩
  rw [hwy, hfirst]
  obtain ⟨kinF, par, w, PL, F⟩ := hLF c0 wy hwy4
  obtain ⟨o1, h1⟩ := hc 1 (by decide)
  try dsimp only
  refine WB_gen (fun O' L' => (∀ i, i < 8 → ∃ o, O'[n0 + i]? = some (.cell o)) ∧ O'[jc]? = some (.list [.int c0, .int c1]) ∧ L' "cells" = some (.ref jc) ∧ L' "way" = some (.int (wy : Nat)) ∧ L' "first" = some (.int first)) ⟨fun i hi => (by obtain ⟨o, h⟩ := hc i hi; exact ⟨o, get_app h⟩), get_app ejc, lc, rfl, rfl⟩ ?_
  clear h1 o1 hc ejc lc
  rintro O2 L2 ⟨hc, ejc, lc, lw, lf⟩
  obtain ⟨o1, h1⟩ := hc 1 (by decide)
  repeat infer_instance
  refine G_list (by exact ix (lle [_] [.lt (.v 0) (.n 4)] [1] (.v 0) (.n 4096) (by exact yes) hwy4)) get_new (v := .str (tlL wy)) (tl_get hwy4) ?_
  refine A_cell rfl rfl (get_app h1) ?_
  try dsimp only
  refine WB_gen (fun O' L' => (∀ i, i < 8 → i ≠ 1 → ∃ o, O'[n0 + i]? = some (.cell o)) ∧ O'[n0 + 1]? = some (.cell (some (.str (tlL wy)))) ∧ O'[jc]? = some (.list [.int c0, .int c1]) ∧ L' = L2) ⟨fun i hi h1 => (by obtain ⟨o, h⟩ := hc i hi; exact ⟨o, get_set (get_app h) (by exact fun hz => lif [_, _] [.eq (.a (.v 0) (.v 1)) (.a (.v 0) (.n 1)), .lt (.v 1) (.n 1)] [-1, 1] (by exact yes) hz (Nat.lt_of_le_of_ne (lle [_, _] [.eq (.a (.v 1) (.v 0)) (.a (.v 1) (.n 1))] [1] (.v 0) (.n 1) (by exact yes) hz) h1))⟩), get_set_same (get_app h1), get_set (get_app ejc) (by rintro rfl; rw [ejc] at h1; cases h1), rfl⟩ ?_
  clear h1 o1 hc ejc
  rintro O3 L3 ⟨hc, h1, ejc, rfl⟩
  repeat infer_instance
  try dsimp only
  refine G_list (by exact ix (lle [_] [.lt (.v 0) (.n 4)] [1] (.v 0) (.n 4096) (by exact yes) hwy4)) get_new (v := .ref (O3.length + wy)) (ref_get hwy4 rfl (by simp) (by simp) (by simp)) ?_
  obtain ⟨sk, lo, eo, hit, hsk, hbl⟩ := grounds O3 (.list [.ref O3.length, .ref (O3 ++ [MO.tup [MV.str localL, MV.none]]).length, .ref (O3 ++ [MO.tup [MV.str localL, MV.none]] ++ [MO.list [MV.str localL, MV.none]]).length,
    .ref (O3 ++ [MO.tup [MV.str localL, MV.none]] ++ [MO.list [MV.str localL, MV.none]] ++ [MO.tup [MV.str [120], MV.str [99, 111, 109]]]).length]) L3 (celOf lawCells n0) hwy4
  have hg := F.gr.2
  refine WL_nil (WK_nil (built_W P (l := lo) (e := eo) (sk := sk) hit hsk (by rw [hbl]; exact lle [_, _] [.eq (.v 1) (.n 4096), .le (.v 0) (.n 20)] [-1, 1] (.v 0) (.v 1) (by exact yes) hst hg) ?_))
  rw [hbl]
  refine A_local rfl ?_
  refine law_B P F (fun i h1 h2 => (by obtain ⟨o, h⟩ := hc i h1 h2; exact ⟨o, get_app (get_app (get_app (get_app (get_app h))))⟩)) (get_app (get_app (get_app (get_app (get_app h1))))) ?_ (get_app (get_app (get_app (get_app (get_app ejc))))) hwy4 ?_ ?_ hf ?_ hQ (c1 := c1)
  · exact lc
  · exact lw
  · exact lf
  · rfl
theorem law_body (hLF : ∀ (c0 : Int) (wy : Nat), wy < 4 → ∃ kinF par w PL, LF (nm (fig c0) (tlL wy)) (anc (fig c0)) kinF (tlL wy) wy par w PL) {S : MS} {js k : Nat} {l : List Int} (e : S.objs[js]? = some (.ro (l.map .int))) (hl : l.length ≤ 63) {Q : MFlow → MS → Prop} (hQ : ∀ S', Q (.ret (.bool true)) S') :
    WB (TK P) (k + 400) ⟨scK P 249, 249⟩ (bodyK P 249) { objs := S.objs ++ [.cell none, .cell none, .cell none, .cell none, .cell none, .cell none, .cell none, .cell none], loc := upd emptyLoc "script" (.ref js), cel := celOf lawCells S.objs.length } Q := by
  have hst : stopLen = 4096 := rfl
  obtain ⟨n0, hn0⟩ : ∃ x, x = S.objs.length := ⟨_, rfl⟩
  rw [← hn0]
  have hc : ∀ i, i < 8 → ∃ o, (S.objs ++ [MO.cell none, .cell none, .cell none, .cell none, .cell none, .cell none, .cell none, .cell none])[n0 + i]? = some (.cell o) := by
    intro i hi
    rw [List.getElem?_append_right (by exact lle [_, _, _] [.eq (.v 1) (.v 0)] [-1] (.v 0) (.a (.v 1) (.v 2)) (by exact yes) hn0), hn0, Nat.add_sub_cancel_left]
    exact ⟨none, List.getElem?_replicate_of_lt (a := MO.cell none) hi⟩
  have ejs : (S.objs ++ [MO.cell none, .cell none, .cell none, .cell none, .cell none, .cell none, .cell none, .cell none])[js]? = some (.ro (l.map .int)) := get_app e
  refine WB_gen (fun O' L' => (∀ i, i < 8 → ∃ o, O'[n0 + i]? = some (.cell o)) ∧ O'[js]? = some (.ro (l.map .int)) ∧ L' "script" = some (.ref js)) ⟨hc, ejs, rfl⟩ ?_
  clear hc ejs hn0 e
  rintro O L ⟨hc, ejs, ls⟩
  refine W_cons (X_Assign rfl ?_)
  repeat infer_instance
  refine X_For rfl rfl ?_
  repeat infer_instance
  refine C_len (L_ro (get_app ejs) (by rw [List.length_map]; exact lle [_, _] [.le (.v 0) (.n 63), .eq (.v 1) (.n 4096)] [1, -1] (.v 0) (.v 1) (by exact yes) hl hst) ?_)
  rw [List.length_map]
  repeat infer_instance
  refine C_range1 (by exact ⟨Int.le_trans (by decide) (Int.natCast_nonneg _), Int.ofNat_le (n := 1000) |>.mpr (lle [_] [.le (.v 0) (.n 63)] [1] (.v 0) (.n 1000) (by exact yes) hl)⟩) ?_
  try dsimp only
  have hrok : rngOk 0 (l.length : Int) 1 = true := by
    unfold rngOk
    exact decide_eq_true ⟨.inl rfl, by decide, by decide, by exact Int.le_trans (by decide) (Int.natCast_nonneg _), by exact Int.ofNat_le (n := 2000) |>.mpr (lle [_] [.le (.v 0) (.n 63)] [1] (.v 0) (.n 2000) (by exact yes) hl)⟩
  rw [show (O ++ [MO.list [MV.int 4221, MV.int 4]]).length = O.length + 1 by simp]
  have hn8 : n0 + 7 < O.length := by obtain ⟨o, h⟩ := hc 7 (by decide); exact get_lt h
  refine ⟨.rng 0 (l.length : Int) 1, rngItems 0 (l.length : Int) 1, fun r S' => ∃ (t : Nat) (c0 c1 : Int), r = natL ((List.range l.length).drop t) ∧ (∀ i, i < 8 → ∃ o, S'.objs[n0 + i]? = some (.cell o)) ∧ S'.objs[js]? = some (.ro (l.map .int)) ∧ S'.objs[O.length]? = some (.list [.int c0, .int c1]) ∧ S'.objs[O.length + 1]? = some (.rng 0 (l.length : Int) 1) ∧ S'.loc "script" = some (.ref js) ∧ S'.loc "cells" = some (.ref O.length) ∧ S'.cel = celOf lawCells n0, items_rng (get_newAt (by simp)) hrok, ⟨0, 4221, 4, rng_natL _, fun i hi => (by obtain ⟨o, h⟩ := hc i hi; exact ⟨o, get_app (get_app h)⟩), get_app (get_app ejs), get_app get_new, get_newAt (by simp), ls, rfl, rfl⟩, ?_, ?_⟩
  · rintro v r ⟨O2, L2, c2⟩ ⟨t, c0, c1, hr, hc2, ejs2, ejc, hit, l1, l2, q3⟩
    have q3 : c2 = celOf lawCells n0 := q3
    subst q3
    dsimp only at hc2 ejs2 ejc hit l1 l2
    obtain ⟨ht, rfl, rfl⟩ := natL_range_drop hr
    refine ⟨items_rng hit hrok, ?_⟩
    obtain ⟨o, h0⟩ := hc2 0 (by decide)
    refine A_cell rfl rfl h0 ?_
    have hjs : js ≠ n0 := by rintro rfl; rw [Nat.add_zero, ejs2] at h0; cases h0
    try dsimp only
    refine WB_gen (fun O' L' => (∀ i, i < 8 → ∃ o, O'[n0 + i]? = some (.cell o)) ∧ O'[js]? = some (.ro (l.map .int)) ∧ O'[O.length]? = some (.list [.int c0, .int c1]) ∧ O'[O.length + 1]? = some (.rng 0 (l.length : Int) 1) ∧ O'[n0]? = some (.cell (some (.int (t : Nat)))) ∧ L' "script" = some (.ref js) ∧ L' "cells" = some (.ref O.length)) ⟨fun i hi => ?_, get_set ejs2 hjs, get_set ejc (by exact fun hz => lif [_, _] [.eq (.v 0) (.v 1), .lt (.a (.v 1) (.n 7)) (.v 0)] [1, 1] (by exact yes) hz hn8), get_set hit (by exact fun hz => lif [_, _] [.eq (.a (.v 0) (.n 1)) (.v 1), .lt (.a (.v 1) (.n 7)) (.v 0)] [1, 1] (by exact yes) hz hn8), get_set_same h0, l1, l2⟩ ?_
    · obtain ⟨o', h⟩ := hc2 i hi
      by_cases hi0 : i = 0
      · subst hi0; exact ⟨_, get_set_same h⟩
      · exact ⟨o', get_set h (by exact fun hz => lif [_, _] [.eq (.a (.v 0) (.v 1)) (.v 0), .lt (.n 0) (.v 1)] [1, 1] (by exact yes) hz (Nat.pos_of_ne_zero hi0))⟩
    clear hc2 ejs2 ejc hit l1 l2 h0 o
    rintro O3 L3 ⟨hc2, ejs2, ejc, hit, h0, l1, l2⟩
    refine W_cons (X_AugSub rfl ?_)
    repeat infer_instance
    refine B_mod (by decide) ?_
    rw [show ((t : Nat) : Int).fmod 2 = ((t % 2 : Nat) : Int) by rw [Int.fmod_eq_emod_of_nonneg _ (by decide)]; rfl]
    obtain ⟨x, hx⟩ : ∃ x, (l.map MV.int)[t]? = some (.int x) := ⟨_, by rw [List.getElem?_map, List.getElem?_eq_getElem ht]; rfl⟩
    rcases Nat.mod_two_eq_zero_or_one t with h2 | h2
    · rw [h2]
      refine G_list (by decide) (by array_get_dec) (v := .int c0) rfl ?_
      repeat infer_instance
      refine G_ro (by exact ix (lle [_, _] [.le (.v 1) (.n 63), .lt (.v 0) (.v 1)] [1, 1] (.v 0) (.n 4096) (by exact yes) hl ht)) (by array_get_dec) (v := .int x) (by rw [Int.toNat_natCast]; exact hx) ?_
      refine ⟨_, _, rfl, rfl, I_add ?_⟩
      refine I_list ejc ⟨by decide, by decide, show (0 : Nat) < 2 by decide⟩ ?_
      repeat infer_instance
      refine ⟨t + 1, c0 + x, c1, rfl, fun i hi => (by obtain ⟨o, h⟩ := hc2 i hi; exact ⟨o, get_set h (by exact fun hz => lif [_, _, _] [.eq (.a (.v 0) (.v 1)) (.v 2), .lt (.a (.v 0) (.n 7)) (.v 2), .lt (.v 1) (.n 8)] [-1, 1, 1] (by exact yes) hz hn8 hi)⟩), get_set ejs2 (by rintro rfl; rw [ejs2] at ejc; cases ejc), get_set_same ejc, get_set hit (by exact fun hz => lif [_] [.eq (.a (.v 0) (.n 1)) (.v 0)] [1] (by exact yes) hz), l1, l2, rfl⟩
    · rw [h2]
      refine G_list (by decide) (by array_get_dec) (v := .int c1) rfl ?_
      repeat infer_instance
      refine G_ro (by exact ix (lle [_, _] [.le (.v 1) (.n 63), .lt (.v 0) (.v 1)] [1, 1] (.v 0) (.n 4096) (by exact yes) hl ht)) (by array_get_dec) (v := .int x) (by rw [Int.toNat_natCast]; exact hx) ?_
      refine ⟨_, _, rfl, rfl, I_add ?_⟩
      refine I_list ejc ⟨by decide, by decide, show (1 : Nat) < 2 by decide⟩ ?_
      repeat infer_instance
      refine ⟨t + 1, c0, c1 + x, rfl, fun i hi => (by obtain ⟨o, h⟩ := hc2 i hi; exact ⟨o, get_set h (by exact fun hz => lif [_, _, _] [.eq (.a (.v 0) (.v 1)) (.v 2), .lt (.a (.v 0) (.n 7)) (.v 2), .lt (.v 1) (.n 8)] [-1, 1, 1] (by exact yes) hz hn8 hi)⟩), get_set ejs2 (by rintro rfl; rw [ejs2] at ejc; cases ejc), get_set_same ejc, get_set hit (by exact fun hz => lif [_] [.eq (.a (.v 0) (.n 1)) (.v 0)] [1] (by exact yes) hz), l1, l2, rfl⟩
  · rintro ⟨O2, L2, c2⟩ ⟨t, c0, c1, hr, hc2, ejs2, ejc, hit, l1, l2, q3⟩
    have q3 : c2 = celOf lawCells n0 := q3
    subst q3
    dsimp only at hc2 ejs2 ejc hit l1 l2
    refine ⟨items_rng hit hrok, ?_⟩
    exact law_A2 P hLF hc2 l2 ejc (fun S' => hQ _)
end Mine
end
section
namespace Mine
/-- hosts 0 .. 6, each below another one of a lesser number or below nobody: those above, the nearest first -/
structure Fst (par : Nat → Option Nat) (kin : Nat → List Nat) : Prop where
  eq : ∀ c, kin c = match par c with | none => [] | some p => p :: kin p
  dn : ∀ c p, par c = some p → p < c
noncomputable abbrev Pd := Nat → Bool
noncomputable def Ok (p : Pd) : Prop := ∀ k, 7 ≤ k → p k = false
/-- the nearest one above that is left -/
noncomputable def hdP (kin : Nat → List Nat) (p : Pd) (c : Nat) : Option Nat := (kin c).find? p
/-- the blacks -/
noncomputable def Bl (kin : Nat → List Nat) (p b : Pd) : Prop := ∀ k, b k = true ↔ (p k = true ∧ ∃ c, p c = true ∧ b c = false ∧ hdP kin p c = some k)
noncomputable def isUp (kin : Nat → List Nat) (j k : Nat) : Bool := k == j || (kin j).contains k
/-- a move: a host and all that is above it goes -/
noncomputable def del (kin : Nat → List Nat) (p : Pd) (j : Nat) : Pd := fun k => p k && !isUp kin j k
/-- the white ones below nobody -/
noncomputable def rootB (kin : Nat → List Nat) (p b : Pd) (c : Nat) : Bool := p c && (!b c && (hdP kin p c).isNone)
noncomputable def cnt (f : Nat → Bool) : Nat := (List.range 7).countP f
noncomputable def rootN (kin : Nat → List Nat) (p b : Pd) : Nat := cnt (rootB kin p b)
inductive Val (kin : Nat → List Nat) : Pd → Nat → Prop
  | nil {p : Pd} : (∀ k, p k = false) → Val kin p 0
  | step {p b : Pd} {v : Nat} : Bl kin p b → (∃ k, p k = true) → Val kin b v → Val kin p (rootN kin p b % 2 + 2 * v)
section
variable {par : Nat → Option Nat} {kin : Nat → List Nat}
theorem mem_up {j k : Nat} : isUp kin j k = true ↔ k = j ∨ k ∈ kin j := by
  unfold isUp
  rw [Bool.or_eq_true, beq_iff_eq, List.contains_iff_mem]
theorem del_true {p : Pd} {j k : Nat} : del kin p j k = true ↔ p k = true ∧ ¬ (k = j ∨ k ∈ kin j) := by
  unfold del
  rw [Bool.and_eq_true, Bool.not_eq_true', ← Bool.not_eq_true, mem_up]
theorem del_le {p : Pd} {j k : Nat} (h : del kin p j k = true) : p k = true := (del_true.mp h).1
theorem bfalse {b : Bool} : b = false ↔ ¬ b = true := by cases b <;> simp
theorem Fst.kin0 (F : Fst par kin) {c : Nat} (h : par c = none) : kin c = [] := by rw [F.eq c, h]
theorem Fst.kin1 (F : Fst par kin) {c p : Nat} (h : par c = some p) : kin c = p :: kin p := by rw [F.eq c, h]
theorem Fst.lt (F : Fst par kin) (c : Nat) : ∀ i, i ∈ kin c → i < c := by
  induction c using Nat.strongRecOn with
  | ind c ih =>
    intro i hi
    cases hp : par c with
    | none => rw [F.kin0 hp] at hi; cases hi
    | some p =>
      rw [F.kin1 hp] at hi
      have := F.dn c p hp
      rcases List.mem_cons.mp hi with rfl | h
      · exact this
      · have := ih p this i h; exact llt [_, _, _] [.lt (.v 2) (.v 1), .lt (.v 0) (.v 2)] [1, 1] (.v 0) (.v 1) (by exact yes) (‹p < c›) this
theorem Fst.trans (F : Fst par kin) (c : Nat) : ∀ i k, i ∈ kin c → k ∈ kin i → k ∈ kin c := by
  induction c using Nat.strongRecOn with
  | ind c ih =>
    intro i k hi hk
    cases hp : par c with
    | none => rw [F.kin0 hp] at hi; cases hi
    | some p =>
      rw [F.kin1 hp] at hi ⊢
      rcases List.mem_cons.mp hi with rfl | h
      · exact List.mem_cons_of_mem _ hk
      · exact List.mem_cons_of_mem _ (ih p (F.dn c p hp) i k h hk)
theorem Fst.up_trans (F : Fst par kin) {j c k : Nat} (h1 : c = j ∨ c ∈ kin j) (h2 : k = c ∨ k ∈ kin c) : k = j ∨ k ∈ kin j := by
  rcases h1 with rfl | h1
  · exact h2
  · rcases h2 with rfl | h2
    · exact .inr h1
    · exact .inr (F.trans j c k h1 h2)
theorem Fst.line (F : Fst par kin) (c : Nat) : ∀ x k, x ∈ kin c → k ∈ kin c → x = k ∨ x ∈ kin k ∨ k ∈ kin x := by
  induction c using Nat.strongRecOn with
  | ind c ih =>
    intro x k hx hk
    cases hp : par c with
    | none => rw [F.kin0 hp] at hx; cases hx
    | some p =>
      rw [F.kin1 hp] at hx hk
      rcases List.mem_cons.mp hx with rfl | hx
      · rcases List.mem_cons.mp hk with rfl | hk
        · exact .inl rfl
        · exact .inr (.inr hk)
      · rcases List.mem_cons.mp hk with rfl | hk
        · exact .inr (.inl hx)
        · exact ih p (F.dn c p hp) x k hx hk
theorem hd_mem {p : Pd} {c k : Nat} (h : hdP kin p c = some k) : k ∈ kin c ∧ p k = true := ⟨List.mem_of_find?_eq_some h, List.find?_some h⟩
theorem hd_none {p : Pd} {c : Nat} (h : hdP kin p c = none) : ∀ x ∈ kin c, p x = false := fun x hx => by
  have := List.find?_eq_none.mp h x hx
  exact bfalse.mpr this
theorem hd_none_iff {p : Pd} {c : Nat} : hdP kin p c = none ↔ ∀ x ∈ kin c, p x = false := ⟨hd_none, fun h => List.find?_eq_none.mpr fun x hx => by rw [h x hx]; decide⟩
/-- the nearest one that is left: what stands between is gone -/
theorem Fst.hd_split (F : Fst par kin) {p : Pd} (c : Nat) : ∀ k, hdP kin p c = some k ↔ (k ∈ kin c ∧ p k = true ∧ ∀ x ∈ kin c, x = k ∨ x ∈ kin k ∨ p x = false) := by
  induction c using Nat.strongRecOn with
  | ind c ih =>
    intro k
    unfold hdP
    cases hp : par c with
    | none => rw [F.kin0 hp]; simp
    | some q =>
      rw [F.kin1 hp]
      have hq := F.dn c q hp
      have ih := ih q hq k
      unfold hdP at ih
      by_cases hpq : p q = true
      · rw [List.find?_cons_of_pos hpq]
        constructor
        · intro h
          cases h
          refine ⟨List.mem_cons_self .., hpq, fun x hx => ?_⟩
          rcases List.mem_cons.mp hx with rfl | h
          · exact .inl rfl
          · exact .inr (.inl h)
        · rintro ⟨h1, h2, h3⟩
          rcases List.mem_cons.mp h1 with rfl | h1
          · rfl
          · exfalso
            have hkq := F.lt q k h1
            rcases h3 q (List.mem_cons_self ..) with h | h | h
            · exact lif [_, _] [.lt (.v 0) (.v 1), .eq (.v 1) (.v 0)] [1, 1] (by exact yes) hkq h
            · have := F.lt k q h; exact lif [_, _] [.lt (.v 0) (.v 1), .lt (.v 1) (.v 0)] [1, 1] (by exact yes) hkq this
            · rw [hpq] at h; cases h
      · rw [List.find?_cons_of_neg hpq, ih]
        constructor
        · rintro ⟨h1, h2, h3⟩
          refine ⟨List.mem_cons_of_mem _ h1, h2, fun x hx => ?_⟩
          rcases List.mem_cons.mp hx with rfl | h
          · exact .inr (.inr (bfalse.mpr hpq))
          · exact h3 x h
        · rintro ⟨h1, h2, h3⟩
          rcases List.mem_cons.mp h1 with rfl | h1
          · exact absurd h2 hpq
          · exact ⟨h1, h2, fun x hx => h3 x (List.mem_cons_of_mem _ hx)⟩
/-- the colours stay with what stays -/
theorem Bl.del (F : Fst par kin) {p b : Pd} (B : Bl kin p b) (j : Nat) : Bl kin (del kin p j) (del kin b j) := by
  intro k
  constructor
  · intro h
    obtain ⟨hb, hu⟩ := del_true.mp h
    obtain ⟨hp, c, hc, hcb, hh⟩ := (B k).mp hb
    obtain ⟨h1, h2, h3⟩ := (F.hd_split c k).mp hh
    have hcu : ¬ (c = j ∨ c ∈ kin j) := fun hx => hu (F.up_trans hx (.inr h1))
    refine ⟨del_true.mpr ⟨hp, hu⟩, c, del_true.mpr ⟨hc, hcu⟩, ?_, (F.hd_split c k).mpr ⟨h1, del_true.mpr ⟨h2, hu⟩, fun x hx => ?_⟩⟩
    · rw [bfalse]; exact fun hx => by rw [del_le hx] at hcb; cases hcb
    · rcases h3 x hx with h | h | h
      · exact .inl h
      · exact .inr (.inl h)
      · refine .inr (.inr ?_)
        rw [bfalse]; exact fun hx => by rw [del_le hx] at h; cases h
  · rintro ⟨hp, c, hc, hcb, hh⟩
    obtain ⟨hp, hu⟩ := del_true.mp hp
    obtain ⟨hc, hcu⟩ := del_true.mp hc
    obtain ⟨h1, h2, h3⟩ := (F.hd_split c k).mp hh
    refine del_true.mpr ⟨(B k).mpr ⟨hp, c, hc, ?_, (F.hd_split c k).mpr ⟨h1, hp, fun x hx => ?_⟩⟩, hu⟩
    · rw [bfalse] at hcb ⊢
      exact fun hx => hcb (del_true.mpr ⟨hx, hcu⟩)
    · rcases h3 x hx with h | h | h
      · exact .inl h
      · exact .inr (.inl h)
      · by_cases hpx : p x = true
        · -- x is gone with j: then so is k, or k is below x
          have hxu : x = j ∨ x ∈ kin j := by
            apply Classical.byContradiction
            intro hn
            rw [bfalse] at h
            exact h (del_true.mpr ⟨hpx, hn⟩)
          rcases F.line c x k hx h1 with e | e | e
          · exact .inl e
          · exact .inr (.inl e)
          · exact absurd (F.up_trans hxu (.inr e)) hu
        · exact .inr (.inr (bfalse.mpr hpx))
end
end Mine
end
section
namespace Mine
section
variable {par : Nat → Option Nat} {kin : Nat → List Nat}
theorem Bl.le {p b : Pd} (B : Bl kin p b) {k : Nat} (h : b k = true) : p k = true := ((B k).mp h).1
theorem Bl.ok {p b : Pd} (B : Bl kin p b) (h : Ok p) : Ok b := fun k hk => by
  rw [bfalse]; exact fun hx => by have := B.le hx; rw [h k hk] at this; cases this
theorem Bl.uniq (F : Fst par kin) {p b b' : Pd} (B : Bl kin p b) (B' : Bl kin p b') (h : Ok p) : b = b' := by
  have key : ∀ m k, 7 ≤ k + m → b k = b' k := by
    intro m
    induction m with
    | zero => intro k hk; rw [B.ok h k (by exact lle [_] [.le (.n 7) (.a (.v 0) (.n 0))] [1] (.n 7) (.v 0) (by exact yes) hk), B'.ok h k (by exact lle [_] [.le (.n 7) (.a (.v 0) (.n 0))] [1] (.n 7) (.v 0) (by exact yes) hk)]
    | succ m ih =>
      intro k hk
      rw [Bool.eq_iff_iff, B k, B' k]
      constructor
      · rintro ⟨h1, c, h2, h3, h4⟩
        have := F.lt c k (hd_mem h4).1
        exact ⟨h1, c, h2, by rw [← ih c (by exact lle [_, _, _] [.le (.n 7) (.a (.v 2) (.a (.v 1) (.n 1))), .lt (.v 2) (.v 0)] [1, 1] (.n 7) (.a (.v 0) (.v 1)) (by exact yes) hk this)]; exact h3, h4⟩
      · rintro ⟨h1, c, h2, h3, h4⟩
        have := F.lt c k (hd_mem h4).1
        exact ⟨h1, c, h2, by rw [ih c (by exact lle [_, _, _] [.le (.n 7) (.a (.v 2) (.a (.v 1) (.n 1))), .lt (.v 2) (.v 0)] [1, 1] (.n 7) (.a (.v 0) (.v 1)) (by exact yes) hk this)]; exact h3, h4⟩
  funext k
  exact key 7 k (by exact lle [_] [] [] (.n 7) (.a (.v 0) (.n 7)) (by exact yes))
/-- where a move meets the blacks -/
theorem Fst.meets (F : Fst par kin) (b : Pd) (j : Nat) : (∀ x, (x = j ∨ x ∈ kin j) → b x = false) ∨ ∃ j', b j' = true ∧ (j' = j ∨ j' ∈ kin j) ∧ del kin b j = del kin b j' := by
  have fin : ∀ j', (j' = j ∨ j' ∈ kin j) → (∀ x, (x = j ∨ x ∈ kin j) → b x = true → (x = j' ∨ x ∈ kin j')) → del kin b j = del kin b j' := by
    intro j' h1 h2
    funext k
    rw [Bool.eq_iff_iff, del_true, del_true]
    constructor
    · rintro ⟨h3, h4⟩; exact ⟨h3, fun h5 => h4 (F.up_trans h1 h5)⟩
    · rintro ⟨h3, h4⟩; exact ⟨h3, fun h5 => h4 (h2 k h5 h3)⟩
  by_cases hj : b j = true
  · exact .inr ⟨j, hj, .inl rfl, rfl⟩
  · cases hh : hdP kin b j with
    | none =>
      left
      rintro x (rfl | hx)
      · exact bfalse.mpr hj
      · exact hd_none hh x hx
    | some k =>
      obtain ⟨h1, h2, h3⟩ := (F.hd_split j k).mp hh
      refine .inr ⟨k, h2, .inr h1, fin k (.inr h1) fun x hx hb => ?_⟩
      rcases hx with rfl | hx
      · exact absurd hb hj
      · rcases h3 x hx with h | h | h
        · exact .inl h
        · exact .inr h
        · rw [hb] at h; cases h
theorem del_none {b : Pd} {j : Nat} (h : ∀ x, (x = j ∨ x ∈ kin j) → b x = false) : del kin b j = b := by
  funext k
  rw [Bool.eq_iff_iff, del_true]
  exact ⟨fun h1 => h1.1, fun h1 => ⟨h1, fun h2 => by rw [h k h2] at h1; cases h1⟩⟩
theorem cnt_del {f : Nat → Bool} {c : Nat} (hc : c < 7) (h : f c = true) : cnt (fun x => f x && x != c) + 1 = cnt f := by
  have hm : c ∈ List.range 7 := List.mem_range.mpr hc
  show (List.range 7).countP (fun x => f x && x != c) + 1 = (List.range 7).countP f
  rw [← List.countP_filter, ← List.Nodup.erase_eq_filter List.nodup_range]
  exact ((List.perm_cons_erase hm).countP_eq f |>.trans (List.countP_cons_of_pos h)).symm
theorem cnt_le {f g : Nat → Bool} (h : ∀ x, f x = true → g x = true) : cnt f ≤ cnt g := List.countP_mono_left fun x _ => h x
theorem cnt_lt {f g : Nat → Bool} (h : ∀ x, f x = true → g x = true) {c : Nat} (hc : c < 7) (hg : g c = true) (hf : f c = false) : cnt f < cnt g := by
  have h1 := cnt_del hc hg
  have h2 : cnt f ≤ cnt (fun x => g x && x != c) := cnt_le fun x hx => by
    rw [h x hx, Bool.true_and, bne_iff_ne]
    rintro rfl
    rw [hf] at hx; cases hx
  exact llt [_, _, _] [.eq (.a (.v 2) (.n 1)) (.v 1), .le (.v 0) (.v 2)] [1, 1] (.v 0) (.v 1) (by exact yes) h1 h2
/-- a white one below nobody goes: the count is one less -/
theorem root_del (F : Fst par kin) {p b : Pd} (B : Bl kin p b) (hok : Ok p) {c : Nat} (hp : p c = true) (hb : b c = false) (hh : hdP kin p c = none) : rootN kin (del kin p c) (del kin b c) + 1 = rootN kin p b := by
  have hc : c < 7 := by
    apply Classical.byContradiction
    intro hx
    rw [hok c (by exact lle [_] [.le (.n 7) (.v 0)] [1] (.n 7) (.v 0) (by exact yes) (Nat.le_of_not_lt hx))] at hp; cases hp
  have hn := hd_none hh
  have only : ∀ y, (y = c ∨ y ∈ kin c) → p y = true → y = c := fun y hy hpy => hy.resolve_right fun hx => by rw [hn y hx] at hpy; cases hpy
  have e : rootB kin (del kin p c) (del kin b c) = fun x => rootB kin p b x && x != c := by
    funext x
    rw [Bool.eq_iff_iff]
    unfold rootB
    simp only [Bool.and_eq_true, Bool.not_eq_true', Option.isNone_iff_eq_none, bne_iff_ne, hd_none_iff]
    constructor
    · rintro ⟨h1, h2, h3⟩
      obtain ⟨g1, h4⟩ := del_true.mp h1
      have hbx : b x = false := by
        rw [bfalse] at h2 ⊢
        exact fun hx => h2 (del_true.mpr ⟨hx, h4⟩)
      refine ⟨⟨g1, hbx, fun y hy => ?_⟩, fun hx => h4 (.inl hx)⟩
      rw [bfalse]
      intro hpy
      have hyc : y = c := by
        apply only y ?_ hpy
        apply Classical.byContradiction
        intro hx
        have := h3 y hy
        rw [bfalse] at this
        exact this (del_true.mpr ⟨hpy, hx⟩)
      subst hyc
      have : b y = true := (B y).mpr ⟨hpy, x, g1, hbx, (F.hd_split x y).mpr ⟨hy, hpy, fun z hz => by
        by_cases hpz : p z = true
        · left
          apply only z ?_ hpz
          apply Classical.byContradiction
          intro hx
          have := h3 z hz
          rw [bfalse] at this
          exact this (del_true.mpr ⟨hpz, hx⟩)
        · exact .inr (.inr (bfalse.mpr hpz))⟩⟩
      rw [hb] at this; cases this
    · rintro ⟨⟨h1, h2, h3⟩, h4⟩
      have hx : ¬ (x = c ∨ x ∈ kin c) := fun h => h4 (only x h h1)
      refine ⟨del_true.mpr ⟨h1, hx⟩, ?_, fun y hy => ?_⟩
      · rw [bfalse] at h2 ⊢; exact fun h => h2 (del_le h)
      · have := h3 y hy
        rw [bfalse] at this ⊢; exact fun h => this (del_le h)
  unfold rootN
  rw [e]
  refine cnt_del hc ?_
  unfold rootB
  rw [hp, hb, hh]; rfl
theorem cnt_zero {f : Nat → Bool} (h : ∀ x, f x = false) : cnt f = 0 := by
  unfold cnt
  rw [List.countP_eq_zero]
  intro x _; rw [h x]; decide
theorem Val.zero {p : Pd} {v : Nat} (h : Val kin p v) (e : ∀ k, p k = false) : v = 0 := by
  cases h with
  | nil _ => rfl
  | step _ hx _ => obtain ⟨k, hk⟩ := hx; rw [e k] at hk; cases hk
theorem Bl.nil {p : Pd} (e : ∀ k, p k = false) : Bl kin p p := fun k => by
  constructor
  · intro h; rw [e k] at h; cases h
  · rintro ⟨h, _⟩; exact h
theorem val_mk {p b : Pd} {v : Nat} (B : Bl kin p b) (hv : Val kin b v) : Val kin p (rootN kin p b % 2 + 2 * v) := by
  by_cases hx : ∃ k, p k = true
  · exact .step B hx hv
  · have e : ∀ k, p k = false := fun k => bfalse.mpr fun h => hx ⟨k, h⟩
    have e2 : ∀ k, b k = false := fun k => bfalse.mpr fun h => by have := B.le h; rw [e k] at this; cases this
    have h0 := hv.zero e2
    have h1 : rootN kin p b = 0 := cnt_zero fun x => by unfold rootB; rw [e x]; rfl
    rw [h0, h1]
    exact .nil e
theorem Val.det (F : Fst par kin) {p : Pd} {v : Nat} (h : Val kin p v) : ∀ {v' : Nat}, Ok p → Val kin p v' → v = v' := by
  induction h with
  | nil e => intro v' _ h'; exact (h'.zero e).symm
  | step B hx hv ih =>
    intro v' hok h'
    cases h' with
    | nil e => obtain ⟨k, hk⟩ := hx; rw [e k] at hk; cases hk
    | step B' hx' hv' =>
      have := B.uniq F B' hok
      subst this
      rw [ih (B.ok hok) hv']
theorem Val.inv {p : Pd} {v : Nat} (h : Val kin p v) : ∃ b u, Bl kin p b ∧ Val kin b u ∧ v = rootN kin p b % 2 + 2 * u := by
  cases h with
  | nil e => exact ⟨p, 0, Bl.nil e, .nil e, by rw [cnt_zero (f := rootB kin p p) (fun x => by unfold rootB; rw [e x]; rfl) |> fun z => (show rootN kin p p = 0 from z)]⟩
  | step B hx hv => exact ⟨_, _, B, hv, rfl⟩
/-- the colours exist -/
noncomputable def colS (kin : Nat → List Nat) (p b : Pd) : Pd := fun k => p k && (List.range 7).any fun c => p c && (!b c && hdP kin p c == some k)
theorem colS_true {p b : Pd} (hok : Ok p) {k : Nat} : colS kin p b k = true ↔ (p k = true ∧ ∃ c, p c = true ∧ b c = false ∧ hdP kin p c = some k) := by
  unfold colS
  simp only [Bool.and_eq_true, List.any_eq_true, List.mem_range, Bool.not_eq_true', beq_iff_eq]
  constructor
  · rintro ⟨h, c, _, h1, h2, h3⟩; exact ⟨h, c, h1, h2, h3⟩
  · rintro ⟨h, c, h1, h2, h3⟩
    refine ⟨h, c, ?_, h1, h2, h3⟩
    apply Classical.byContradiction
    intro hx
    rw [hok c (by exact lle [_] [.le (.n 7) (.v 0)] [1] (.n 7) (.v 0) (by exact yes) (Nat.le_of_not_lt hx))] at h1; cases h1
noncomputable def colI (kin : Nat → List Nat) (p : Pd) : Nat → Pd
  | 0 => fun _ => false
  | m + 1 => colS kin p (colI kin p m)
theorem Bl.ex (F : Fst par kin) {p : Pd} (hok : Ok p) : ∃ b, Bl kin p b := by
  have key : ∀ m k, 7 ≤ k + m → colI kin p m k = colI kin p (m + 1) k := by
    intro m
    induction m with
    | zero =>
      intro k hk
      show false = colS kin p _ k
      symm
      rw [bfalse, colS_true hok]
      rintro ⟨h, _⟩
      rw [hok k (by exact lle [_] [.le (.n 7) (.a (.v 0) (.n 0))] [1] (.n 7) (.v 0) (by exact yes) hk)] at h; cases h
    | succ m ih =>
      intro k hk
      rw [Bool.eq_iff_iff]
      show colS kin p (colI kin p m) k = true ↔ colS kin p (colI kin p (m + 1)) k = true
      rw [colS_true hok, colS_true hok]
      constructor
      · rintro ⟨h, c, h1, h2, h3⟩
        have := F.lt c k (hd_mem h3).1
        exact ⟨h, c, h1, by rw [← ih c (by exact lle [_, _, _] [.le (.n 7) (.a (.v 2) (.a (.v 1) (.n 1))), .lt (.v 2) (.v 0)] [1, 1] (.n 7) (.a (.v 0) (.v 1)) (by exact yes) hk this)]; exact h2, h3⟩
      · rintro ⟨h, c, h1, h2, h3⟩
        have := F.lt c k (hd_mem h3).1
        exact ⟨h, c, h1, by rw [ih c (by exact lle [_, _, _] [.le (.n 7) (.a (.v 2) (.a (.v 1) (.n 1))), .lt (.v 2) (.v 0)] [1, 1] (.n 7) (.a (.v 0) (.v 1)) (by exact yes) hk this)]; exact h2, h3⟩
  refine ⟨colI kin p 7, fun k => ?_⟩
  have e : colI kin p 7 = colI kin p 8 := funext fun k => key 7 k (by exact lle [_] [] [] (.n 7) (.a (.v 0) (.n 7)) (by exact yes))
  have := colS_true (kin := kin) (b := colI kin p 7) hok (k := k)
  rw [show colS kin p (colI kin p 7) = colI kin p 8 from rfl, ← e] at this
  exact this
theorem exists_max {p : Pd} (hok : Ok p) (hx : ∃ k, p k = true) : ∃ k, p k = true ∧ ∀ j, k < j → p j = false := by
  have : ∀ m, (∃ k, 7 ≤ k + m ∧ p k = true) → ∃ k, p k = true ∧ ∀ j, k < j → p j = false := by
    intro m
    induction m with
    | zero => rintro ⟨k, hk, h⟩; rw [hok k (by exact lle [_] [.le (.n 7) (.a (.v 0) (.n 0))] [1] (.n 7) (.v 0) (by exact yes) hk)] at h; cases h
    | succ m ih =>
      rintro ⟨k, hk, h⟩
      by_cases hc : ∃ j, k < j ∧ p j = true
      · obtain ⟨j, hj, hpj⟩ := hc
        exact ih ⟨j, by exact lle [_, _, _] [.le (.n 7) (.a (.v 2) (.a (.v 1) (.n 1))), .lt (.v 2) (.v 0)] [1, 1] (.n 7) (.a (.v 0) (.v 1)) (by exact yes) hk hj, hpj⟩
      · exact ⟨k, h, fun j hj => bfalse.mpr fun hx => hc ⟨j, hj, hx⟩⟩
  obtain ⟨k, hk⟩ := hx
  exact this 7 ⟨k, by exact lle [_] [] [] (.n 7) (.a (.v 0) (.n 7)) (by exact yes), hk⟩
theorem Bl.lt (F : Fst par kin) {p b : Pd} (B : Bl kin p b) (hok : Ok p) (hx : ∃ k, p k = true) : cnt b < cnt p := by
  obtain ⟨k, hk, hm⟩ := exists_max hok hx
  refine cnt_lt (fun x h => B.le h) (c := k) ?_ hk ?_
  · apply Classical.byContradiction
    intro h
    rw [hok k (by exact lle [_] [.le (.n 7) (.v 0)] [1] (.n 7) (.v 0) (by exact yes) (Nat.le_of_not_lt h))] at hk; cases hk
  · rw [bfalse, B k]
    rintro ⟨_, c, h1, _, h3⟩
    rw [hm c (F.lt c k (hd_mem h3).1)] at h1; cases h1
theorem Val.ex (F : Fst par kin) : ∀ (n : Nat) {p : Pd}, cnt p ≤ n → Ok p → ∃ v, Val kin p v := by
  intro n
  induction n with
  | zero =>
    intro p hn hok
    by_cases hx : ∃ k, p k = true
    · obtain ⟨b, B⟩ := Bl.ex F hok
      have := B.lt F hok hx
      exact (lif [_, _] [.le (.v 0) (.n 0), .lt (.v 1) (.v 0)] [1, 1] (by exact yes) hn this).elim
    · exact ⟨0, .nil fun k => bfalse.mpr fun h => hx ⟨k, h⟩⟩
  | succ n ih =>
    intro p hn hok
    by_cases hx : ∃ k, p k = true
    · obtain ⟨b, B⟩ := Bl.ex F hok
      have := B.lt F hok hx
      obtain ⟨v, hv⟩ := ih (by exact lle [_, _, _] [.le (.v 2) (.a (.v 1) (.n 1)), .lt (.v 0) (.v 2)] [1, 1] (.v 0) (.v 1) (by exact yes) hn this) (B.ok hok)
      exact ⟨_, .step B hx hv⟩
    · exact ⟨0, .nil fun k => bfalse.mpr fun h => hx ⟨k, h⟩⟩
theorem del_ok {p : Pd} (hok : Ok p) (j : Nat) : Ok (del kin p j) := fun k hk => by unfold del; rw [hok k hk]; rfl
theorem par_ne {r s : Nat} (h : r + 1 = s) : r % 2 ≠ s % 2 := by
  rw [← h, Nat.add_mod]
  rcases Nat.mod_two_eq_zero_or_one r with e | e <;> rw [e] <;> decide
theorem par_eq {r s t : Nat} (h : r + 1 = s) (hn : s % 2 ≠ t % 2) : r % 2 = t % 2 := by
  have := par_ne h
  rcases Nat.mod_two_eq_zero_or_one r with e | e <;> rcases Nat.mod_two_eq_zero_or_one s with f | f <;> rcases Nat.mod_two_eq_zero_or_one t with g | g <;> rw [e, f] at this <;> rw [f, g] at hn <;> rw [e, g] <;> contradiction
/-- no move keeps the number, and each lesser number can be met -/
theorem Val.game (F : Fst par kin) {p : Pd} {v : Nat} (h : Val kin p v) : Ok p → (∀ j v', p j = true → Val kin (del kin p j) v' → v' ≠ v) ∧ (∀ t, t < v → ∃ j, p j = true ∧ Val kin (del kin p j) t) := by
  induction h with
  | nil e => exact fun _ => ⟨fun j v' h => (by rw [e j] at h; cases h), fun t ht => absurd ht (Nat.not_lt_zero t)⟩
  | @step p b v B hx hv ih =>
    intro hok
    have hokb := B.ok hok
    obtain ⟨ih1, ih2⟩ := ih hokb
    constructor
    · intro j v' hj h'
      obtain ⟨v2, h2⟩ := Val.ex F 7 (p := del kin b j) (by unfold cnt; exact Nat.le_trans List.countP_le_length (by simp)) (del_ok hokb j)
      have e := (val_mk (B.del F j) h2).det F (del_ok hok j) h'
      rcases F.meets b j with hm | ⟨j', hj', hu, hd⟩
      · have hh : hdP kin p j = none := by
          cases hh : hdP kin p j with
          | none => rfl
          | some k =>
            have : b k = true := (B k).mpr ⟨(hd_mem hh).2, j, hj, hm j (.inl rfl), hh⟩
            rw [hm k (.inr (hd_mem hh).1)] at this; cases this
        have hr := root_del F B hok hj (hm j (.inl rfl)) hh
        rw [del_none hm] at h2 e hr
        have := h2.det F hokb hv
        subst this
        exact e ▸ fun hz => par_ne hr (Nat.add_right_cancel hz)
      · rw [hd] at h2
        have := ih1 j' v2 hj' h2
        exact fun hz => lif [_, _, _, _, _] [.eq (.v 0) (.a (.v 1) (.m 2 (.v 2))), .eq (.a (.v 3) (.m 2 (.v 4))) (.v 0), .lt (.v 4) (.v 2), .lt (.v 3) (.n 2)] [-1, -1, 2, 1] (by exact yes) hz e (Nat.lt_of_le_of_ne (lle2 [_, _, _, _, _] [.eq (.v 2) (.a (.v 3) (.m 2 (.v 1))), .eq (.a (.v 4) (.m 2 (.v 0))) (.v 2), .lt (.v 3) (.n 2)] [1, 1, 1] (.v 0) (.v 1) (by exact yes) hz e (Nat.mod_lt _ (by decide))) this) (Nat.mod_lt _ (by decide))
    · intro t ht
      by_cases htv : t / 2 < v
      · obtain ⟨j', hj', h2⟩ := ih2 (t / 2) htv
        obtain ⟨hpj, c, hc, hcb, hch⟩ := (B j').mp hj'
        obtain ⟨h1, _, h3⟩ := (F.hd_split c j').mp hch
        have hdd : del kin (del kin p j') c = del kin p c := by
          funext k
          rw [Bool.eq_iff_iff, del_true, del_true, del_true]
          constructor
          · rintro ⟨⟨g1, g2⟩, g3⟩; exact ⟨g1, g3⟩
          · rintro ⟨g1, g2⟩; exact ⟨⟨g1, fun g => g2 (F.up_trans (.inr h1) g)⟩, g2⟩
        have hdb : del kin (del kin b j') c = del kin b j' := by
          refine del_none fun x hx => ?_
          rw [bfalse, del_true]
          rintro ⟨g1, g2⟩
          rcases hx with rfl | hx
          · rw [hcb] at g1; cases g1
          · rcases h3 x hx with g | g | g
            · exact g2 (.inl g)
            · exact g2 (.inr g)
            · rw [B.le g1] at g; cases g
        have hcu : ¬ (c = j' ∨ c ∈ kin j') := by
          rintro (g | g)
          · subst g; rw [hcb] at hj'; cases hj'
          · have := F.lt c j' h1; have := F.lt j' c g; exact lif [_, _] [.lt (.v 0) (.v 1), .lt (.v 1) (.v 0)] [1, 1] (by exact yes) (‹j' < c›) this
        have hr := root_del F (B.del F j') (del_ok hok j') (c := c) (del_true.mpr ⟨hc, hcu⟩) (by rw [bfalse]; exact fun g => by rw [del_le g] at hcb; cases hcb) (hd_none_iff.mpr fun x hx => by
          rw [bfalse, del_true]
          rintro ⟨g1, g2⟩
          rcases h3 x hx with g | g | g
          · exact g2 (.inl g)
          · exact g2 (.inr g)
          · rw [g1] at g; cases g)
        rw [hdd, hdb] at hr
        have v1 := val_mk (B.del F j') h2
        have B2 := (B.del F j').del F c
        rw [hdd, hdb] at B2
        have v2 := val_mk B2 h2
        by_cases hpar : rootN kin (del kin p j') (del kin b j') % 2 = t % 2
        · refine ⟨j', hpj, ?_⟩
          rw [show t = rootN kin (del kin p j') (del kin b j') % 2 + 2 * (t / 2) by exact leq [_, _, _, _] [.eq (.v 1) (.v 3), .eq (.a (.m 2 (.v 2)) (.v 3)) (.v 0)] [-1, -1] [1, 1] (.v 0) (.a (.v 1) (.m 2 (.v 2))) (by exact yes) (by exact yes) hpar (Nat.div_add_mod _ 2)]
          exact v1
        · refine ⟨c, hc, ?_⟩
          rw [show t = rootN kin (del kin p c) (del kin b j') % 2 + 2 * (t / 2) by rw [par_eq hr hpar, Nat.mod_add_div]]
          exact v2
      · have hpos : 0 < rootN kin p b := by exact llt [_, _, _, _, _, _, _] [.lt (.v 1) (.a (.v 2) (.m 2 (.v 3))), .le (.v 3) (.v 4), .eq (.a (.m 2 (.v 5)) (.v 2)) (.v 0), .eq (.a (.m 2 (.v 4)) (.v 6)) (.v 1)] [1, 2, 1, 1] (.n 0) (.v 0) (by exact yes) ht (Nat.le_of_not_lt htv) (Nat.div_add_mod _ 2) (Nat.div_add_mod _ 2)
        obtain ⟨c, hcr, hcf⟩ := List.countP_pos_iff.mp hpos
        unfold rootB at hcf
        simp only [Bool.and_eq_true, Bool.not_eq_true', Option.isNone_iff_eq_none] at hcf
        obtain ⟨g1, g2, g3⟩ := hcf
        have hr := root_del F B hok g1 g2 g3
        have hn := hd_none g3
        have hdb : del kin b c = b := del_none fun x hx => by
          rcases hx with rfl | hx
          · exact g2
          · rw [bfalse]; exact fun h => by have := B.le h; rw [hn x hx] at this; cases this
        have B2 := B.del F c
        rw [hdb] at B2 hr
        refine ⟨c, g1, ?_⟩
        rw [show t = rootN kin (del kin p c) b % 2 + 2 * v by omega]
        exact val_mk B2 hv
end
end Mine
end
section
namespace Mine
theorem xor_bit (a b x y : Nat) : (a % 2 + 2 * x) ^^^ (b % 2 + 2 * y) = (a + b) % 2 + 2 * (x ^^^ y) := by
  have h1 : ((a % 2 + 2 * x) ^^^ (b % 2 + 2 * y)) / 2 = (a % 2 + 2 * x) / 2 ^^^ (b % 2 + 2 * y) / 2 := Nat.xor_div_two
  have h2 : ((a % 2 + 2 * x) ^^^ (b % 2 + 2 * y)) % 2 = ((a % 2 + 2 * x) % 2) ^^^ ((b % 2 + 2 * y) % 2) := by
    have := Nat.xor_mod_two_pow (a := a % 2 + 2 * x) (b := b % 2 + 2 * y) (n := 1)
    rwa [Nat.pow_one] at this
  rw [show (a % 2 + 2 * x) / 2 = x by exact Nat.le_antisymm (lle2 [_, _, _, _] [.eq (.a (.m 2 (.v 0)) (.v 2)) (.a (.v 3) (.m 2 (.v 1))), .lt (.v 3) (.n 2)] [1, 1] (.v 0) (.v 1) (by exact yes) (Nat.div_add_mod _ 2) (Nat.mod_lt _ (by decide))) (lle2 [_, _, _, _] [.eq (.a (.m 2 (.v 1)) (.v 2)) (.a (.v 3) (.m 2 (.v 0))), .lt (.v 2) (.n 2)] [-1, 1] (.v 0) (.v 1) (by exact yes) (Nat.div_add_mod _ 2) (Nat.mod_lt _ (by decide))), show (b % 2 + 2 * y) / 2 = y by exact Nat.le_antisymm (lle2 [_, _, _, _] [.eq (.a (.m 2 (.v 0)) (.v 2)) (.a (.v 3) (.m 2 (.v 1))), .lt (.v 3) (.n 2)] [1, 1] (.v 0) (.v 1) (by exact yes) (Nat.div_add_mod _ 2) (Nat.mod_lt _ (by decide))) (lle2 [_, _, _, _] [.eq (.a (.m 2 (.v 1)) (.v 2)) (.a (.v 3) (.m 2 (.v 0))), .lt (.v 2) (.n 2)] [-1, 1] (.v 0) (.v 1) (by exact yes) (Nat.div_add_mod _ 2) (Nat.mod_lt _ (by decide)))] at h1
  rw [Nat.add_mul_mod_self_left, Nat.mod_mod, Nat.add_mul_mod_self_left, Nat.mod_mod] at h2
  have h3 : (a % 2) ^^^ (b % 2) = (a + b) % 2 := by
    rw [Nat.add_mod]; rcases Nat.mod_two_eq_zero_or_one a with e1 | e1 <;> rcases Nat.mod_two_eq_zero_or_one b with e2 | e2 <;> rw [e1, e2] <;> rfl
  exact leq [_, _, _, _, _, _] [.eq (.v 3) (.v 2), .eq (.v 4) (.v 5), .eq (.v 5) (.v 1), .eq (.a (.m 2 (.v 3)) (.v 4)) (.v 0)] [2, 1, 1, -1] [-2, -1, -1, 1] (.v 0) (.a (.v 1) (.m 2 (.v 2))) (by exact yes) (by exact yes) h1 h2 h3 (Nat.div_add_mod _ 2)
section
variable {par : Nat → Option Nat} {kin : Nat → List Nat}
noncomputable def Sep (kin : Nat → List Nat) (p q : Pd) : Prop := ∀ i j, p i = true → q j = true → i ≠ j ∧ i ∉ kin j ∧ j ∉ kin i
noncomputable def orP (p q : Pd) : Pd := fun k => p k || q k
theorem or_true {p q : Pd} {k : Nat} : orP p q k = true ↔ p k = true ∨ q k = true := by unfold orP; rw [Bool.or_eq_true]
theorem Sep.symm {p q : Pd} (h : Sep kin p q) : Sep kin q p := fun i j hi hj => (by obtain ⟨a, b, c⟩ := h j i hj hi; exact ⟨Ne.symm a, c, b⟩)
theorem hd_congr {p q : Pd} {c : Nat} (h : ∀ x ∈ kin c, p x = q x) : hdP kin p c = hdP kin q c := by
  unfold hdP
  revert h
  generalize kin c = l
  intro h
  induction l with
  | nil => rfl
  | cons a l ih =>
    rw [List.find?_cons, List.find?_cons, h a (List.mem_cons_self ..), ih fun x hx => h x (List.mem_cons_of_mem _ hx)]
theorem Sep.hd {p q : Pd} (h : Sep kin p q) {c : Nat} (hc : p c = true) : hdP kin (orP p q) c = hdP kin p c := by
  refine hd_congr fun x hx => ?_
  unfold orP
  have : q x = false := bfalse.mpr fun hq => (h c x hc hq).2.2 hx
  rw [this, Bool.or_false]
theorem orP_comm (p q : Pd) : orP p q = orP q p := funext fun k => Bool.or_comm ..
theorem Bl.or {p q bp bq : Pd} (h : Sep kin p q) (B : Bl kin p bp) (C : Bl kin q bq) : Bl kin (orP p q) (orP bp bq) := by
  intro k
  have hcp : ∀ c, p c = true → bq c = false := fun c hc => bfalse.mpr fun hb => (h c c hc (C.le hb)).1 rfl
  have hcq : ∀ c, q c = true → bp c = false := fun c hc => bfalse.mpr fun hb => (h c c (B.le hb) hc).1 rfl
  rw [or_true]
  constructor
  · rintro (hb | hb)
    · obtain ⟨h1, c, h2, h3, h4⟩ := (B k).mp hb
      exact ⟨or_true.mpr (.inl h1), c, or_true.mpr (.inl h2), by unfold orP; rw [h3, hcp c h2]; rfl, by rw [h.hd h2]; exact h4⟩
    · obtain ⟨h1, c, h2, h3, h4⟩ := (C k).mp hb
      exact ⟨or_true.mpr (.inr h1), c, or_true.mpr (.inr h2), by unfold orP; rw [h3, hcq c h2]; rfl, by rw [orP_comm, h.symm.hd h2]; exact h4⟩
  · rintro ⟨_, c, h2, h3, h4⟩
    unfold orP at h3
    rw [Bool.or_eq_false_iff] at h3
    rcases or_true.mp h2 with h2 | h2
    · rw [h.hd h2] at h4
      exact .inl ((B k).mpr ⟨(hd_mem h4).2, c, h2, h3.1, h4⟩)
    · rw [orP_comm, h.symm.hd h2] at h4
      exact .inr ((C k).mpr ⟨(hd_mem h4).2, c, h2, h3.2, h4⟩)
theorem cnt_or {f g : Nat → Bool} (h : ∀ x, f x = true → g x = true → False) : cnt (fun x => f x || g x) = cnt f + cnt g := by
  unfold cnt
  generalize List.range 7 = l
  induction l with
  | nil => rfl
  | cons a l ih =>
    rw [List.countP_cons, List.countP_cons, List.countP_cons, ih]
    cases hf : f a <;> cases hg : g a <;> simp <;> first | omega | exact absurd hg (fun hx => h a hf hx)
theorem rootN_or {p q bp bq : Pd} (h : Sep kin p q) (B : Bl kin p bp) (C : Bl kin q bq) : rootN kin (orP p q) (orP bp bq) = rootN kin p bp + rootN kin q bq := by
  have hcp : ∀ c, p c = true → bq c = false := fun c hc => bfalse.mpr fun hb => (h c c hc (C.le hb)).1 rfl
  have hcq : ∀ c, q c = true → bp c = false := fun c hc => bfalse.mpr fun hb => (h c c (B.le hb) hc).1 rfl
  unfold rootN
  rw [← cnt_or (f := rootB kin p bp) (g := rootB kin q bq)]
  · congr 1
    funext c
    unfold rootB
    cases hp : p c with
    | true =>
      have hq : q c = false := bfalse.mpr fun hq => (h c c hp hq).1 rfl
      rw [h.hd hp]
      unfold orP
      rw [hp, hq, hcp c hp]
      simp
    | false =>
      cases hq : q c with
      | true =>
        rw [orP_comm p q, h.symm.hd hq]
        unfold orP
        rw [hp, hq, hcq c hq]
        simp
      | false =>
        unfold orP
        rw [hp, hq]; rfl
  · intro x h1 h2
    unfold rootB at h1 h2
    rw [Bool.and_eq_true] at h1 h2
    exact (h x x h1.1 h2.1).1 rfl
/-- what lies apart goes together by exclusive or -/
theorem Val.or (F : Fst par kin) : ∀ (n : Nat) {p q : Pd} {u v : Nat}, cnt p ≤ n → Ok p → Ok q → Sep kin p q → Val kin p u → Val kin q v → Val kin (orP p q) (u ^^^ v) := by
  intro n
  induction n with
  | zero =>
    intro p q u v hn hp hq h hu hv
    have e : ∀ k, p k = false := fun k => by
      rw [bfalse]; intro hk
      obtain ⟨b, B⟩ := Bl.ex F hp
      have := B.lt F hp ⟨k, hk⟩
      exact lif [_, _] [.le (.v 0) (.n 0), .lt (.v 1) (.v 0)] [1, 1] (by exact yes) hn this
    rw [hu.zero e, Nat.zero_xor, show orP p q = q from funext fun k => by unfold orP; rw [e k]; rfl]
    exact hv
  | succ n ih =>
    intro p q u v hn hp hq h hu hv
    by_cases hx : ∃ k, p k = true
    · obtain ⟨bp, u', B, hu', rfl⟩ := hu.inv
      obtain ⟨bq, v', C, hv', rfl⟩ := hv.inv
      have hlt := B.lt F hp hx
      have hs : Sep kin bp bq := fun i j hi hj => h i j (B.le hi) (C.le hj)
      have := ih (by exact lle [_, _, _] [.le (.v 2) (.a (.v 1) (.n 1)), .lt (.v 0) (.v 2)] [1, 1] (.v 0) (.v 1) (by exact yes) hn hlt) (B.ok hp) (C.ok hq) hs hu' hv'
      have := val_mk (Bl.or h B C) this
      rw [rootN_or h B C] at this
      rw [xor_bit]
      exact this
    · have e : ∀ k, p k = false := fun k => bfalse.mpr fun hk => hx ⟨k, hk⟩
      rw [hu.zero e, Nat.zero_xor, show orP p q = q from funext fun k => by unfold orP; rw [e k]; rfl]
      exact hv
theorem cnt7 (f : Nat → Bool) : cnt f ≤ 7 := by unfold cnt; exact Nat.le_trans List.countP_le_length (by simp)
/-- a host and all that hangs below it -/
noncomputable def tree (kin : Nat → List Nat) (k : Nat) : Pd := fun j => decide (j < 7) && isUp kin j k
theorem tree_true {k j : Nat} : tree kin k j = true ↔ j < 7 ∧ (k = j ∨ k ∈ kin j) := by
  unfold tree
  rw [Bool.and_eq_true, decide_eq_true_iff, mem_up]
theorem tree_ok (k : Nat) : Ok (tree kin k) := fun j hj => by
  rw [bfalse, tree_true]; exact fun hz => lif [_] [.lt (.v 0) (.n 7), .le (.n 7) (.v 0)] [1, 1] (by exact yes) hz.1 hj
noncomputable def apart (kin : Nat → List Nat) (c c' : Nat) : Prop := c ≠ c' ∧ c ∉ kin c' ∧ c' ∉ kin c
theorem Fst.upline (F : Fst par kin) {j x k : Nat} (hx : x = j ∨ x ∈ kin j) (hk : k = j ∨ k ∈ kin j) : x = k ∨ x ∈ kin k ∨ k ∈ kin x := by
  rcases hx with rfl | hx
  · rcases hk with rfl | hk
    · exact .inl rfl
    · exact .inr (.inr hk)
  · rcases hk with rfl | hk
    · exact .inr (.inl hx)
    · exact F.line j x k hx hk
theorem Fst.sepTree (F : Fst par kin) {c c' : Nat} (h : apart kin c c') : Sep kin (tree kin c) (tree kin c') := by
  intro i j hi hj
  obtain ⟨_, hi⟩ := tree_true.mp hi
  obtain ⟨_, hj⟩ := tree_true.mp hj
  have no : ¬ (c = c' ∨ c ∈ kin c' ∨ c' ∈ kin c) := by
    rintro (e | e | e)
    · exact h.1 e
    · exact h.2.1 e
    · exact h.2.2 e
  refine ⟨fun e => ?_, fun e => ?_, fun e => ?_⟩
  · subst e; exact no (F.upline hi hj)
  · exact no (F.upline (F.up_trans (.inr e) hi) hj)
  · exact no (F.upline hi (F.up_trans (.inr e) hj))
/-- many trees -/
noncomputable def trees (kin : Nat → List Nat) (cs : List Nat) : Pd := fun j => cs.any fun c => tree kin c j
noncomputable def xorW (w : Nat → Nat) : List Nat → Nat
  | [] => 0
  | c :: cs => w c ^^^ xorW w cs
theorem trees_true {cs : List Nat} {j : Nat} : trees kin cs j = true ↔ ∃ c ∈ cs, tree kin c j = true := by unfold trees; rw [List.any_eq_true]
theorem trees_ok (cs : List Nat) : Ok (trees kin cs) := fun j hj => by
  rw [bfalse, trees_true]
  rintro ⟨c, _, h⟩
  rw [tree_ok c j hj] at h; cases h
theorem Val.trees (F : Fst par kin) {w : Nat → Nat} : ∀ {cs : List Nat}, (∀ c ∈ cs, Val kin (tree kin c) (w c)) → cs.Pairwise (apart kin) → Val kin (trees kin cs) (xorW w cs)
  | [], _, _ => .nil fun k => rfl
  | c :: cs, h, hp => by
    have hp := List.pairwise_cons.mp hp
    have h1 := Val.trees F (fun c hc => h c (List.mem_cons_of_mem _ hc)) hp.2
    have hs : Sep kin (tree kin c) (Mine.trees kin cs) := by
      intro i j hi hj
      obtain ⟨c', hc', hj⟩ := trees_true.mp hj
      exact F.sepTree (hp.1 c' hc') i j hi hj
    have := Val.or F 7 (cnt7 _) (tree_ok c) (trees_ok cs) hs (h c (List.mem_cons_self ..)) h1
    exact this
theorem xorW_erase (w : Nat → Nat) {i : Nat} : ∀ {cs : List Nat}, i ∈ cs → xorW w (cs.erase i) = xorW w cs ^^^ w i
  | c :: cs, h => by
    by_cases hc : c = i
    · subst hc
      rw [List.erase_cons_head]
      show xorW w cs = w c ^^^ xorW w cs ^^^ w c
      rw [Nat.xor_comm (w c), Nat.xor_assoc, Nat.xor_self, Nat.xor_zero]
    · rw [List.erase_cons_tail (by simpa using hc)]
      have hi : i ∈ cs := by
        rcases List.mem_cons.mp h with e | e
        · exact absurd e.symm hc
        · exact e
      show w c ^^^ xorW w (cs.erase i) = w c ^^^ xorW w cs ^^^ w i
      rw [xorW_erase w hi, Nat.xor_assoc]
/-- those right below -/
noncomputable def IsKids (par : Nat → Option Nat) (k : Option Nat) (cs : List Nat) : Prop := cs.Nodup ∧ ∀ c, c ∈ cs ↔ c < 7 ∧ par c = k
theorem Fst.kids_apart (F : Fst par kin) {k : Option Nat} {cs : List Nat} (h : IsKids par k cs) : cs.Pairwise (apart kin) := by
  refine List.Pairwise.imp_of_mem (R := fun a b => a ≠ b) ?_ h.1
  intro a b ha hb hab
  have ha := ((h.2 a).mp ha).2
  have hb := ((h.2 b).mp hb).2
  refine ⟨hab, fun e => ?_, fun e => ?_⟩
  · cases k with
    | none => rw [F.kin0 hb] at e; cases e
    | some p =>
      rw [F.kin1 hb] at e
      have := F.dn a p ha
      rcases List.mem_cons.mp e with e | e
      · exact lif [_, _] [.lt (.v 0) (.v 1), .eq (.v 1) (.v 0)] [1, 1] (by exact yes) this e
      · have := F.lt p a e; exact lif [_, _] [.lt (.v 0) (.v 1), .lt (.v 1) (.v 0)] [1, 1] (by exact yes) (‹p < a›) this
  · cases k with
    | none => rw [F.kin0 ha] at e; cases e
    | some p =>
      rw [F.kin1 ha] at e
      have := F.dn b p hb
      rcases List.mem_cons.mp e with e | e
      · exact lif [_, _] [.lt (.v 0) (.v 1), .eq (.v 1) (.v 0)] [1, 1] (by exact yes) this e
      · have := F.lt p b e; exact lif [_, _] [.lt (.v 0) (.v 1), .lt (.v 1) (.v 0)] [1, 1] (by exact yes) (‹p < b›) this
/-- the one right below on the way -/
theorem Fst.step (F : Fst par kin) (j : Nat) : ∀ k, k ∈ kin j → ∃ c, par c = some k ∧ (c = j ∨ c ∈ kin j) := by
  induction j using Nat.strongRecOn with
  | ind j ih =>
    intro k hk
    cases hp : par j with
    | none => rw [F.kin0 hp] at hk; cases hk
    | some p =>
      rw [F.kin1 hp] at hk ⊢
      rcases List.mem_cons.mp hk with rfl | hk
      · exact ⟨j, hp, .inl rfl⟩
      · obtain ⟨c, h1, h2⟩ := ih p (F.dn j p hp) k hk
        rcases h2 with rfl | h2
        · exact ⟨c, h1, .inr (List.mem_cons_self ..)⟩
        · exact ⟨c, h1, .inr (List.mem_cons_of_mem _ h2)⟩
theorem up_lt7 (F : Fst par kin) {c j : Nat} (hj : j < 7) (h : c = j ∨ c ∈ kin j) : c < 7 := by
  rcases h with rfl | h
  · exact hj
  · have := F.lt j c h; exact llt [_, _] [.lt (.v 1) (.n 7), .lt (.v 0) (.v 1)] [1, 1] (.v 0) (.n 7) (by exact yes) hj this
theorem Fst.del_own (F : Fst par kin) {k : Nat} {cs : List Nat} (h : IsKids par (some k) cs) : del kin (tree kin k) k = trees kin cs := by
  funext j
  rw [Bool.eq_iff_iff, del_true, tree_true, trees_true]
  constructor
  · rintro ⟨⟨h1, h2⟩, h3⟩
    have hk : k ∈ kin j := h2.resolve_left fun e => h3 (.inl e.symm)
    obtain ⟨c, h4, h5⟩ := F.step j k hk
    exact ⟨c, (h.2 c).mpr ⟨up_lt7 F h1 h5, h4⟩, tree_true.mpr ⟨h1, h5⟩⟩
  · rintro ⟨c, hc, hj⟩
    obtain ⟨h1, h2⟩ := tree_true.mp hj
    have hpc := ((h.2 c).mp hc).2
    have hkc : k ∈ kin c := by rw [F.kin1 hpc]; exact List.mem_cons_self ..
    have hkj : k = j ∨ k ∈ kin j := F.up_trans h2 (.inr hkc)
    refine ⟨⟨h1, hkj⟩, fun e => ?_⟩
    have := F.dn c k hpc
    have hcj : c ≤ j := by
      rcases h2 with rfl | h2
      · exact Nat.le_refl _
      · have := F.lt j c h2; exact lle [_, _] [.lt (.v 0) (.v 1)] [1] (.v 0) (.v 1) (by exact yes) this
    rcases e with e | e
    · exact lif [_, _, _] [.lt (.v 0) (.v 1), .le (.v 1) (.v 2), .eq (.v 2) (.v 0)] [1, 1, 1] (by exact yes) this hcj e
    · have := F.lt k j e; exact lif [_, _, _] [.lt (.v 0) (.v 1), .le (.v 1) (.v 2), .lt (.v 2) (.v 0)] [1, 1, 1] (by exact yes) (‹k < c›) hcj this
theorem Fst.del_up (F : Fst par kin) {i p j : Nat} {cs : List Nat} (hp : par i = some p) (h : IsKids par (some p) cs) (hj : i = j ∨ i ∈ kin j) : del kin (tree kin p) j = orP (del kin (tree kin i) j) (trees kin (cs.erase i)) := by
  have hpi : p ∈ kin i := by rw [F.kin1 hp]; exact List.mem_cons_self ..
  have hpj : p = j ∨ p ∈ kin j := F.up_trans hj (.inr hpi)
  funext x
  rw [Bool.eq_iff_iff, or_true, del_true, del_true, tree_true, tree_true, trees_true]
  constructor
  · rintro ⟨⟨h1, h2⟩, h3⟩
    have hpx : p ∈ kin x := h2.resolve_left fun e => h3 (e ▸ hpj)
    obtain ⟨c, h4, h5⟩ := F.step x p hpx
    by_cases hci : c = i
    · subst hci
      exact .inl ⟨⟨h1, h5⟩, h3⟩
    · exact .inr ⟨c, (List.mem_erase_of_ne hci).mpr ((h.2 c).mpr ⟨up_lt7 F h1 h5, h4⟩), tree_true.mpr ⟨h1, h5⟩⟩
  · rintro (⟨⟨h1, h2⟩, h3⟩ | ⟨c, hc, hx⟩)
    · exact ⟨⟨h1, F.up_trans h2 (.inr hpi)⟩, h3⟩
    · obtain ⟨h1, h2⟩ := tree_true.mp hx
      have hci : c ≠ i := by
        rintro rfl
        exact (List.Nodup.mem_erase_iff h.1).mp hc |>.1 rfl
      have hpc := ((h.2 c).mp (List.mem_of_mem_erase hc)).2
      have hpcm : p ∈ kin c := by rw [F.kin1 hpc]; exact List.mem_cons_self ..
      refine ⟨⟨h1, F.up_trans h2 (.inr hpcm)⟩, fun e => ?_⟩
      have hcj : c = j ∨ c ∈ kin j := F.up_trans e h2
      rcases F.upline hcj hj with e | e | e
      · exact hci e
      · rw [F.kin1 hp] at e
        have := F.dn c p hpc
        rcases List.mem_cons.mp e with e | e
        · exact lif [_, _] [.lt (.v 0) (.v 1), .eq (.v 1) (.v 0)] [1, 1] (by exact yes) this e
        · have := F.lt p c e; exact lif [_, _] [.lt (.v 0) (.v 1), .lt (.v 1) (.v 0)] [1, 1] (by exact yes) (‹p < c›) this
      · rw [F.kin1 hpc] at e
        have := F.dn i p hp
        rcases List.mem_cons.mp e with e | e
        · exact lif [_, _] [.lt (.v 0) (.v 1), .eq (.v 1) (.v 0)] [1, 1] (by exact yes) this e
        · have := F.lt p i e; exact lif [_, _] [.lt (.v 0) (.v 1), .lt (.v 1) (.v 0)] [1, 1] (by exact yes) (‹p < i›) this
end
end Mine
end
section
open PySem PySem.W PyProof.Rows
namespace Mine
section
variable {par : Nat → Option Nat} {kin : Nat → List Nat}
/-- the list of a set -/
noncomputable def lstP (p : Pd) : List Nat := (List.range 7).filter p
theorem mem_lst {p : Pd} (hok : Ok p) {x : Nat} : x ∈ lstP p ↔ p x = true := by
  unfold lstP
  rw [List.mem_filter, List.mem_range]
  refine ⟨fun h => h.2, fun h => ⟨?_, h⟩⟩
  apply Classical.byContradiction
  intro hx
  rw [hok x (by exact lle [_] [.le (.n 7) (.v 0)] [1] (.n 7) (.v 0) (by exact yes) (Nat.le_of_not_lt hx))] at h; cases h
theorem filter_hd {p : Pd} {l : List Nat} {c : Nat} (h : ∀ x ∈ kin c, l.contains x = p x) : (match (kin c).filter (l.contains ·) with | [] => none | o :: _ => some o) = hdP kin p c := by
  have e : (kin c).filter (l.contains ·) = (kin c).filter p := List.filter_congr h
  rw [e]
  unfold hdP
  generalize kin c = m
  induction m with
  | nil => rfl
  | cons a m ih =>
    cases ha : p a with
    | true => rw [List.filter_cons_of_pos ha, List.find?_cons_of_pos ha]
    | false => rw [List.filter_cons_of_neg (by rw [ha]; decide), List.find?_cons_of_neg (by rw [ha]; decide)]; exact ih
theorem round_spec (F : Fst par kin) {p b : Pd} (hok : Ok p) (B : Bl kin p b) : ∀ (l : List Nat) (black : List Nat) (free : Nat), l.Pairwise (fun a b => b < a) → (∀ x ∈ l, p x = true) → (∀ c, p c = true → c ∉ l → ∀ x ∈ l, x < c) →
    (∀ k, k ∈ black ↔ ∃ c, p c = true ∧ c ∉ l ∧ b c = false ∧ hdP kin p c = some k) →
    (∀ k, k ∈ (roundL kin (lstP p) l (black, free)).1 ↔ b k = true) ∧ (roundL kin (lstP p) l (black, free)).2 = free + l.countP (rootB kin p b)
  | [], black, free, _, _, _, hB => by
    refine ⟨fun k => ?_, rfl⟩
    show k ∈ black ↔ _
    rw [hB k, B k]
    constructor
    · rintro ⟨c, h1, _, h2, h3⟩; exact ⟨(hd_mem h3).2, c, h1, h2, h3⟩
    · rintro ⟨_, c, h1, h2, h3⟩; exact ⟨c, h1, List.not_mem_nil, h2, h3⟩
  | x :: l, black, free, hd, hp, hQ, hB => by
    obtain ⟨hd1, hd2⟩ := List.pairwise_cons.mp hd
    have hpx := hp x (List.mem_cons_self ..)
    have hxl : x ∉ l := fun h => Nat.lt_irrefl _ (hd1 x h)
    have hQ' : ∀ c, p c = true → c ∉ l → ∀ y ∈ l, y < c := fun c hc hcl y hy => by
      by_cases hcx : c = x
      · subst hcx; exact hd1 y hy
      · exact hQ c hc (by simp [hcx, hcl]) y (List.mem_cons_of_mem _ hy)
    have hbx : x ∈ black ↔ b x = true := by
      rw [hB x, B x]
      constructor
      · rintro ⟨c, h1, _, h2, h3⟩; exact ⟨hpx, c, h1, h2, h3⟩
      · rintro ⟨_, c, h1, h2, h3⟩
        refine ⟨c, h1, ?_, h2, h3⟩
        have hlt := F.lt c x (hd_mem h3).1
        intro hc
        rcases List.mem_cons.mp hc with rfl | hc
        · exact lif [_] [.lt (.v 0) (.v 0)] [1] (by exact yes) hlt
        · have := hd1 c hc; exact lif [_, _] [.lt (.v 0) (.v 1), .lt (.v 1) (.v 0)] [1, 1] (by exact yes) hlt this
    rw [roundL_cons, List.countP_cons]
    by_cases hbb : b x = true
    · rw [if_pos (List.contains_iff_mem.mpr (hbx.mpr hbb))]
      obtain ⟨h1, h2⟩ := round_spec F hok B l black free hd2 (fun y hy => hp y (List.mem_cons_of_mem _ hy)) hQ' (fun k => by
        rw [hB k]
        constructor
        · rintro ⟨c, g1, g2, g3, g4⟩; exact ⟨c, g1, fun h => g2 (List.mem_cons_of_mem _ h), g3, g4⟩
        · rintro ⟨c, g1, g2, g3, g4⟩
          refine ⟨c, g1, fun h => ?_, g3, g4⟩
          rcases List.mem_cons.mp h with rfl | h
          · rw [hbb] at g3; cases g3
          · exact g2 h)
      refine ⟨h1, ?_⟩
      rw [h2, if_neg]
      · exact leq [_, _] [] [] [] (.a (.v 0) (.v 1)) (.a (.v 0) (.a (.v 1) (.n 0))) (by exact yes) (by exact yes)
      · unfold rootB; rw [hbb]; simp
    · have hbf := bfalse.mpr hbb
      rw [if_neg (fun h => hbb (hbx.mp (List.contains_iff_mem.mp h)))]
      have hh := filter_hd (kin := kin) (p := p) (l := lstP p) (c := x) fun y hy => by
        rw [Bool.eq_iff_iff, List.contains_iff_mem]; exact mem_lst hok
      cases hf : (kin x).filter ((lstP p).contains ·) with
      | nil =>
        rw [hf] at hh
        have hh : hdP kin p x = none := hh.symm
        obtain ⟨h1, h2⟩ := round_spec F hok B l black (free + 1) hd2 (fun y hy => hp y (List.mem_cons_of_mem _ hy)) hQ' (fun k => by
          rw [hB k]
          constructor
          · rintro ⟨c, g1, g2, g3, g4⟩; exact ⟨c, g1, fun h => g2 (List.mem_cons_of_mem _ h), g3, g4⟩
          · rintro ⟨c, g1, g2, g3, g4⟩
            refine ⟨c, g1, fun h => ?_, g3, g4⟩
            rcases List.mem_cons.mp h with rfl | h
            · rw [hh] at g4; cases g4
            · exact g2 h)
        refine ⟨h1, ?_⟩
        show (roundL kin (lstP p) l (black, free + 1)).2 = _
        rw [h2, if_pos]
        · exact leq [_, _] [] [] [] (.a (.a (.v 0) (.n 1)) (.v 1)) (.a (.v 0) (.a (.v 1) (.n 1))) (by exact yes) (by exact yes)
        · unfold rootB; rw [hpx, hbf, hh]; rfl
      | cons o r =>
        rw [hf] at hh
        have hh : hdP kin p x = some o := hh.symm
        obtain ⟨h1, h2⟩ := round_spec F hok B l (black ++ [o]) free hd2 (fun y hy => hp y (List.mem_cons_of_mem _ hy)) hQ' (fun k => by
          rw [List.mem_append, List.mem_singleton, hB k]
          constructor
          · rintro (⟨c, g1, g2, g3, g4⟩ | rfl)
            · exact ⟨c, g1, fun h => g2 (List.mem_cons_of_mem _ h), g3, g4⟩
            · exact ⟨x, hpx, hxl, hbf, hh⟩
          · rintro ⟨c, g1, g2, g3, g4⟩
            by_cases hcx : c = x
            · subst hcx; rw [hh] at g4; cases g4; exact .inr rfl
            · exact .inl ⟨c, g1, by simp [hcx, g2], g3, g4⟩)
        refine ⟨h1, ?_⟩
        show (roundL kin (lstP p) l (black ++ [o], free)).2 = _
        rw [h2, if_neg]
        · exact leq [_, _] [] [] [] (.a (.v 0) (.v 1)) (.a (.v 0) (.a (.v 1) (.n 0))) (by exact yes) (by exact yes)
        · unfold rootB; rw [hh]; simp
theorem lst_nil {p : Pd} (hok : Ok p) : (lstP p == []) = true ↔ ∀ k, p k = false := by
  rw [beq_iff_eq]
  constructor
  · intro h k
    rw [bfalse, ← mem_lst hok, h]; exact List.not_mem_nil
  · intro h
    unfold lstP
    rw [List.filter_eq_nil_iff]
    intro x _; rw [h x]; decide
theorem whites_spec (F : Fst par kin) : ∀ (f : Nat) {p : Pd} {v worth weight : Nat}, Ok p → Val kin p v → cnt p < f → weight * 2 ^ cnt p ≤ 2 ^ 7 → whitesF kin f (lstP p) worth weight = some (worth + weight * v)
  | 0, _, _, _, _, _, _, h, _ => by exact (lif [_] [.lt (.v 0) (.n 0)] [1] (by exact yes) h).elim
  | f + 1, p, v, worth, weight, hok, hv, hf, hw => by
    unfold whitesF
    by_cases hx : ∃ k, p k = true
    · have hne : ¬ (lstP p == []) = true := fun h => by
        obtain ⟨k, hk⟩ := hx
        rw [(lst_nil hok).mp h k] at hk; cases hk
      rw [if_neg hne]
      obtain ⟨b, u, B, hu, rfl⟩ := hv.inv
      have hlt := B.lt F hok hx
      have hsort : (lstP p).reverse.Pairwise (fun a b => b < a) := by
        rw [List.pairwise_reverse]
        exact List.Pairwise.filter _ List.pairwise_lt_range
      obtain ⟨h1, h2⟩ := round_spec F hok B (lstP p).reverse [] 0 hsort (fun x hx => (mem_lst hok).mp (List.mem_reverse.mp hx)) (fun c hc hcl => absurd (List.mem_reverse.mpr ((mem_lst hok).mpr hc)) hcl) (fun k => by
        constructor
        · intro h; cases h
        · rintro ⟨c, g1, g2, _⟩; exact absurd (List.mem_reverse.mpr ((mem_lst hok).mpr g1)) g2)
      have hpl : (lstP p).filter ((roundL kin (lstP p) (lstP p).reverse ([], 0)).1.contains ·) = lstP b := by
        unfold lstP
        rw [List.filter_filter]
        refine List.filter_congr fun x _ => ?_
        rw [Bool.eq_iff_iff, Bool.and_eq_true, List.contains_iff_mem]
        have := h1 x
        unfold lstP at this
        rw [this]
        exact ⟨fun h => h.1, fun h => ⟨h, B.le h⟩⟩
      have hfr : (roundL kin (lstP p) (lstP p).reverse ([], 0)).2 = rootN kin p b := by
        rw [h2, List.countP_reverse, Nat.zero_add]
        unfold lstP rootN cnt
        rw [List.countP_filter]
        refine List.countP_congr fun x _ => ?_
        rw [Bool.and_eq_true]
        constructor
        · exact fun h => h.1
        · intro h
          refine ⟨h, ?_⟩
          unfold rootB at h
          rw [Bool.and_eq_true] at h
          exact h.1
      have hpow : weight * 2 ^ cnt p = weight * 2 * 2 ^ (cnt p - 1) := by
        obtain ⟨m, hm⟩ : ∃ m, cnt p = m + 1 := ⟨cnt p - 1, by exact leq [_, _] [.eq (.a (.v 1) (.n 1)) (.v 0)] [-1] [1] (.v 0) (.a (.v 1) (.n 1)) (by exact yes) (by exact yes) (Nat.sub_add_cancel (lle [_, _] [.lt (.v 1) (.v 0)] [1] (.n 1) (.v 0) (by exact yes) hlt))⟩
        rw [hm, Nat.pow_succ, Nat.add_sub_cancel, Nat.mul_assoc, Nat.mul_comm 2]
      have hw2 : weight * 2 * 2 ^ cnt b ≤ 2 ^ 7 := by
        refine Nat.le_trans (Nat.mul_le_mul_left _ (Nat.pow_le_pow_right (by decide) (show cnt b ≤ cnt p - 1 by exact lle [_, _, _] [.lt (.v 0) (.v 2), .le (.v 2) (.a (.v 1) (.n 1))] [1, 1] (.v 0) (.v 1) (by exact yes) hlt (sbl _ _)))) ?_
        rw [← hpow]; exact hw
      have hw59 : weight < 2 ^ 59 := by
        have h1 : 1 ≤ 2 ^ cnt p := Nat.one_le_two_pow
        have h2 : weight * 1 ≤ weight * 2 ^ cnt p := Nat.mul_le_mul_left _ h1
        have : (2 : Nat) ^ 7 < 2 ^ 59 := by decide
        exact llt [_, _] [.le (.v 1) (.n 128), .le (.w (.v 0) 1) (.v 1)] [1, 1] (.v 0) (.n 576460752303423488) (by exact yes) hw h2
      rw [if_pos hw59, hpl, hfr, whites_spec F f (B.ok hok) hu (by exact llt [_, _, _] [.lt (.v 2) (.a (.v 1) (.n 1)), .lt (.v 0) (.v 2)] [1, 1] (.v 0) (.v 1) (by exact yes) hf hlt) hw2]
      congr 1
      rw [Nat.mul_add, Nat.mul_assoc, Nat.add_assoc]
    · have e : ∀ k, p k = false := fun k => bfalse.mpr fun h => hx ⟨k, h⟩
      rw [if_pos ((lst_nil hok).mpr e), hv.zero e, Nat.mul_zero, Nat.add_zero]
theorem whites_val (F : Fst par kin) {p : Pd} {v : Nat} (hok : Ok p) (hv : Val kin p v) : whitesF kin 64 (lstP p) 0 1 = some v := by
  have := whites_spec F 64 (worth := 0) (weight := 1) hok hv (by have := cnt7 p; exact llt [_] [.le (.v 0) (.n 7)] [1] (.v 0) (.n 64) (by exact yes) this) (by
    rw [Nat.one_mul]
    exact Nat.pow_le_pow_right (by decide) (cnt7 p))
  rw [this, Nat.zero_add, Nat.one_mul]
end
end Mine
end
section
open PySem PySem.W PyProof.Rows
namespace Mine
section
variable {par : Nat → Option Nat} {kin : Nat → List Nat}
/-- the climb reckons what is left -/
theorem climb_val (F : Fst par kin) {sm w : Nat → Nat} (hs : ∀ k, k < 7 → ∃ cs, IsKids par (some k) cs ∧ sm k = xorW w cs) (hw : ∀ c, c < 7 → Val kin (tree kin c) (w c)) {k j : Nat} : ∀ (f i acc : Nat), i < f → i < 7 → (i = j ∨ i ∈ kin j) → (k = i ∨ k ∈ kin i) → Val kin (del kin (tree kin i) j) acc →
    ∃ v, climbV par sm w k f i acc = some v ∧ Val kin (del kin (tree kin k) j) v
  | 0, _, _, h, _, _, _, _ => by exact (lif [_] [.lt (.v 0) (.n 0)] [1] (by exact yes) h).elim
  | f + 1, i, acc, hf, hi, hj, hk, hv => by
    unfold climbV
    by_cases hik : i = k
    · subst hik
      rw [if_pos rfl]
      exact ⟨acc, rfl, hv⟩
    · rw [if_neg hik]
      have hki : k ∈ kin i := hk.resolve_left fun e => hik e.symm
      cases hp : par i with
      | none => rw [F.kin0 hp] at hki; cases hki
      | some p =>
        have hpl := F.dn i p hp
        rw [F.kin1 hp] at hki
        have hkp : k = p ∨ k ∈ kin p := List.mem_cons.mp hki
        have hpi : p ∈ kin i := by rw [F.kin1 hp]; exact List.mem_cons_self ..
        obtain ⟨cs, hcs, hsm⟩ := hs p (by exact llt [_, _] [.lt (.v 1) (.n 7), .lt (.v 0) (.v 1)] [1, 1] (.v 0) (.n 7) (by exact yes) hi hpl)
        have himem : i ∈ cs := (hcs.2 i).mpr ⟨hi, hp⟩
        refine climb_val F hs hw f p _ (by exact llt [_, _, _] [.lt (.v 2) (.a (.v 1) (.n 1)), .lt (.v 0) (.v 2)] [1, 1] (.v 0) (.v 1) (by exact yes) hf hpl) (by exact llt [_, _] [.lt (.v 1) (.n 7), .lt (.v 0) (.v 1)] [1, 1] (.v 0) (.n 7) (by exact yes) hi hpl) (F.up_trans hj (.inr hpi)) hkp ?_
        rw [hsm, Nat.xor_assoc, ← xorW_erase w himem, F.del_up hp hcs hj]
        refine Val.or F 7 (cnt7 _) (del_ok (tree_ok i) j) (trees_ok _) ?_ hv (Val.trees F (fun c hc => hw c ((hcs.2 c).mp (List.mem_of_mem_erase hc)).1) ((F.kids_apart hcs).sublist List.erase_sublist))
        intro a b ha hb
        obtain ⟨c, hc, hb⟩ := trees_true.mp hb
        have hci : i ≠ c := by
          rintro rfl
          exact (List.Nodup.mem_erase_iff hcs.1).mp hc |>.1 rfl
        have hpc := ((hcs.2 c).mp (List.mem_of_mem_erase hc)).2
        refine F.sepTree (c := i) (c' := c) ⟨hci, fun e => ?_, fun e => ?_⟩ a b (del_le ha) hb
        · rw [F.kin1 hpc] at e
          have := F.lt p i
          rcases List.mem_cons.mp e with e | e
          · exact lif [_, _] [.lt (.v 0) (.v 1), .eq (.v 1) (.v 0)] [1, 1] (by exact yes) hpl e
          · have := this e; exact lif [_, _] [.lt (.v 0) (.v 1), .lt (.v 1) (.v 0)] [1, 1] (by exact yes) hpl this
        · have h2 := F.dn c p hpc
          rw [F.kin1 hp] at e
          rcases List.mem_cons.mp e with e | e
          · exact lif [_, _] [.lt (.v 0) (.v 1), .eq (.v 1) (.v 0)] [1, 1] (by exact yes) h2 e
          · have := F.lt p c e; exact lif [_, _] [.lt (.v 0) (.v 1), .lt (.v 1) (.v 0)] [1, 1] (by exact yes) h2 this
end
noncomputable abbrev Asc (s : List Nat) : Prop := s.Pairwise (· < ·)
theorem asc_split {s : List Nat} (x : Nat) (h : Asc s) : s = s.filter (fun y => decide (y < x)) ++ s.filter (fun y => !decide (y < x)) := by
  induction s with
  | nil => rfl
  | cons a s ih =>
    obtain ⟨h1, h2⟩ := List.pairwise_cons.mp h
    by_cases ha : a < x
    · rw [List.filter_cons_of_pos (by simpa using ha), List.filter_cons_of_neg (by simpa using ha), List.cons_append, ← ih h2]
    · have e : s.filter (fun y => decide (y < x)) = [] := by
        rw [List.filter_eq_nil_iff]
        intro y hy
        have := h1 y hy
        simp; exact lle [_, _, _] [.le (.v 0) (.v 2), .lt (.v 2) (.v 1)] [1, 1] (.v 0) (.v 1) (by exact yes) (Nat.le_of_not_lt ha) this
      have e2 : s.filter (fun y => !decide (y < x)) = s := by
        rw [List.filter_eq_self]
        intro y hy
        have := h1 y hy
        simp; exact lle [_, _, _] [.le (.v 0) (.v 2), .lt (.v 2) (.v 1)] [1, 1] (.v 0) (.v 1) (by exact yes) (Nat.le_of_not_lt ha) this
      rw [List.filter_cons_of_neg (by simpa using ha), List.filter_cons_of_pos (by simpa using ha), e, e2]; rfl
theorem asc_cut {s : List Nat} (x : Nat) (h : Asc s) : s.take (s.filter (fun y => decide (y < x))).length = s.filter (fun y => decide (y < x)) ∧ s.drop (s.filter (fun y => decide (y < x))).length = s.filter (fun y => !decide (y < x)) := by
  have e := asc_split x h
  generalize s.filter (fun y => decide (y < x)) = f at *
  generalize s.filter (fun y => !decide (y < x)) = g at *
  rw [e]
  exact ⟨List.take_left' rfl, List.drop_left' rfl⟩
theorem asc_at {s : List Nat} (x : Nat) (h : Asc s) {i : Nat} (hi : i < s.length) : decide (s.getD i 0 < x) = decide (i < (s.filter (fun y => decide (y < x))).length) := by
  obtain ⟨h1, h2⟩ := asc_cut x h
  rw [List.getD_eq_getElem?_getD, List.getElem?_eq_getElem hi]
  show decide (s[i] < x) = _
  by_cases hc : i < (s.filter (fun y => decide (y < x))).length
  · rw [decide_eq_true hc, decide_eq_true]
    have : s[i] ∈ s.filter (fun y => decide (y < x)) := by
      rw [← h1]
      exact List.mem_iff_getElem.mpr ⟨i, by rw [List.length_take]; exact Nat.lt_min.mpr ⟨hc, hi⟩, by rw [List.getElem_take]⟩
    simpa using (List.mem_filter.mp this).2
  · rw [decide_eq_false hc, decide_eq_false]
    have : s[i] ∈ s.filter (fun y => !decide (y < x)) := by
      rw [← h2]
      exact List.mem_iff_getElem.mpr ⟨i - (s.filter (fun y => decide (y < x))).length, by rw [List.length_drop]; exact llt [_, _, _, _, _] [.lt (.v 2) (.v 3), .eq (.a (.v 0) (.v 4)) (.v 2), .eq (.a (.v 1) (.v 4)) (.v 3)] [1, 1, -1] (.v 0) (.v 1) (by exact yes) hi (Nat.sub_add_cancel (lle [_, _] [.le (.v 0) (.v 1)] [1] (.v 0) (.v 1) (by exact yes) (Nat.le_of_not_lt hc))) (Nat.sub_add_cancel (lle [_, _, _] [.lt (.v 2) (.v 1), .le (.v 0) (.v 2)] [1, 1] (.v 0) (.v 1) (by exact yes) hi (Nat.le_of_not_lt hc))), by rw [List.getElem_drop]; congr 1; exact leq [_, _, _] [.eq (.a (.v 1) (.v 0)) (.v 2)] [1] [-1] (.a (.v 0) (.v 1)) (.v 2) (by exact yes) (by exact yes) (Nat.sub_add_cancel (lle [_, _] [.le (.v 0) (.v 1)] [1] (.v 0) (.v 1) (by exact yes) (Nat.le_of_not_lt hc)))⟩
    simpa using (List.mem_filter.mp this).2
theorem uL_eq {s : List Nat} {x : Nat} (h : Asc s) (hl : s.length ≤ 64) : uL x s = (s.filter (fun y => decide (y < x))).length := by
  unfold uL
  refine bisP_eq (fun i _ hi => asc_at x h hi) (Nat.zero_le _) (List.length_filter_le ..) ?_
  have : (64 : Nat) < 2 ^ 63 := by decide
  exact llt [_, _] [.le (.v 1) (.n 64), .le (.v 0) (.v 1)] [1, 1] (.v 0) (.n 9223372036854775808) (by exact yes) hl (Nat.sub_le _ _)
theorem uR_eq {s : List Nat} {x : Nat} (h : Asc s) (hl : s.length ≤ 64) : uR x s = (s.filter (fun y => decide (y < x + 1))).length := by
  unfold uR
  refine bisP_eq (fun i _ hi => ?_) (Nat.zero_le _) (List.length_filter_le ..) ?_
  · rw [← asc_at (x + 1) h hi, ← decide_not, decide_eq_decide]; exact ⟨fun hy => llt [_, _] [.le (.v 0) (.v 1)] [1] (.v 0) (.a (.v 1) (.n 1)) (by exact yes) (Nat.le_of_not_lt hy), fun hy => fun hz => lif [_, _] [.lt (.v 0) (.v 1), .lt (.v 1) (.a (.v 0) (.n 1))] [1, 1] (by exact yes) hz hy⟩
  · have : (64 : Nat) < 2 ^ 63 := by decide
    exact llt [_, _] [.le (.v 1) (.n 64), .le (.v 0) (.v 1)] [1, 1] (.v 0) (.n 9223372036854775808) (by exact yes) hl (Nat.sub_le _ _)
theorem filter_succ {s : List Nat} {x : Nat} (hx : x ∉ s) : s.filter (fun y => decide (y < x + 1)) = s.filter (fun y => decide (y < x)) := by
  refine List.filter_congr fun y hy => ?_
  rw [decide_eq_decide]
  have : y ≠ x := by rintro rfl; exact hx hy
  exact ⟨fun hy => llt [_, _] [.lt (.v 0) (.v 1)] [1] (.v 0) (.v 1) (by exact yes) (Nat.lt_of_le_of_ne (lle [_, _] [.lt (.v 0) (.a (.v 1) (.n 1))] [1] (.v 0) (.v 1) (by exact yes) hy) this), fun hy => llt [_, _] [.lt (.v 0) (.v 1)] [1] (.v 0) (.a (.v 1) (.n 1)) (by exact yes) hy⟩
theorem insU_spec {s : List Nat} {x : Nat} (h : Asc s) (hl : s.length ≤ 64) : Asc (insU x s) ∧ ∀ y, y ∈ insU x s ↔ y = x ∨ y ∈ s := by
  unfold insU
  rw [uL_eq h hl, uR_eq h hl]
  by_cases hx : x ∈ s
  · have hne : ¬ (s.filter (fun y => decide (y < x))).length = (s.filter (fun y => decide (y < x + 1))).length := by
      have h1 : (s.filter (fun y => decide (y < x))).length < (s.filter (fun y => decide (y < x + 1))).length := by
        have e : s.filter (fun y => decide (y < x)) = (s.filter (fun y => decide (y < x + 1))).filter (fun y => decide (y < x)) := by
          rw [List.filter_filter]
          refine List.filter_congr fun y _ => ?_
          rw [Bool.eq_iff_iff, Bool.and_eq_true, decide_eq_true_iff, decide_eq_true_iff]; exact ⟨fun hy => ⟨hy, llt [_, _] [.lt (.v 0) (.v 1)] [1] (.v 0) (.a (.v 1) (.n 1)) (by exact yes) hy⟩, fun hy => llt [_, _] [.lt (.v 0) (.v 1)] [1] (.v 0) (.v 1) (by exact yes) hy.1⟩
        rw [e]
        have : x ∈ s.filter (fun y => decide (y < x + 1)) := List.mem_filter.mpr ⟨hx, by simp⟩
        apply Classical.byContradiction
        intro hge
        have hle := List.length_filter_le (fun y => decide (y < x)) (s.filter (fun y => decide (y < x + 1)))
        have := List.length_filter_eq_length_iff.mp (show ((s.filter (fun y => decide (y < x + 1))).filter (fun y => decide (y < x))).length = (s.filter (fun y => decide (y < x + 1))).length by exact leq [_, _] [.le (.v 1) (.v 0), .le (.v 0) (.v 1)] [0, 1] [1, 0] (.v 0) (.v 1) (by exact yes) (by exact yes) (Nat.le_of_not_lt hge) hle) x this
        simp at this
      exact fun hz => lif [_, _] [.eq (.v 0) (.v 1), .lt (.v 0) (.v 1)] [-1, 1] (by exact yes) hz h1
    rw [if_neg hne]
    exact ⟨h, fun y => ⟨.inr, fun e => e.elim (fun e => e ▸ hx) id⟩⟩
  · rw [if_pos (by rw [filter_succ hx])]
    refine ⟨?_, fun y => mem_insAt⟩
    obtain ⟨h1, h2⟩ := asc_cut x h
    unfold insAt
    rw [h1, h2]
    refine List.pairwise_append.mpr ⟨h.sublist List.filter_sublist, List.pairwise_cons.mpr ⟨fun y hy => ?_, h.sublist List.filter_sublist⟩, fun a ha b hb => ?_⟩
    · obtain ⟨g1, g2⟩ := List.mem_filter.mp hy
      have : y ≠ x := by rintro rfl; exact hx g1
      simp at g2; exact llt [_, _] [.lt (.v 0) (.v 1)] [1] (.v 0) (.v 1) (by exact yes) (Nat.lt_of_le_of_ne (g2) (Ne.symm this))
    · have g1 := (List.mem_filter.mp ha).2
      simp at g1
      rcases List.mem_cons.mp hb with rfl | hb
      · exact g1
      · have g2 := (List.mem_filter.mp hb).2
        simp at g2; exact llt [_, _, _] [.lt (.v 0) (.v 2), .le (.v 2) (.v 1)] [1, 1] (.v 0) (.v 1) (by exact yes) g1 g2
theorem insU_len {s : List Nat} {x : Nat} : (insU x s).length ≤ s.length + 1 := by
  unfold insU
  split
  · rw [insAt_len]; exact Nat.le_refl _
  · exact lle [_] [] [] (.v 0) (.a (.v 0) (.n 1)) (by exact yes)
theorem seenU_spec (km : Nat → Nat → Bool) (lv : Nat → Nat → Nat) (k : Nat) : ∀ (js s : List Nat), Asc s → s.length + js.length ≤ 64 → Asc (seenU km lv k js s) ∧ ((seenU km lv k js s).length ≤ s.length + js.length) ∧ ∀ y, y ∈ seenU km lv k js s ↔ y ∈ s ∨ ∃ j ∈ js, (j = k ∨ km j k = true) ∧ y = lv k j
  | [], s, h, _ => ⟨h, Nat.le_refl _, fun y => by
      show y ∈ s ↔ _
      simp⟩
  | j :: js, s, h, hl => by
    rw [List.length_cons] at hl
    show Asc (seenU km lv k js (if j = k ∨ km j k = true then insU (lv k j) s else s)) ∧ ((seenU km lv k js (if j = k ∨ km j k = true then insU (lv k j) s else s)).length ≤ _) ∧ ∀ y, y ∈ seenU km lv k js (if j = k ∨ km j k = true then insU (lv k j) s else s) ↔ _
    by_cases hc : j = k ∨ km j k = true
    · rw [if_pos hc]
      obtain ⟨g1, g2⟩ := insU_spec (x := lv k j) h (by exact lle [_, _] [.le (.a (.v 0) (.a (.v 1) (.n 1))) (.n 64)] [1] (.v 0) (.n 64) (by exact yes) hl)
      have g3 := insU_len (s := s) (x := lv k j)
      obtain ⟨e1, e2, e3⟩ := seenU_spec km lv k js _ g1 (by exact lle [_, _, _] [.le (.a (.v 2) (.a (.v 1) (.n 1))) (.n 64), .le (.v 0) (.a (.v 2) (.n 1))] [1, 1] (.a (.v 0) (.v 1)) (.n 64) (by exact yes) hl g3)
      refine ⟨e1, by rw [List.length_cons]; exact lle [_, _, _, _] [.le (.v 3) (.a (.v 1) (.n 1)), .le (.v 0) (.a (.v 3) (.v 2))] [1, 1] (.v 0) (.a (.v 1) (.a (.v 2) (.n 1))) (by exact yes) g3 e2, fun y => ?_⟩
      rw [e3 y, g2 y]
      constructor
      · rintro ((h1 | h1) | ⟨i, h1, h2, h3⟩)
        · exact .inr ⟨j, List.mem_cons_self .., hc, h1⟩
        · exact .inl h1
        · exact .inr ⟨i, List.mem_cons_of_mem _ h1, h2, h3⟩
      · rintro (h1 | ⟨i, h1, h2, h3⟩)
        · exact .inl (.inr h1)
        · rcases List.mem_cons.mp h1 with rfl | h1
          · exact .inl (.inl h3)
          · exact .inr ⟨i, h1, h2, h3⟩
    · rw [if_neg hc]
      obtain ⟨e1, e2, e3⟩ := seenU_spec km lv k js s h (by exact lle [_, _] [.le (.a (.v 0) (.a (.v 1) (.n 1))) (.n 64)] [1] (.a (.v 0) (.v 1)) (.n 64) (by exact yes) hl)
      refine ⟨e1, by rw [List.length_cons]; exact lle [_, _, _] [.le (.v 0) (.a (.v 1) (.v 2))] [1] (.v 0) (.a (.v 1) (.a (.v 2) (.n 1))) (by exact yes) e2, fun y => ?_⟩
      rw [e3 y]
      constructor
      · rintro (h1 | ⟨i, h1, h2, h3⟩)
        · exact .inl h1
        · exact .inr ⟨i, List.mem_cons_of_mem _ h1, h2, h3⟩
      · rintro (h1 | ⟨i, h1, h2, h3⟩)
        · exact .inl h1
        · rcases List.mem_cons.mp h1 with rfl | h1
          · exact absurd h2 hc
          · exact .inr ⟨i, h1, h2, h3⟩
theorem asc_gap {s : List Nat} (h : Asc s) : ∀ {i j : Nat}, i ≤ j → j < s.length → s.getD i 0 + (j - i) ≤ s.getD j 0 := by
  intro i j hij hj
  induction j with
  | zero => obtain rfl : i = 0 := by exact leq [_] [.le (.v 0) (.n 0)] [1] [0] (.v 0) (.n 0) (by exact yes) (by exact yes) hij
            exact lle [_] [] [] (.a (.v 0) (.n 0)) (.v 0) (by exact yes)
  | succ j ih =>
    by_cases hc : i = j + 1
    · subst hc; exact lle [_, _, _] [.eq (.a (.v 1) (.a (.v 2) (.n 1))) (.a (.v 2) (.n 1))] [1] (.a (.v 0) (.v 1)) (.v 0) (by exact yes) (Nat.sub_add_cancel (lle [_] [] [] (.a (.v 0) (.n 1)) (.a (.v 0) (.n 1)) (by exact yes)))
    · have h1 := ih (by exact lle [_, _] [.lt (.v 0) (.a (.v 1) (.n 1))] [1] (.v 0) (.v 1) (by exact yes) (Nat.lt_of_le_of_ne (hij) hc)) (by exact llt [_, _] [.lt (.a (.v 0) (.n 1)) (.v 1)] [1] (.v 0) (.v 1) (by exact yes) hj)
      have h2 := List.pairwise_iff_getElem.mp h j (j + 1) (by exact llt [_, _] [.lt (.a (.v 0) (.n 1)) (.v 1)] [1] (.v 0) (.v 1) (by exact yes) hj) hj (by exact llt [_] [] [] (.v 0) (.a (.v 0) (.n 1)) (by exact yes))
      rw [List.getD_eq_getElem?_getD (i := j + 1), List.getElem?_eq_getElem hj]
      rw [List.getD_eq_getElem?_getD (i := j), List.getElem?_eq_getElem (show j < s.length by exact llt [_, _] [.lt (.a (.v 0) (.n 1)) (.v 1)] [1] (.v 0) (.v 1) (by exact yes) hj)] at h1
      show _ ≤ s[j + 1]
      rw [Nat.succ_sub (Nat.le_of_lt_succ (Nat.lt_of_le_of_ne hij hc))]
      exact Nat.lt_of_le_of_lt h1 h2
/-- the least number lacking -/
theorem lack_spec {s : List Nat} (h : Asc s) (hl : s.length ≤ 64) {v : Nat} (hv : ∀ t, t < v → t ∈ s) (hn : v ∉ s) : lackL s = v := by
  have hat : ∀ i, i < v → i < s.length ∧ s.getD i 0 = i := by
    intro i
    induction i using Nat.strongRecOn with
    | ind i ih =>
      intro hi
      obtain ⟨m, hm, e⟩ := List.mem_iff_getElem.mp (hv i hi)
      have hmi : i ≤ m := by
        apply Classical.byContradiction
        intro hc
        have := (ih m (by exact llt [_, _] [.lt (.v 0) (.v 1)] [1] (.v 0) (.v 1) (by exact yes) (Nat.lt_of_not_le hc)) (by exact llt [_, _, _] [.lt (.v 2) (.v 1), .lt (.v 0) (.v 2)] [1, 1] (.v 0) (.v 1) (by exact yes) hi (Nat.lt_of_not_le hc))).2
        rw [List.getD_eq_getElem?_getD, List.getElem?_eq_getElem hm] at this
        have : s[m] = m := this
        exact lif [_, _, _] [.eq (.v 0) (.v 1), .lt (.v 2) (.v 1), .eq (.v 0) (.v 2)] [-1, 1, 1] (by exact yes) e (Nat.lt_of_not_le hc) this
      have hlen : i < s.length := by exact llt [_, _, _] [.lt (.v 2) (.v 1), .le (.v 0) (.v 2)] [1, 1] (.v 0) (.v 1) (by exact yes) hm hmi
      refine ⟨hlen, ?_⟩
      have h1 := asc_gap h (i := i) (j := m) hmi hm
      have h2 := asc_gap h (i := 0) (j := i) (Nat.zero_le _) hlen
      rw [List.getD_eq_getElem?_getD (i := m), List.getElem?_eq_getElem hm] at h1
      have h1 : s.getD i 0 + (m - i) ≤ s[m] := h1
      exact leq [_, _, _, _, _, _] [.eq (.v 2) (.v 1), .le (.a (.v 3) (.v 4)) (.v 0), .le (.a (.v 0) (.v 5)) (.v 2), .le (.v 1) (.a (.v 4) (.n 0))] [1, 0, 1, 0] [0, 1, 0, 1] (.v 0) (.v 1) (by exact yes) (by exact yes) e h2 h1 (sbl _ _)
  have hle : v ≤ s.length := by
    cases v with
    | zero => exact lle [_] [] [] (.n 0) (.v 0) (by exact yes)
    | succ v => have := (hat v (by exact llt [_] [] [] (.v 0) (.a (.v 0) (.n 1)) (by exact yes))).1; exact lle [_, _] [.lt (.v 0) (.v 1)] [1] (.a (.v 0) (.n 1)) (.v 1) (by exact yes) this
  unfold lackL
  refine bisP_eq (fun i _ hi => ?_) (Nat.zero_le _) hle ?_
  · rw [← decide_not, decide_eq_decide]
    constructor
    · intro hc
      apply Classical.byContradiction
      intro hge
      have hvl : v < s.length := by exact llt [_, _, _] [.lt (.v 2) (.v 1), .le (.v 0) (.v 2)] [1, 1] (.v 0) (.v 1) (by exact yes) hi (Nat.le_of_not_lt hge)
      have h1 := asc_gap h (i := 0) (j := v) (Nat.zero_le _) hvl
      have h2 : s.getD v 0 ≠ v := by
        intro e
        apply hn
        rw [← e, List.getD_eq_getElem?_getD, List.getElem?_eq_getElem hvl]
        exact List.getElem_mem _
      have h3 := asc_gap h (i := v) (j := i) (by exact lle [_, _] [.le (.v 0) (.v 1)] [1] (.v 0) (.v 1) (by exact yes) (Nat.le_of_not_lt hge)) hi
      have h4 := Nat.lt_of_le_of_ne (Nat.le_trans (Nat.le_add_left _ _) h1) (Ne.symm h2)
      have h5 : i ≤ (i - v) + v := sbl _ _
      omega
    · intro hc
      have := (hat i hc).2
      omega
  · have : (64 : Nat) < 2 ^ 63 := by decide
    exact llt [_, _] [.le (.v 1) (.n 64), .le (.v 0) (.v 1)] [1, 1] (.v 0) (.n 9223372036854775808) (by exact yes) hl (Nat.sub_le _ _)
end Mine
end
section
open PySem PySem.W PyProof.Rows
namespace Mine
theorem kirr (a : List Nat) : ¬ a < a := List.lt_irrefl a
theorem ktr {a b c : List Nat} (h1 : a < b) (h2 : b < c) : a < c := List.lt_trans h1 h2
theorem ktot {a b : List Nat} (h1 : ¬ a < b) (h2 : ¬ b < a) : a = b := List.le_antisymm (List.not_lt.mp h2) (List.not_lt.mp h1)
section
variable {α : Type}
theorem cut_split {P : α → Bool} : ∀ {l : List α}, l.Pairwise (fun a b => P b = true → P a = true) → l = l.filter P ++ l.filter (fun y => !P y)
  | [], _ => rfl
  | a :: l, h => by
    obtain ⟨h1, h2⟩ := List.pairwise_cons.mp h
    cases ha : P a with
    | true =>
      rw [List.filter_cons_of_pos ha, List.filter_cons_of_neg (by rw [ha]; decide), List.cons_append, ← cut_split h2]
    | false =>
      have e : l.filter P = [] := by
        rw [List.filter_eq_nil_iff]
        intro y hy hp
        have := h1 y hy hp
        rw [ha] at this; cases this
      have e2 : l.filter (fun y => !P y) = l := by
        rw [List.filter_eq_self]
        intro y hy
        cases hp : P y with
        | false => rfl
        | true => have := h1 y hy hp; rw [ha] at this; cases this
      rw [List.filter_cons_of_neg (by rw [ha]; decide), List.filter_cons_of_pos (by rw [ha]; rfl), e, e2]; rfl
theorem cut_take {P : α → Bool} {l : List α} (h : l.Pairwise (fun a b => P b = true → P a = true)) : l.take (l.filter P).length = l.filter P ∧ l.drop (l.filter P).length = l.filter (fun y => !P y) := by
  have e := cut_split h
  generalize l.filter P = f at *
  generalize l.filter (fun y => !P y) = g at *
  rw [e]
  exact ⟨List.take_left' rfl, List.drop_left' rfl⟩
theorem cut_at {P : α → Bool} {l : List α} (h : l.Pairwise (fun a b => P b = true → P a = true)) (d : α) {i : Nat} (hi : i < l.length) : P (l.getD i d) = decide (i < (l.filter P).length) := by
  obtain ⟨h1, h2⟩ := cut_take h
  rw [List.getD_eq_getElem?_getD, List.getElem?_eq_getElem hi]
  show P l[i] = _
  by_cases hc : i < (l.filter P).length
  · rw [decide_eq_true hc]
    have : l[i] ∈ l.filter P := by
      rw [← h1]
      exact List.mem_iff_getElem.mpr ⟨i, by rw [List.length_take]; exact Nat.lt_min.mpr ⟨hc, hi⟩, by rw [List.getElem_take]⟩
    exact (List.mem_filter.mp this).2
  · rw [decide_eq_false hc]
    have : l[i] ∈ l.filter (fun y => !P y) := by
      rw [← h2]
      exact List.mem_iff_getElem.mpr ⟨i - (l.filter P).length, by rw [List.length_drop]; exact llt [_, _, _, _, _] [.lt (.v 2) (.v 3), .eq (.a (.v 0) (.v 4)) (.v 2), .eq (.a (.v 1) (.v 4)) (.v 3)] [1, 1, -1] (.v 0) (.v 1) (by exact yes) hi (Nat.sub_add_cancel (lle [_, _] [.le (.v 0) (.v 1)] [1] (.v 0) (.v 1) (by exact yes) (Nat.le_of_not_lt hc))) (Nat.sub_add_cancel (lle [_, _, _] [.lt (.v 2) (.v 1), .le (.v 0) (.v 2)] [1, 1] (.v 0) (.v 1) (by exact yes) hi (Nat.le_of_not_lt hc))), by rw [List.getElem_drop]; congr 1; exact leq [_, _, _] [.eq (.a (.v 1) (.v 0)) (.v 2)] [1] [-1] (.a (.v 0) (.v 1)) (.v 2) (by exact yes) (by exact yes) (Nat.sub_add_cancel (lle [_, _] [.le (.v 0) (.v 1)] [1] (.v 0) (.v 1) (by exact yes) (Nat.le_of_not_lt hc)))⟩
    simpa using (List.mem_filter.mp this).2
theorem bis_cut {P : α → Bool} {l : List α} (h : l.Pairwise (fun a b => P b = true → P a = true)) (d : α) (hl : l.length ≤ 64) {lo : Nat} (hlo : lo ≤ (l.filter P).length) : bisP (fun i => P (l.getD i d)) 63 lo l.length = (l.filter P).length := by
  refine bisP_eq (fun i _ hi => cut_at h d hi) hlo (List.length_filter_le ..) ?_
  have : (64 : Nat) < 2 ^ 63 := by decide
  exact llt [_, _] [.le (.v 1) (.n 64), .le (.v 0) (.v 1)] [1, 1] (.v 0) (.n 9223372036854775808) (by exact yes) hl (Nat.sub_le _ _)
theorem ins_cut {P : α → Bool} {l : List α} (h : l.Pairwise (fun a b => P b = true → P a = true)) (x : α) : insAt (l.filter P).length x l = l.filter P ++ x :: l.filter (fun y => !P y) := by
  obtain ⟨h1, h2⟩ := cut_take h
  unfold insAt
  rw [h1, h2]
variable (f : α → List Nat)
noncomputable abbrev SrtF (l : List α) : Prop := l.Pairwise (fun a b => ¬ f b < f a)
/-- ahead of its likes; behind its likes -/
noncomputable def insLF (x : α) (l : List α) : List α := l.filter (fun y => decide (f y < f x)) ++ x :: l.filter (fun y => !decide (f y < f x))
noncomputable def insRF (x : α) (l : List α) : List α := l.filter (fun y => !decide (f x < f y)) ++ x :: l.filter (fun y => !!decide (f x < f y))
variable {f}
theorem srt_lt {l : List α} (h : SrtF f l) (k : List Nat) : l.Pairwise (fun a b => decide (f b < k) = true → decide (f a < k) = true) :=
  h.imp fun {a b} hab hb => by
    have hb := of_decide_eq_true hb
    refine decide_eq_true ?_
    apply Classical.byContradiction
    intro hc
    by_cases e : k < f a
    · exact hab (ktr hb e)
    · have := ktot hc e
      rw [← this] at hb
      exact hab hb
theorem srt_le {l : List α} (h : SrtF f l) (k : List Nat) : l.Pairwise (fun a b => (!decide (k < f b)) = true → (!decide (k < f a)) = true) :=
  h.imp fun {a b} hab hb => by
    simp only [Bool.not_eq_true', decide_eq_false_iff_not] at hb ⊢
    intro hc
    by_cases e : f b < k
    · exact hab (ktr e hc)
    · have := ktot hb e
      rw [this] at hc
      exact hab hc
theorem insLF_srt {l : List α} (h : SrtF f l) (x : α) : SrtF f (insLF f x l) := by
  refine List.pairwise_append.mpr ⟨h.sublist List.filter_sublist, List.pairwise_cons.mpr ⟨fun y hy => ?_, h.sublist List.filter_sublist⟩, fun a ha b hb => ?_⟩
  · have := (List.mem_filter.mp hy).2
    simpa using this
  · have ha := of_decide_eq_true (List.mem_filter.mp ha).2
    rcases List.mem_cons.mp hb with rfl | hb
    · exact fun e => kirr _ (ktr ha e)
    · have hb := (List.mem_filter.mp hb).2
      simp only [Bool.not_eq_true', decide_eq_false_iff_not] at hb
      exact fun e => hb (ktr e ha)
theorem insRF_srt {l : List α} (h : SrtF f l) (x : α) : SrtF f (insRF f x l) := by
  refine List.pairwise_append.mpr ⟨h.sublist List.filter_sublist, List.pairwise_cons.mpr ⟨fun y hy => ?_, h.sublist List.filter_sublist⟩, fun a ha b hb => ?_⟩
  · have := (List.mem_filter.mp hy).2
    simp only [Bool.not_not, decide_eq_true_eq] at this
    exact fun e => kirr _ (ktr this e)
  · have ha := (List.mem_filter.mp ha).2
    simp only [Bool.not_eq_true', decide_eq_false_iff_not] at ha
    rcases List.mem_cons.mp hb with rfl | hb
    · exact ha
    · have hb := (List.mem_filter.mp hb).2
      simp only [Bool.not_not, decide_eq_true_eq] at hb
      exact fun e => ha (ktr hb e)
theorem mem_insLF {x y : α} {l : List α} : y ∈ insLF f x l ↔ y = x ∨ y ∈ l := by
  unfold insLF
  rw [List.mem_append, List.mem_cons, List.mem_filter, List.mem_filter]
  cases decide (f y < f x) <;> simp <;> constructor <;> intro h <;> first | (rcases h with h | h <;> simp [h]) | skip
theorem filter_filter' (P Q : α → Bool) (l : List α) : (l.filter Q).filter P = l.filter (fun y => P y && Q y) := List.filter_filter ..
/-- ahead and behind do not meet -/
theorem ins_comm (a b : α) (l : List α) : insLF f a (insRF f b l) = insRF f b (insLF f a l) := by
  by_cases h : f b < f a
  · have e1 : ∀ y, (decide (f y < f a) && !decide (f b < f y)) = !decide (f b < f y) := fun y => by
      by_cases hy : f b < f y
      · simp [hy]
      · simp only [hy, decide_false, Bool.not_false, Bool.and_true, decide_eq_true_eq]
        by_cases e : f y < f b
        · exact ktr e h
        · rw [← ktot hy e]; exact h
    have e2 : ∀ y, (!decide (f y < f a) && !decide (f b < f y)) = false := fun y => by
      have := e1 y
      cases h1 : decide (f y < f a) <;> cases h2 : decide (f b < f y) <;> simp_all
    have nb : ¬ (¬ f b < f a) := fun hx => hx h
    unfold insLF insRF
    simp only [List.filter_append, List.filter_cons, filter_filter', h, decide_true, Bool.not_true, Bool.not_false, if_true, Bool.false_eq_true, if_false]
    have g1 : (l.filter fun y => decide (f y < f a) && !decide (f b < f y)) = l.filter fun y => !decide (f b < f y) := List.filter_congr fun y _ => e1 y
    have g2 : (l.filter fun y => !decide (f y < f a) && !decide (f b < f y)) = [] := List.filter_eq_nil_iff.mpr fun y _ => by rw [e2 y]; decide
    have g3 : (l.filter fun y => !decide (f b < f y) && decide (f y < f a)) = l.filter fun y => !decide (f b < f y) := List.filter_congr fun y _ => by rw [Bool.and_comm]; exact e1 y
    have g4 : (l.filter fun y => !decide (f b < f y) && !decide (f y < f a)) = [] := List.filter_eq_nil_iff.mpr fun y _ => by rw [Bool.and_comm, e2 y]; decide
    have g5 : (l.filter fun y => decide (f y < f a) && !!decide (f b < f y)) = l.filter fun y => !!decide (f b < f y) && decide (f y < f a) := List.filter_congr fun y _ => Bool.and_comm ..
    have g6 : (l.filter fun y => !decide (f y < f a) && !!decide (f b < f y)) = l.filter fun y => !!decide (f b < f y) && !decide (f y < f a) := List.filter_congr fun y _ => Bool.and_comm ..
    rw [g1, g2, g3, g4, g5, g6]
    simp
  · have e1 : ∀ y, (decide (f y < f a) && !decide (f b < f y)) = decide (f y < f a) := fun y => by
      by_cases hy : f y < f a
      · simp only [hy, decide_true, Bool.true_and, Bool.not_eq_true', decide_eq_false_iff_not]
        intro e
        exact h (ktr e hy)
      · simp [hy]
    have e2 : ∀ y, (decide (f y < f a) && decide (f b < f y)) = false := fun y => by
      have := e1 y
      cases h1 : decide (f y < f a) <;> cases h2 : decide (f b < f y) <;> simp_all
    unfold insLF insRF
    simp only [List.filter_append, List.filter_cons, filter_filter', h, decide_false, Bool.not_true, Bool.not_false, if_true, Bool.false_eq_true, if_false, Bool.not_not]
    have g1 : (l.filter fun y => decide (f y < f a) && !decide (f b < f y)) = l.filter fun y => decide (f y < f a) := List.filter_congr fun y _ => e1 y
    have g2 : (l.filter fun y => decide (f y < f a) && decide (f b < f y)) = [] := List.filter_eq_nil_iff.mpr fun y _ => by rw [e2 y]; decide
    have g3 : (l.filter fun y => !decide (f b < f y) && decide (f y < f a)) = l.filter fun y => decide (f y < f a) := List.filter_congr fun y _ => by rw [Bool.and_comm]; exact e1 y
    have g4 : (l.filter fun y => decide (f b < f y) && decide (f y < f a)) = [] := List.filter_eq_nil_iff.mpr fun y _ => by rw [Bool.and_comm, e2 y]; decide
    have g5 : (l.filter fun y => !decide (f y < f a) && !decide (f b < f y)) = l.filter fun y => !decide (f b < f y) && !decide (f y < f a) := List.filter_congr fun y _ => Bool.and_comm ..
    have g6 : (l.filter fun y => !decide (f y < f a) && decide (f b < f y)) = l.filter fun y => decide (f b < f y) && !decide (f y < f a) := List.filter_congr fun y _ => Bool.and_comm ..
    rw [g1, g2, g3, g4, g5, g6]
    simp
theorem ins_nil (x : α) : insRF f x [] = insLF f x [] := rfl
/-- of those put ahead or behind in turn, the order told at once -/
theorem pile_order (a0 a1 a2 a3 a4 a5 a6 : α) : insLF f a0 (insRF f a1 (insLF f a2 (insRF f a3 (insLF f a4 (insRF f a5 (insLF f a6 [])))))) =
    insLF f a0 (insLF f a2 (insLF f a4 (insLF f a6 (insLF f a5 (insLF f a3 (insLF f a1 [])))))) := by
  simp only [← ins_comm]
  simp only [ins_nil, ← ins_comm]
end
end Mine
end
section
open PySem PySem.W PyProof.Rows
namespace Mine
noncomputable abbrev keyP (p : Pc) : List Nat := reachL p.2
theorem insK_eq {nmf : Nat → List Nat} {w : Nat → Nat} {k : Nat} {l : List Pc} (h : SrtF keyP l) (hl : l.length ≤ 64) : insK nmf w k l = if k % 2 = 0 then insLF keyP (pieceN nmf w k) l else insRF keyP (pieceN nmf w k) l := by
  unfold insK
  by_cases hk : k % 2 = 0
  · rw [if_pos hk, if_pos hk]
    have e : pLB (pieceN nmf w k) l = (l.filter (fun y => decide (keyP y < keyP (pieceN nmf w k)))).length :=
      bis_cut (P := fun y => decide (keyP y < keyP (pieceN nmf w k))) (srt_lt h _) ([], []) hl (Nat.zero_le _)
    rw [e, ins_cut (srt_lt h _)]; rfl
  · rw [if_neg hk, if_neg hk]
    have e : pRB (pieceN nmf w k) l = (l.filter (fun y => !decide (keyP (pieceN nmf w k) < keyP y))).length :=
      bis_cut (P := fun y => !decide (keyP (pieceN nmf w k) < keyP y)) (srt_le h _) ([], []) hl (Nat.zero_le _)
    rw [e, ins_cut (srt_le h _)]; rfl
theorem pile_srt (nmf : Nat → List Nat) (w : Nat → Nat) : ∀ t, t ≤ 7 → SrtF keyP (pileT nmf w t)
  | 0, _ => .nil
  | t + 1, ht => by
    have ih := pile_srt nmf w t (by exact lle [_] [.le (.a (.v 0) (.n 1)) (.n 7)] [1] (.v 0) (.n 7) (by exact yes) ht)
    show SrtF keyP (insK nmf w (6 - t) (pileT nmf w t))
    rw [insK_eq ih (by rw [pile_len]; exact lle [_] [.le (.a (.v 0) (.n 1)) (.n 7)] [1] (.v 0) (.n 64) (by exact yes) ht)]
    split
    · exact insLF_srt ih _
    · exact insRF_srt ih _
theorem pile_step (nmf : Nat → List Nat) (w : Nat → Nat) {t : Nat} (ht : t < 7) : pileT nmf w (t + 1) = if (6 - t) % 2 = 0 then insLF keyP (pieceN nmf w (6 - t)) (pileT nmf w t) else insRF keyP (pieceN nmf w (6 - t)) (pileT nmf w t) :=
  insK_eq (pile_srt nmf w t (by exact lle [_] [.lt (.v 0) (.n 7)] [1] (.v 0) (.n 7) (by exact yes) ht)) (by rw [pile_len]; exact lle [_] [.lt (.v 0) (.n 7)] [1] (.v 0) (.n 64) (by exact yes) ht)
/-- the pile, told at once -/
theorem pile_all (nmf : Nat → List Nat) (w : Nat → Nat) : pileT nmf w 7 = insLF keyP (pieceN nmf w 0) (insLF keyP (pieceN nmf w 2) (insLF keyP (pieceN nmf w 4) (insLF keyP (pieceN nmf w 6) (insLF keyP (pieceN nmf w 5) (insLF keyP (pieceN nmf w 3) (insLF keyP (pieceN nmf w 1) [])))))) := by
  rw [← pile_order]
  rw [pile_step nmf w (t := 6) (by decide), if_pos (by decide), pile_step nmf w (t := 5) (by decide), if_neg (by decide), pile_step nmf w (t := 4) (by decide), if_pos (by decide), pile_step nmf w (t := 3) (by decide), if_neg (by decide),
    pile_step nmf w (t := 2) (by decide), if_pos (by decide), pile_step nmf w (t := 1) (by decide), if_neg (by decide), pile_step nmf w (t := 0) (by decide), if_pos (by decide)]
  rfl
theorem filter_len {α : Type} {A M : α → Bool} (h : ∀ x, A x = true → M x = true) (l : List α) : (l.filter M).length = (l.filter A).length + (l.filter (fun x => M x && !A x)).length := by
  induction l with
  | nil => rfl
  | cons a l ih =>
    cases hA : A a with
    | true =>
      have hM := h a hA
      rw [List.filter_cons_of_pos hM, List.filter_cons_of_pos hA, List.filter_cons_of_neg (by rw [hA]; simp), List.length_cons, List.length_cons, ih]; exact leq [_, _] [] [] [] (.a (.a (.v 0) (.v 1)) (.n 1)) (.a (.a (.v 0) (.n 1)) (.v 1)) (by exact yes) (by exact yes)
    | false =>
      cases hM : M a with
      | true => rw [List.filter_cons_of_pos hM, List.filter_cons_of_neg (by rw [hA]; decide), List.filter_cons_of_pos (by rw [hA, hM]; rfl), List.length_cons, List.length_cons, ih]; exact leq [_, _] [] [] [] (.a (.a (.v 0) (.v 1)) (.n 1)) (.a (.v 0) (.a (.v 1) (.n 1))) (by exact yes) (by exact yes)
      | false => rw [List.filter_cons_of_neg (by rw [hM]; decide), List.filter_cons_of_neg (by rw [hA]; decide), List.filter_cons_of_neg (by rw [hM]; simp), ih]
theorem slice_eq {l : List Pc} (h : SrtF keyP l) (hl : l.length ≤ 64) (dom : List Nat) : sliceL l dom = l.filter (fun p => keyP p == dom) := by
  have e1 : lowB l dom = (l.filter (fun p => decide (keyP p < dom))).length := bis_cut (P := fun p => decide (keyP p < dom)) (srt_lt h dom) ([], []) hl (Nat.zero_le _)
  have hAM : ∀ p : Pc, decide (keyP p < dom) = true → (!decide (dom < keyP p)) = true := fun p hp => by
    have hp := of_decide_eq_true hp
    simp only [Bool.not_eq_true', decide_eq_false_iff_not]
    exact fun e => kirr _ (ktr hp e)
  have hlen := filter_len hAM l
  have e2 : highB l dom = (l.filter (fun p => !decide (dom < keyP p))).length := by
    unfold highB
    rw [e1]
    exact bis_cut (P := fun p => !decide (dom < keyP p)) (srt_le h dom) ([], []) hl (by exact lle [_, _, _] [.eq (.v 1) (.a (.v 0) (.v 2))] [-1] (.v 0) (.v 1) (by exact yes) hlen)
  have heq : ∀ p : Pc, ((!decide (dom < keyP p)) && !decide (keyP p < dom)) = (keyP p == dom) := fun p => by
    rw [Bool.eq_iff_iff, Bool.and_eq_true, beq_iff_eq]
    simp only [Bool.not_eq_true', decide_eq_false_iff_not]
    constructor
    · rintro ⟨h1, h2⟩; exact ktot h2 h1
    · intro e; rw [e]; exact ⟨kirr _, kirr _⟩
  have hf : (l.filter (fun p => (!decide (dom < keyP p)) && !decide (keyP p < dom))) = l.filter (fun p => keyP p == dom) := List.filter_congr fun p _ => heq p
  rw [hf] at hlen
  unfold sliceL
  rw [e2, e1, (cut_take (srt_lt h dom)).2]
  have hs2 : SrtF keyP (l.filter (fun p => !decide (keyP p < dom))) := h.sublist List.filter_sublist
  have h3 := (cut_take (srt_le hs2 dom)).1
  rw [List.filter_filter, hf] at h3
  rw [show (l.filter (fun p => !decide (dom < keyP p))).length - (l.filter (fun p => decide (keyP p < dom))).length = (l.filter (fun p => keyP p == dom)).length by exact leq [_, _, _, _] [.eq (.v 2) (.a (.v 3) (.v 1)), .eq (.a (.v 0) (.v 3)) (.v 2)] [1, 1] [-1, -1] (.v 0) (.v 1) (by exact yes) (by exact yes) hlen (Nat.sub_add_cancel (lle [_, _, _] [.eq (.v 1) (.a (.v 0) (.v 2))] [-1] (.v 0) (.v 1) (by exact yes) hlen))]
  exact h3
/-- the hosts of the pile -/
noncomputable def hT (nmf : Nat → List Nat) : Nat → List Nat
  | 0 => []
  | t + 1 => if (6 - t) % 2 = 0 then insLF (fun k => reachL (nmf k)) (6 - t) (hT nmf t) else insRF (fun k => reachL (nmf k)) (6 - t) (hT nmf t)
theorem ins_map {nmf : Nat → List Nat} {w : Nat → Nat} (x : Nat) (l : List Nat) : (insLF (fun k => reachL (nmf k)) x l).map (pieceN nmf w) = insLF keyP (pieceN nmf w x) (l.map (pieceN nmf w)) ∧ (insRF (fun k => reachL (nmf k)) x l).map (pieceN nmf w) = insRF keyP (pieceN nmf w x) (l.map (pieceN nmf w)) := by
  unfold insLF insRF
  simp only [List.map_append, List.map_cons, List.filter_map]
  exact ⟨rfl, rfl⟩
theorem hT_map (nmf : Nat → List Nat) (w : Nat → Nat) : ∀ t, t ≤ 7 → (hT nmf t).map (pieceN nmf w) = pileT nmf w t
  | 0, _ => rfl
  | t + 1, ht => by
    rw [pile_step nmf w (by exact llt [_] [.le (.a (.v 0) (.n 1)) (.n 7)] [1] (.v 0) (.n 7) (by exact yes) ht), ← hT_map nmf w t (by exact lle [_] [.le (.a (.v 0) (.n 1)) (.n 7)] [1] (.v 0) (.n 7) (by exact yes) ht)]
    show (if (6 - t) % 2 = 0 then insLF (fun k => reachL (nmf k)) (6 - t) (hT nmf t) else insRF (fun k => reachL (nmf k)) (6 - t) (hT nmf t)).map (pieceN nmf w) = _
    split
    · exact (ins_map _ _).1
    · exact (ins_map _ _).2
theorem insF_perm {α : Type} {f : α → List Nat} (x : α) (l : List α) : (insLF f x l).Perm (x :: l) ∧ (insRF f x l).Perm (x :: l) := by
  unfold insLF insRF
  exact ⟨List.perm_middle.trans ((List.filter_append_perm _ l).cons x), List.perm_middle.trans ((List.filter_append_perm _ l).cons x)⟩
theorem hT_spec (nmf : Nat → List Nat) : ∀ t, t ≤ 7 → (hT nmf t).Nodup ∧ ∀ k, k ∈ hT nmf t ↔ 7 - t ≤ k ∧ k < 7
  | 0, _ => ⟨.nil, fun k => by
      constructor
      · intro h; cases h
      · omega⟩
  | t + 1, ht => by
    obtain ⟨h1, h2⟩ := hT_spec nmf t (by exact lle [_] [.le (.a (.v 0) (.n 1)) (.n 7)] [1] (.v 0) (.n 7) (by exact yes) ht)
    have hp : (hT nmf (t + 1)).Perm ((6 - t) :: hT nmf t) := by
      show (if (6 - t) % 2 = 0 then insLF (fun k => reachL (nmf k)) (6 - t) (hT nmf t) else insRF (fun k => reachL (nmf k)) (6 - t) (hT nmf t)).Perm _
      split
      · exact (insF_perm _ _).1
      · exact (insF_perm _ _).2
    refine ⟨hp.nodup_iff.mpr (List.nodup_cons.mpr ⟨fun h => ?_, h1⟩), fun k => ?_⟩
    · have := (h2 _).mp h; exact lif [_, _, _] [.le (.v 0) (.v 1), .eq (.a (.v 0) (.v 2)) (.n 7), .eq (.a (.v 1) (.v 2)) (.n 6)] [1, -1, 1] (by exact yes) this.1 (Nat.sub_add_cancel (lle [_] [.le (.a (.v 0) (.n 1)) (.n 7)] [1] (.v 0) (.n 7) (by exact yes) ht)) (Nat.sub_add_cancel (lle [_] [.le (.a (.v 0) (.n 1)) (.n 7)] [1] (.v 0) (.n 6) (by exact yes) ht))
    · rw [hp.mem_iff, List.mem_cons, h2, show 7 - (t + 1) = 6 - t from Nat.add_sub_add_right 6 1 t, show 7 - t = 6 - t + 1 from Nat.succ_sub (Nat.le_of_succ_le_succ ht)]
      exact ⟨fun h => h.elim (fun e => by rw [e]; exact ⟨Nat.le_refl _, Nat.lt_succ_of_le (Nat.sub_le _ _)⟩) fun h => ⟨Nat.le_of_succ_le h.1, h.2⟩, fun h => (Nat.eq_or_lt_of_le h.1).imp Eq.symm fun hx => ⟨hx, h.2⟩⟩
theorem xorL_map {nmf : Nat → List Nat} {w : Nat → Nat} (cs : List Nat) : xorL (cs.map (pieceN nmf w)) = xorW w cs := by
  unfold xorL
  have : ∀ (cs : List Nat) (a : Nat), (cs.map (pieceN nmf w)).foldl (fun w p => w ^^^ p.1.length) a = a ^^^ xorW w cs := by
    intro cs
    induction cs with
    | nil => intro a; show a = a ^^^ 0; rw [Nat.xor_zero]
    | cons c cs ih =>
      intro a
      rw [List.map_cons, List.foldl_cons, ih]
      show a ^^^ (List.replicate (w c) 32).length ^^^ xorW w cs = a ^^^ (w c ^^^ xorW w cs)
      rw [List.length_replicate, Nat.xor_assoc]
  rw [this, Nat.zero_xor]
theorem slice_kids {nmf : Nat → List Nat} {w : Nat → Nat} {t : Nat} (ht : t ≤ 7) (dom : List Nat) : xorL (sliceL (pileT nmf w t) dom) = xorW w ((hT nmf t).filter (fun c => reachL (nmf c) == dom)) := by
  rw [slice_eq (pile_srt nmf w t ht) (by rw [pile_len]; exact lle [_] [.le (.v 0) (.n 7)] [1] (.v 0) (.n 64) (by exact yes) ht), ← hT_map nmf w t ht, List.filter_map, xorL_map]
  rfl
section
variable {par : Nat → Option Nat} {kin : Nat → List Nat} {nmf : Nat → List Nat} {w : Nat → Nat}
theorem sum_kids (F : Fst par kin) (dom : ∀ i k, i < 7 → k < 7 → (reachL (nmf i) = 46 :: nmf k ↔ par i = some k)) {k : Nat} (hk : k < 7) : ∃ cs, IsKids par (some k) cs ∧ sumV nmf w k = xorW w cs := by
  obtain ⟨h1, h2⟩ := hT_spec nmf (6 - k) (by exact lle [_] [.le (.v 0) (.n 6)] [1] (.v 0) (.n 7) (by exact yes) (Nat.sub_le _ _))
  refine ⟨(hT nmf (6 - k)).filter (fun c => reachL (nmf c) == 46 :: nmf k), ⟨h1.filter _, fun c => ?_⟩, slice_kids (by exact lle [_] [.le (.v 0) (.n 6)] [1] (.v 0) (.n 7) (by exact yes) (Nat.sub_le _ _)) _⟩
  rw [List.mem_filter, h2, beq_iff_eq]
  constructor
  · rintro ⟨⟨g1, g2⟩, g3⟩; exact ⟨g2, (dom c k g2 hk).mp g3⟩
  · rintro ⟨g1, g2⟩
    have := F.dn c k g2
    exact ⟨⟨by exact lle [_, _, _, _] [.lt (.v 2) (.v 1), .eq (.a (.v 0) (.v 3)) (.n 7), .le (.n 6) (.a (.v 3) (.v 2))] [1, 1, 1] (.v 0) (.v 1) (by exact yes) this (Nat.sub_add_cancel (lle [_] [.le (.v 0) (.n 6)] [1] (.v 0) (.n 7) (by exact yes) (Nat.sub_le _ _))) (sbl _ _), g1⟩, (dom c k g1 hk).mpr g2⟩
theorem gar_mk (F : Fst par kin) (len : ∀ k, k < 7 → (nmf k).length ≤ 200) (inj : ∀ i j, i < 7 → j < 7 → nmf i = nmf j → i = j) (dom : ∀ i k, i < 7 → k < 7 → (reachL (nmf i) = 46 :: nmf k ↔ par i = some k))
    (hw : ∀ k, k < 7 → Val kin (tree kin k) (w k)) : Gar nmf par (fun j k => (kin j).contains k) w := by
  have hs : ∀ k, k < 7 → ∃ cs, IsKids par (some k) cs ∧ sumV nmf w k = xorW w cs := fun k hk => sum_kids F dom hk
  have hcl : ∀ k j, j < 7 → (k = j ∨ k ∈ kin j) → climbV par (sumV nmf w) w k 64 j (sumV nmf w j) = some (leftV par (sumV nmf w) w k j) ∧ Val kin (del kin (tree kin k) j) (leftV par (sumV nmf w) w k j) := by
    intro k j hj hkj
    obtain ⟨cs, hcs, hsm⟩ := hs j hj
    have h0 : Val kin (del kin (tree kin j) j) (sumV nmf w j) := by
      rw [F.del_own hcs, hsm]
      exact Val.trees F (fun c hc => hw c ((hcs.2 c).mp hc).1) (F.kids_apart hcs)
    obtain ⟨v, e, hv⟩ := climb_val F hs hw (k := k) (j := j) 64 j (sumV nmf w j) (by exact llt [_] [.lt (.v 0) (.n 7)] [1] (.v 0) (.n 64) (by exact yes) hj) hj (.inl rfl) hkj h0
    unfold leftV
    rw [e]
    exact ⟨rfl, hv⟩
  have hlack : ∀ k, k < 7 → w k = lackL (seenU (fun j k => (kin j).contains k) (leftV par (sumV nmf w) w) k ((List.range 7).drop k) []) ∧ w k ≤ 64 := by
    intro k hk
    obtain ⟨h1, h2, h3⟩ := seenU_spec (fun j k => (kin j).contains k) (leftV par (sumV nmf w) w) k ((List.range 7).drop k) [] .nil (by simp; exact lle [_] [] [] (.n 7) (.a (.n 64) (.v 0)) (by exact yes))
    obtain ⟨g1, g2⟩ := (hw k hk).game F (tree_ok k)
    have hlen : (seenU (fun j k => (kin j).contains k) (leftV par (sumV nmf w) w) k ((List.range 7).drop k) []).length ≤ 64 := Nat.le_trans h2 (by simp; exact lle [_] [] [] (.n 7) (.a (.n 64) (.v 0)) (by exact yes))
    have hin : ∀ t, t < w k → t ∈ seenU (fun j k => (kin j).contains k) (leftV par (sumV nmf w) w) k ((List.range 7).drop k) [] := by
      intro t ht
      obtain ⟨j, hj, hv⟩ := g2 t ht
      obtain ⟨hj7, hkj⟩ := tree_true.mp hj
      have := (hcl k j hj7 hkj).2
      refine (h3 t).mpr (.inr ⟨j, ?_, ?_, hv.det F (del_ok (tree_ok k) j) this⟩)
      · rw [List.mem_drop_iff_getElem]
        have hkle : k ≤ j := by
          rcases hkj with rfl | h
          · exact Nat.le_refl _
          · have := F.lt j k h; exact lle [_, _] [.lt (.v 0) (.v 1)] [1] (.v 0) (.v 1) (by exact yes) this
        exact ⟨j - k, by rw [List.length_range]; exact llt [_, _, _] [.lt (.v 2) (.n 7), .eq (.a (.v 0) (.v 1)) (.v 2)] [1, 1] (.a (.v 0) (.v 1)) (.n 7) (by exact yes) hj7 (Nat.sub_add_cancel (hkle)), by rw [List.getElem_range]; exact leq [_, _, _] [.eq (.a (.v 1) (.v 0)) (.v 2)] [1] [-1] (.a (.v 0) (.v 1)) (.v 2) (by exact yes) (by exact yes) (Nat.sub_add_cancel (hkle))⟩
      · rcases hkj with rfl | h
        · exact .inl rfl
        · exact .inr (List.contains_iff_mem.mpr h)
    have hout : w k ∉ seenU (fun j k => (kin j).contains k) (leftV par (sumV nmf w) w) k ((List.range 7).drop k) [] := by
      intro hm
      rcases (h3 _).mp hm with h | ⟨j, hj, hc, e⟩
      · cases h
      · have hj7 : j < 7 := List.mem_range.mp (List.mem_of_mem_drop hj)
        have hkj : k = j ∨ k ∈ kin j := by
          rcases hc with rfl | h
          · exact .inl rfl
          · exact .inr (List.contains_iff_mem.mp h)
        exact g1 j _ (tree_true.mpr ⟨hj7, hkj⟩) (hcl k j hj7 hkj).2 e.symm
    have hl := lack_spec h1 hlen hin hout
    refine ⟨hl.symm, ?_⟩
    rw [← hl]
    exact Nat.le_trans (bisP_le (Nat.zero_le _)).1 hlen
  exact {
    len := len
    inj := inj
    up := fun i p hi hp => ⟨F.dn i p hp, (dom i p hi (by have := F.dn i p hp; exact llt [_, _] [.lt (.v 1) (.n 7), .lt (.v 0) (.v 1)] [1, 1] (.v 0) (.n 7) (by exact yes) hi this)).mpr hp⟩
    small := fun k hk => (hlack k hk).2
    climb := fun k j hk hj hkj hc => ⟨(hcl k j hj (by
      rcases hc with rfl | h
      · exact .inl rfl
      · exact .inr (List.contains_iff_mem.mp h))).1, hkj⟩
    lack := fun k hk => (hlack k hk).1 }
end
end Mine
end
section
open PySem PySem.W PyProof.Rows
namespace Mine
noncomputable abbrev Fact := Nat × Nat × Bool
noncomputable def pLe (fs : List Fact) : Nat → Nat → Nat → Bool
  | 0, x, y => x == y
  | k + 1, x, y => x == y || fs.any fun f => if f.2.2 then f.1 == x && pLe fs k f.2.1 y else f.2.1 == x && pLe fs k f.1 y
noncomputable def pLt (fs : List Fact) (k : Nat) (x y : Nat) : Bool := fs.any fun f => f.2.2 && (pLe fs k x f.1 && pLe fs k f.2.1 y)
noncomputable def goodLeaf (n k : Nat) (m : Nat) (p : List Nat) (fs : List Fact) : Bool :=
  (((p.take m).zip ((p.take m).drop 1)).all fun (x, y) => if x < y then pLe fs k x y else pLt fs k x y) && (p.drop m == (List.range n).drop m && ((p.take m).all (fun x => decide (x < m)) && (p.length == n && (decide (0 < m) && (decide (m ≤ n) && p.isPerm (List.range n))))))
noncomputable def contra (k : Nat) (fs : List Fact) : Bool := fs.any fun f => f.2.2 && pLe fs k f.2.1 f.1
noncomputable def okT (n k : Nat) : KasT (Nat × Array Nat) → List Fact → Bool
  | .ret (m, p), fs => goodLeaf n k m p.toList fs || contra k fs
  | .ask i j t, fs => okT n k (t true) ((i, j, true) :: fs) && okT n k (t false) ((i, j, false) :: fs)
theorem t7 : okT 7 5 (kas_count 7 (List.toArray (List.range 7))) [] = true := by decide +kernel
section
variable (key : Nat → List Nat)
/-- the order of a stable sort -/
noncomputable def prec (a b : Nat) : Prop := key a < key b ∨ (key a = key b ∧ a < b)
noncomputable def FsOK (fs : List Fact) : Prop := ∀ f ∈ fs, decide (key f.1 < key f.2.1) = f.2.2
variable {key}
theorem kle_tr {a b c : List Nat} (h1 : ¬ b < a) (h2 : ¬ c < b) : ¬ c < a := by
  intro h
  by_cases e : a < b
  · exact h2 (ktr h e)
  · rw [ktot e h1] at h; exact h2 h
theorem pLe_sound {fs : List Fact} (h : FsOK key fs) : ∀ {k x y : Nat}, pLe fs k x y = true → ¬ key y < key x
  | 0, x, y, e => by
    have := eq_of_beq (show (x == y) = true from e)
    rw [this]; exact kirr _
  | k + 1, x, y, e => by
    unfold pLe at e
    rw [Bool.or_eq_true] at e
    rcases e with e | e
    · rw [eq_of_beq e]; exact kirr _
    · obtain ⟨f, hf, e⟩ := List.any_eq_true.mp e
      have hv := h f hf
      cases hb : f.2.2 with
      | true =>
        rw [hb] at e hv
        rw [if_pos rfl, Bool.and_eq_true] at e
        have h1 := eq_of_beq e.1
        have h2 := pLe_sound h e.2
        have h3 := of_decide_eq_true hv
        rw [h1] at h3
        exact kle_tr (fun e => kirr _ (ktr e h3)) h2
      | false =>
        rw [hb] at e hv
        rw [if_neg (by decide), Bool.and_eq_true] at e
        have h1 := eq_of_beq e.1
        have h2 := pLe_sound h e.2
        have h3 := of_decide_eq_false hv
        rw [h1] at h3
        exact kle_tr h3 h2
theorem klt_le {a b c : List Nat} (h1 : a < b) (h2 : ¬ c < b) : a < c := by
  by_cases e : b < c
  · exact ktr h1 e
  · rw [← ktot e h2]; exact h1
theorem kle_lt {a b c : List Nat} (h1 : ¬ b < a) (h2 : b < c) : a < c := by
  by_cases e : a < b
  · exact ktr e h2
  · rw [ktot e h1]; exact h2
theorem pLt_sound {fs : List Fact} (h : FsOK key fs) {k x y : Nat} (e : pLt fs k x y = true) : key x < key y := by
  obtain ⟨f, hf, e⟩ := List.any_eq_true.mp e
  rw [Bool.and_eq_true, Bool.and_eq_true] at e
  have hv := h f hf
  rw [e.1] at hv
  exact klt_le (kle_lt (pLe_sound h e.2.1) (of_decide_eq_true hv)) (pLe_sound h e.2.2)
theorem prec_tr {a b c : Nat} (h1 : prec key a b) (h2 : prec key b c) : prec key a c := by
  rcases h1 with h1 | ⟨h1, h1'⟩ <;> rcases h2 with h2 | ⟨h2, h2'⟩
  · exact .inl (ktr h1 h2)
  · exact .inl (h2 ▸ h1)
  · exact .inl (h1 ▸ h2)
  · exact .inr ⟨h1.trans h2, Nat.lt_trans h1' h2'⟩
theorem zip_pair : ∀ {l : List Nat}, (∀ x ∈ l.zip (l.drop 1), prec key x.1 x.2) → l.Pairwise (prec key)
  | [], _ => .nil
  | [a], _ => List.pairwise_singleton ..
  | a :: b :: l, h => by
    have h1 : prec key a b := h (a, b) (by simp)
    have h2 : (b :: l).Pairwise (prec key) := zip_pair fun x hx => h x (by
      show x ∈ (a :: b :: l).zip (b :: l)
      rw [List.zip_cons_cons]
      exact List.mem_cons_of_mem _ hx)
    refine List.pairwise_cons.mpr ⟨fun y hy => ?_, h2⟩
    rcases List.mem_cons.mp hy with rfl | hy
    · exact h1
    · exact prec_tr h1 ((List.pairwise_cons.mp h2).1 y hy)
/-- what the first part of the sort leaves -/
structure PrK (key : Nat → List Nat) (n m : Nat) (p : Array Nat) : Prop where
  size : p.size = n
  le : 0 < m ∧ m ≤ n
  srt : (p.toList.take m).Pairwise (prec key)
  low : ∀ x ∈ p.toList.take m, x < m
  rest : p.toList.drop m = (List.range n).drop m
  perm : p.toList.Perm (List.range n)
theorem ok_sound {n k : Nat} : ∀ {t : KasT (Nat × Array Nat)} {fs : List Fact}, okT n k t fs = true → FsOK key fs → PrK key n (runK (fun i j => decide (key i < key j)) t).1 (runK (fun i j => decide (key i < key j)) t).2
  | .ret (m, p), fs, h, hf => by
    have h : (goodLeaf n k m p.toList fs || contra k fs) = true := h
    rw [Bool.or_eq_true] at h
    rcases h with h | h
    · unfold goodLeaf at h
      simp only [Bool.and_eq_true, beq_iff_eq, decide_eq_true_eq] at h
      obtain ⟨h1, h2, h3, h4, h5, h6, h7⟩ := h
      refine ⟨by rw [← Array.length_toList]; exact h4, ⟨h5, h6⟩, zip_pair fun x hx => ?_, fun x hx => of_decide_eq_true (List.all_eq_true.mp h3 x hx), h2, List.isPerm_iff.mp h7⟩
      have := List.all_eq_true.mp h1 x hx
      obtain ⟨a, b⟩ := x
      simp only at this
      split at this
      · rename_i hab
        have hle := pLe_sound hf this
        by_cases e : key a < key b
        · exact .inl e
        · exact .inr ⟨ktot e hle, hab⟩
      · exact .inl (pLt_sound hf this)
    · obtain ⟨f, hff, e⟩ := List.any_eq_true.mp h
      rw [Bool.and_eq_true] at e
      have hv := hf f hff
      rw [e.1] at hv
      exact absurd (of_decide_eq_true hv) (pLe_sound hf e.2)
  | .ask i j t, fs, h, hf => by
    have h : (okT n k (t true) ((i, j, true) :: fs) && okT n k (t false) ((i, j, false) :: fs)) = true := h
    rw [Bool.and_eq_true] at h
    show PrK key n (runK _ (t (decide (key i < key j)))).1 (runK _ (t (decide (key i < key j)))).2
    cases hd : decide (key i < key j) with
    | true => exact ok_sound h.1 (fun f hx => by
        rcases List.mem_cons.mp hx with rfl | hx
        · exact hd
        · exact hf f hx)
    | false => exact ok_sound h.2 (fun f hx => by
        rcases List.mem_cons.mp hx with rfl | hx
        · exact hd
        · exact hf f hx)
end
end Mine
end
section
open PySem PySem.W PyProof.Rows
namespace Mine
section
variable {key : Nat → List Nat}
theorem runK_bind {α β : Type} (lt : Nat → Nat → Bool) (f : α → KasT β) : ∀ t : KasT α, runK lt (t.bind f) = runK lt (f (runK lt t))
  | .ret _ => rfl
  | .ask i j t => runK_bind lt f (t (lt i j))
theorem place_run {p : Array Nat} {k : Nat} : ∀ (f l r c : Nat), (∀ i, l ≤ i → i < r → (key (p.getD k 0) < key (p.getD i 0) ↔ c ≤ i)) → l ≤ c → c ≤ r → r - l ≤ f → runK (fun i j => decide (key i < key j)) (kas_place p k f l r) = c
  | 0, l, r, c, _, h1, h2, h3 => by
    show l = c
    exact leq [_, _, _, _] [.le (.v 0) (.v 1), .le (.v 1) (.v 2), .le (.v 3) (.n 0), .le (.v 2) (.a (.v 3) (.v 0))] [1, 0, 0, 0] [0, 1, 1, 1] (.v 0) (.v 1) (by exact yes) (by exact yes) h1 h2 h3 (sbl _ _)
  | f + 1, l, r, c, h, h1, h2, h3 => by
    unfold kas_place
    split
    · show l = c
      exact leq [_, _, _] [.le (.v 0) (.v 1), .le (.v 1) (.v 2), .le (.v 2) (.v 0)] [1, 0, 0] [0, 1, 1] (.v 0) (.v 1) (by exact yes) (by exact yes) h1 h2 (‹l ≥ r›)
    · have hm := h ((l + r) / 2) (by exact lle2 [_, _, _, _] [.lt (.v 0) (.v 2), .eq (.a (.m 2 (.v 1)) (.v 3)) (.a (.v 0) (.v 2)), .lt (.v 3) (.n 2)] [1, -1, 1] (.v 0) (.v 1) (by exact yes) (Nat.lt_of_not_le ‹¬l ≥ r›) (Nat.div_add_mod _ 2) (Nat.mod_lt _ (by decide))) (by exact llt2 [_, _, _, _] [.lt (.v 2) (.v 1), .eq (.a (.m 2 (.v 0)) (.v 3)) (.a (.v 2) (.v 1))] [1, 1] (.v 0) (.v 1) (by exact yes) (Nat.lt_of_not_le ‹¬l ≥ r›) (Nat.div_add_mod _ 2))
      show runK _ (if decide (key (p.getD k 0) < key (p.getD ((l + r) / 2) 0)) = true then kas_place p k f l ((l + r) / 2) else kas_place p k f ((l + r) / 2 + 1) r) = c
      by_cases hc : c ≤ (l + r) / 2
      · rw [if_pos (decide_eq_true (hm.mpr hc))]
        exact place_run f l _ c (fun i g1 g2 => h i g1 (by exact llt [_, _, _, _, _] [.le (.v 2) (.v 0), .lt (.v 0) (.v 3), .eq (.a (.m 2 (.v 3)) (.v 4)) (.a (.v 2) (.v 1))] [1, 2, 1] (.v 0) (.v 1) (by exact yes) g1 g2 (Nat.div_add_mod _ 2))) h1 hc (by exact Nat.sub_le_of_le_add (lle2 [_, _, _, _, _, _] [.le (.v 3) (.a (.v 1) (.n 1)), .eq (.a (.m 2 (.v 0)) (.v 4)) (.a (.v 2) (.v 5)), .le (.v 5) (.a (.v 3) (.v 2))] [1, 1, 1] (.v 0) (.a (.v 1) (.v 2)) (by exact yes) h3 (Nat.div_add_mod _ 2) (sbl _ _)))
      · rw [if_neg (fun e => hc (hm.mp (of_decide_eq_true e)))]
        exact place_run f _ r c (fun i g1 g2 => h i (by exact lle [_, _, _, _, _] [.le (.a (.v 2) (.n 1)) (.v 1), .lt (.v 1) (.v 3), .eq (.a (.m 2 (.v 2)) (.v 4)) (.a (.v 0) (.v 3)), .lt (.v 4) (.n 2)] [2, 1, -1, 1] (.v 0) (.v 1) (by exact yes) g1 g2 (Nat.div_add_mod _ 2) (Nat.mod_lt _ (by decide))) g2) (by exact lle [_, _] [.lt (.v 0) (.v 1)] [1] (.a (.v 0) (.n 1)) (.v 1) (by exact yes) (Nat.lt_of_not_le hc)) h2 (by exact Nat.sub_le_of_le_add (lle2 [_, _, _, _, _, _] [.le (.v 3) (.a (.v 1) (.n 1)), .eq (.a (.m 2 (.v 2)) (.v 4)) (.a (.v 5) (.v 0)), .lt (.v 4) (.n 2), .le (.v 0) (.a (.v 3) (.v 5))] [1, -1, 1, 1] (.v 0) (.a (.v 1) (.a (.v 2) (.n 1))) (by exact yes) h3 (Nat.div_add_mod _ 2) (Nat.mod_lt _ (by decide)) (sbl _ _)))
theorem prec_le {a b : Nat} (h : prec key a b) : ¬ key b < key a := by
  rcases h with h | ⟨h, _⟩
  · exact fun e => kirr _ (ktr h e)
  · rw [h]; exact kirr _
theorem bin_step {n k : Nat} {p : Array Nat} (hk : k < n) (P : PrK key n k p) : PrK key n (k + 1) (bubble p k (k - runK (fun i j => decide (key i < key j)) (kas_place p k k 0 k))) := by
  obtain ⟨hsz, ⟨hk0, _⟩, hsrt, hlow, hrest, hperm⟩ := P
  have hlen : p.toList.length = n := by rw [Array.length_toList]; exact hsz
  obtain ⟨L, hL⟩ : ∃ L, L = p.toList.take k := ⟨_, rfl⟩
  have hLl : L.length = k := by rw [hL, List.length_take]; exact leq [_, _] [.eq (.v 0) (.v 1)] [1] [-1] (.v 0) (.v 1) (by exact yes) (by exact yes) (Nat.min_eq_left (lle [_, _, _] [.le (.v 0) (.v 2), .eq (.v 1) (.v 2)] [1, -1] (.v 0) (.v 1) (by exact yes) (‹k ≤ n›) hlen))
  have hge : ∀ i, k ≤ i → p[i]? = (List.range n)[i]? := fun i hi => by
    have := congrArg (fun l => l[i - k]?) hrest
    simp only [List.getElem?_drop] at this
    rw [show k + (i - k) = i by exact leq [_, _, _] [.eq (.a (.v 1) (.v 0)) (.v 2)] [1] [-1] (.a (.v 0) (.v 1)) (.v 2) (by exact yes) (by exact yes) (Nat.sub_add_cancel (hi))] at this
    rw [← Array.getElem?_toList]; exact this
  have hlt : ∀ i, i < k → p[i]? = L[i]? := fun i hi => by rw [hL, List.getElem?_take_of_lt hi, Array.getElem?_toList]
  have hpk : p[k]? = some k := by rw [hge k (Nat.le_refl _), List.getElem?_range hk]
  have gk : p.getD k 0 = k := by rw [Array.getD_eq_getD_getElem?, hpk]; rfl
  rw [← hL] at hsrt hlow
  have hcut : L.Pairwise (fun a b => (!decide (key k < key b)) = true → (!decide (key k < key a)) = true) := hsrt.imp fun {a b} hab hb => by
    simp only [Bool.not_eq_true', decide_eq_false_iff_not] at hb ⊢
    exact kle_tr (prec_le hab) hb
  obtain ⟨c, hc⟩ : ∃ c, c = (L.filter (fun x => !decide (key k < key x))).length := ⟨_, rfl⟩
  have hck : c ≤ k := by rw [hc, ← hLl]; exact List.length_filter_le ..
  have hplace : runK (fun i j => decide (key i < key j)) (kas_place p k k 0 k) = c := by
    refine place_run k 0 k c (fun i _ hi => ?_) (Nat.zero_le _) hck (by exact lle [_, _] [.le (.v 0) (.v 1)] [1] (.v 0) (.v 1) (by exact yes) (Nat.sub_le _ _))
    have := cut_at hcut 0 (i := i) (by exact llt [_, _, _] [.eq (.v 1) (.v 2), .lt (.v 0) (.v 2)] [-1, 1] (.v 0) (.v 1) (by exact yes) hLl hi)
    rw [← hc] at this
    have gi : p.getD i 0 = L.getD i 0 := by rw [Array.getD_eq_getD_getElem?, hlt i hi, List.getD_eq_getElem?_getD]
    rw [gk, gi]
    constructor
    · intro h
      rw [decide_eq_true h] at this
      have := of_decide_eq_false this.symm
      exact lle [_, _] [.le (.v 0) (.v 1)] [1] (.v 0) (.v 1) (by exact yes) (Nat.le_of_not_lt this)
    · intro h
      rw [decide_eq_false (show ¬ i < c by exact fun hz => lif [_, _] [.lt (.v 0) (.v 1), .le (.v 1) (.v 0)] [1, 1] (by exact yes) hz h)] at this
      simpa using this
  rw [hplace]
  have hnew : (bubble p k (k - c)).toList = insAt c k L ++ (List.range n).drop (k + 1) := by
    apply List.ext_getElem?
    intro i
    rw [Array.getElem?_toList, getElem?_bubble (by exact llt [_, _, _] [.lt (.v 0) (.v 2), .eq (.v 1) (.v 2)] [1, -1] (.v 0) (.v 1) (by exact yes) hk hsz) (k - c) (by exact lle [_, _] [.le (.v 0) (.v 1)] [1] (.v 0) (.v 1) (by exact yes) (Nat.sub_le _ _)) i, show k - (k - c) = c by exact leq [_, _, _, _] [.eq (.a (.v 0) (.v 2)) (.v 3), .eq (.a (.v 2) (.v 1)) (.v 3)] [1, -1] [-1, 1] (.v 0) (.v 1) (by exact yes) (by exact yes) (Nat.sub_add_cancel (lle [_, _] [.le (.v 0) (.v 1)] [1] (.v 0) (.v 1) (by exact yes) (Nat.sub_le _ _))) (Nat.sub_add_cancel (hck))]
    unfold insAt
    have htl : (L.take c).length = c := by rw [List.length_take]; exact leq [_, _] [.eq (.v 0) (.v 1)] [1] [-1] (.v 0) (.v 1) (by exact yes) (by exact yes) (Nat.min_eq_left (lle [_, _, _] [.eq (.v 1) (.v 2), .le (.v 0) (.v 2)] [-1, 1] (.v 0) (.v 1) (by exact yes) hLl hck))
    by_cases h1 : i < c
    · rw [if_neg (by exact fun hz => lif [_, _] [.eq (.v 0) (.v 1), .lt (.v 0) (.v 1)] [-1, 1] (by exact yes) hz h1), if_neg (by exact fun hz => lif [_, _] [.lt (.v 0) (.v 1), .lt (.v 1) (.v 0)] [1, 1] (by exact yes) hz.1 h1), List.getElem?_append_left (by simp; exact llt [_, _, _, _] [.lt (.v 0) (.v 3), .eq (.v 1) (.v 3)] [1, -1] (.v 0) (.a (.v 1) (.a (.v 2) (.n 1))) (by exact yes) h1 (Nat.min_eq_left (lle [_, _, _] [.eq (.v 1) (.v 2), .le (.v 0) (.v 2)] [-1, 1] (.v 0) (.v 1) (by exact yes) hLl hck))), List.getElem?_append_left (by exact llt [_, _, _] [.eq (.v 1) (.v 2), .lt (.v 0) (.v 2)] [-1, 1] (.v 0) (.v 1) (by exact yes) htl h1), List.getElem?_take_of_lt h1, hlt i (by exact llt [_, _, _] [.le (.v 2) (.v 1), .lt (.v 0) (.v 2)] [1, 1] (.v 0) (.v 1) (by exact yes) hck h1)]
    · by_cases h2 : i = c
      · subst h2
        rw [if_pos rfl, hpk, List.getElem?_append_left (by simp; exact llt [_, _, _] [.eq (.v 1) (.v 0)] [-1] (.v 0) (.a (.v 1) (.a (.v 2) (.n 1))) (by exact yes) (Nat.min_eq_left (lle [_, _, _] [.eq (.v 1) (.v 2), .le (.v 0) (.v 2)] [-1, 1] (.v 0) (.v 1) (by exact yes) hLl hck))), List.getElem?_append_right (by exact lle [_, _] [.eq (.v 0) (.v 1)] [1] (.v 0) (.v 1) (by exact yes) htl), htl, Nat.sub_self]; rfl
      · rw [if_neg h2]
        by_cases h3 : i ≤ k
        · rw [if_pos ⟨by exact llt [_, _] [.lt (.v 0) (.v 1)] [1] (.v 0) (.v 1) (by exact yes) (Nat.lt_of_le_of_ne (lle [_, _] [.le (.v 0) (.v 1)] [1] (.v 0) (.v 1) (by exact yes) (Nat.le_of_not_lt h1)) (Ne.symm h2)), h3⟩, List.getElem?_append_left (by simp; exact llt [_, _, _, _, _, _] [.eq (.v 3) (.v 4), .le (.v 0) (.v 4), .eq (.v 1) (.v 5), .eq (.a (.v 2) (.v 5)) (.v 3)] [-1, 1, -1, -1] (.v 0) (.a (.v 1) (.a (.v 2) (.n 1))) (by exact yes) hLl h3 (Nat.min_eq_left (lle [_, _, _] [.eq (.v 1) (.v 2), .le (.v 0) (.v 2)] [-1, 1] (.v 0) (.v 1) (by exact yes) hLl hck)) (Nat.sub_add_cancel (lle [_, _, _] [.eq (.v 1) (.v 2), .le (.v 0) (.v 2)] [-1, 1] (.v 0) (.v 1) (by exact yes) hLl hck))), List.getElem?_append_right (by exact lle [_, _, _] [.eq (.v 0) (.v 2), .le (.v 2) (.v 1)] [1, 1] (.v 0) (.v 1) (by exact yes) htl (Nat.le_of_not_lt h1)), htl, show i - c = (i - c - 1) + 1 by exact leq [_, _] [.eq (.a (.v 1) (.n 1)) (.v 0)] [-1] [1] (.v 0) (.a (.v 1) (.n 1)) (by exact yes) (by exact yes) (Nat.sub_add_cancel (lle [_, _, _] [.lt (.v 1) (.v 2), .le (.v 2) (.a (.v 0) (.v 1))] [1, 1] (.n 1) (.v 0) (by exact yes) (Nat.lt_of_le_of_ne (lle [_, _] [.le (.v 0) (.v 1)] [1] (.v 0) (.v 1) (by exact yes) (Nat.le_of_not_lt h1)) (Ne.symm h2)) (sbl _ _))), List.getElem?_cons_succ, List.getElem?_drop, hlt (i - 1) (by exact llt [_, _, _] [.le (.v 2) (.v 1), .eq (.a (.v 0) (.n 1)) (.v 2)] [1, 1] (.v 0) (.v 1) (by exact yes) h3 (Nat.sub_add_cancel (lle [_, _] [.lt (.v 1) (.v 0)] [1] (.n 1) (.v 0) (by exact yes) (Nat.lt_of_le_of_ne (lle [_, _] [.le (.v 0) (.v 1)] [1] (.v 0) (.v 1) (by exact yes) (Nat.le_of_not_lt h1)) (Ne.symm h2)))))]
          congr 1; exact leq [_, _, _, _, _] [.eq (.a (.v 0) (.n 1)) (.v 3), .eq (.a (.v 2) (.n 1)) (.v 4), .eq (.a (.v 4) (.v 1)) (.v 3)] [1, -1, -1] [-1, 1, 1] (.v 0) (.a (.v 1) (.v 2)) (by exact yes) (by exact yes) (Nat.sub_add_cancel (lle [_, _] [.lt (.v 1) (.v 0)] [1] (.n 1) (.v 0) (by exact yes) (Nat.lt_of_le_of_ne (lle [_, _] [.le (.v 0) (.v 1)] [1] (.v 0) (.v 1) (by exact yes) (Nat.le_of_not_lt h1)) (Ne.symm h2)))) (Nat.sub_add_cancel (lle [_, _, _] [.lt (.v 1) (.v 2), .le (.v 2) (.a (.v 0) (.v 1))] [1, 1] (.n 1) (.v 0) (by exact yes) (Nat.lt_of_le_of_ne (lle [_, _] [.le (.v 0) (.v 1)] [1] (.v 0) (.v 1) (by exact yes) (Nat.le_of_not_lt h1)) (Ne.symm h2)) (sbl _ _))) (Nat.sub_add_cancel (lle [_, _] [.le (.v 0) (.v 1)] [1] (.v 0) (.v 1) (by exact yes) (Nat.le_of_not_lt h1)))
        · have hil : (L.take c ++ k :: L.drop c).length = k + 1 := by rw [List.length_append, List.length_cons, htl, List.length_drop, hLl]; exact leq [_, _, _] [.eq (.a (.v 1) (.v 0)) (.v 2)] [1] [-1] (.a (.v 0) (.a (.v 1) (.n 1))) (.a (.v 2) (.n 1)) (by exact yes) (by exact yes) (Nat.sub_add_cancel (hck))
          rw [if_neg (by exact fun hz => lif [_, _] [.le (.v 0) (.v 1), .lt (.v 1) (.v 0)] [1, 1] (by exact yes) hz.2 (Nat.lt_of_not_le h3)), List.getElem?_append_right (by exact lle [_, _, _] [.lt (.v 2) (.v 1), .eq (.v 0) (.a (.v 2) (.n 1))] [1, 1] (.v 0) (.v 1) (by exact yes) (Nat.lt_of_not_le h3) hil), hil, List.getElem?_drop, hge i (by exact lle [_, _] [.lt (.v 0) (.v 1)] [1] (.v 0) (.v 1) (by exact yes) (Nat.lt_of_not_le h3))]
          congr 1; exact leq [_, _, _] [.eq (.a (.v 2) (.a (.v 1) (.n 1))) (.v 0)] [-1] [1] (.v 0) (.a (.a (.v 1) (.n 1)) (.v 2)) (by exact yes) (by exact yes) (Nat.sub_add_cancel (lle [_, _] [.lt (.v 0) (.v 1)] [1] (.a (.v 0) (.n 1)) (.v 1) (by exact yes) (Nat.lt_of_not_le h3)))
  have hil : (insAt c k L).length = k + 1 := by rw [insAt_len, hLl]
  have hins : insAt c k L = L.filter (fun x => !decide (key k < key x)) ++ k :: L.filter (fun x => !!decide (key k < key x)) := by
    rw [hc]; exact ins_cut hcut k
  refine ⟨by rw [bubble_size]; exact hsz, ⟨by exact llt [_] [] [] (.n 0) (.a (.v 0) (.n 1)) (by exact yes), hk⟩, ?_, ?_, ?_, ?_⟩
  · rw [hnew, List.take_left' hil, hins]
    have ha : ∀ a ∈ L.filter (fun x => !decide (key k < key x)), prec key a k := fun a ha => by
      obtain ⟨g1, g2⟩ := List.mem_filter.mp ha
      simp only [Bool.not_eq_true', decide_eq_false_iff_not] at g2
      by_cases e : key a < key k
      · exact .inl e
      · exact .inr ⟨ktot e g2, hlow a g1⟩
    have hb : ∀ b ∈ L.filter (fun x => !!decide (key k < key x)), prec key k b := fun b hb => by
      have := (List.mem_filter.mp hb).2
      simp only [Bool.not_not, decide_eq_true_eq] at this
      exact .inl this
    refine List.pairwise_append.mpr ⟨hsrt.sublist List.filter_sublist, List.pairwise_cons.mpr ⟨hb, hsrt.sublist List.filter_sublist⟩, fun a ga b gb => ?_⟩
    rcases List.mem_cons.mp gb with rfl | gb
    · exact ha a ga
    · exact prec_tr (ha a ga) (hb b gb)
  · rw [hnew, List.take_left' hil]
    intro x hx
    rcases mem_insAt.mp hx with rfl | hx
    · exact llt [_] [] [] (.v 0) (.a (.v 0) (.n 1)) (by exact yes)
    · have := hlow x hx; exact llt [_, _] [.lt (.v 0) (.v 1)] [1] (.v 0) (.a (.v 1) (.n 1)) (by exact yes) this
  · rw [hnew, List.drop_left' hil]
  · rw [hnew]
    have e : p.toList = L ++ k :: (List.range n).drop (k + 1) := by
      have h1 := List.take_append_drop k p.toList
      rw [hrest, ← hL, List.drop_eq_getElem_cons (by rw [List.length_range]; exact hk), List.getElem_range] at h1
      exact h1.symm
    rw [e] at hperm
    refine List.Perm.trans ?_ hperm
    unfold insAt
    rw [List.append_assoc, List.cons_append]
    refine List.perm_middle.trans ?_
    refine List.Perm.trans ?_ List.perm_middle.symm
    refine List.Perm.cons k ?_
    rw [← List.append_assoc, List.take_append_drop]
theorem bin_run {n : Nat} : ∀ (f k : Nat) (p : Array Nat), k + f = n → PrK key n k p → PrK key n n (runK (fun i j => decide (key i < key j)) (kas_bin f p k))
  | 0, k, p, h, P => by
    obtain rfl : k = n := by exact leq [_, _] [.eq (.a (.v 0) (.n 0)) (.v 1)] [1] [-1] (.v 0) (.v 1) (by exact yes) (by exact yes) h
    exact P
  | f + 1, k, p, h, P => by
    unfold kas_bin
    rw [runK_bind]
    exact bin_run f (k + 1) _ (by exact leq [_, _, _] [.eq (.a (.v 0) (.a (.v 1) (.n 1))) (.v 2)] [1] [-1] (.a (.a (.v 0) (.n 1)) (.v 1)) (.v 2) (by exact yes) (by exact yes) h) (bin_step (by exact llt [_, _, _] [.eq (.a (.v 0) (.a (.v 2) (.n 1))) (.v 1)] [1] (.v 0) (.v 1) (by exact yes) h) P)
theorem sort_run : PrK key 7 7 (runK (fun i j => decide (key i < key j)) (kas_sort 7)) := by
  unfold kas_sort
  rw [runK_bind]
  have P := ok_sound (key := key) t7 (fun f hf => nomatch hf)
  generalize runK (fun i j => decide (key i < key j)) (kas_count 7 (List.toArray (List.range 7))) = r at P
  obtain ⟨m, p⟩ := r
  have P : PrK key 7 m p := P
  have hm := P.le
  show PrK key 7 7 (runK _ (if m < 7 then kas_bin (7 - max m 1) p (max m 1) else .ret p))
  by_cases h : m < 7
  · rw [if_pos h, show max m 1 = m by exact leq [_, _] [.eq (.v 0) (.v 1)] [1] [-1] (.v 0) (.v 1) (by exact yes) (by exact yes) (Nat.max_eq_left (lle [_] [.lt (.n 0) (.v 0)] [1] (.n 1) (.v 0) (by exact yes) hm.1))]
    exact bin_run (7 - m) m p (by exact leq [_, _] [.eq (.a (.v 1) (.v 0)) (.n 7)] [1] [-1] (.a (.v 0) (.v 1)) (.n 7) (by exact yes) (by exact yes) (Nat.sub_add_cancel (lle [_] [.lt (.v 0) (.n 7)] [1] (.v 0) (.n 7) (by exact yes) h))) P
  · rw [if_neg h]
    obtain rfl : m = 7 := by exact leq [_] [.le (.v 0) (.n 7), .le (.n 7) (.v 0)] [1, 0] [0, 1] (.v 0) (.n 7) (by exact yes) (by exact yes) hm.2 (Nat.le_of_not_lt h)
    exact P
/-- put in turn ahead of its likes: the same order -/
theorem insLF_prec {x : Nat} {l : List Nat} (h : l.Pairwise (prec key)) (hx : ∀ y ∈ l, x < y) : (insLF key x l).Pairwise (prec key) := by
  unfold insLF
  have ha : ∀ a ∈ l.filter (fun y => decide (key y < key x)), prec key a x := fun a ha => .inl (of_decide_eq_true (List.mem_filter.mp ha).2)
  have hb : ∀ b ∈ l.filter (fun y => !decide (key y < key x)), prec key x b := fun b hb => by
    obtain ⟨g1, g2⟩ := List.mem_filter.mp hb
    simp only [Bool.not_eq_true', decide_eq_false_iff_not] at g2
    by_cases e : key x < key b
    · exact .inl e
    · exact .inr ⟨ktot e g2, hx b g1⟩
  refine List.pairwise_append.mpr ⟨h.sublist List.filter_sublist, List.pairwise_cons.mpr ⟨hb, h.sublist List.filter_sublist⟩, fun a ga b gb => ?_⟩
  rcases List.mem_cons.mp gb with rfl | gb
  · exact ha a ga
  · exact prec_tr (ha a ga) (hb b gb)
noncomputable def stab (key : Nat → List Nat) : List Nat := insLF key 0 (insLF key 1 (insLF key 2 (insLF key 3 (insLF key 4 (insLF key 5 (insLF key 6 []))))))
theorem stab_spec : (stab key).Pairwise (prec key) ∧ (stab key).Perm [0, 1, 2, 3, 4, 5, 6] := by
  have step : ∀ (x : Nat) (l m : List Nat), l.Pairwise (prec key) → l.Perm m → (∀ y ∈ m, x < y) → (insLF key x l).Pairwise (prec key) ∧ (insLF key x l).Perm (x :: m) := fun x l m h1 h2 h3 =>
    ⟨insLF_prec h1 fun y hy => h3 y (h2.mem_iff.mp hy), (insF_perm x l).1.trans (h2.cons x)⟩
  have s6 := step 6 [] [] .nil (.refl _) (fun y hy => nomatch hy)
  have s5 := step 5 _ _ s6.1 s6.2 (by decide)
  have s4 := step 4 _ _ s5.1 s5.2 (by decide)
  have s3 := step 3 _ _ s4.1 s4.2 (by decide)
  have s2 := step 2 _ _ s3.1 s3.2 (by decide)
  have s1 := step 1 _ _ s2.1 s2.2 (by decide)
  exact step 0 _ _ s1.1 s1.2 (by decide)
theorem sort_stab : (runK (fun i j => decide (key i < key j)) (kas_sort 7)).toList = stab key := by
  have P := sort_run (key := key)
  obtain ⟨h1, h2⟩ := stab_spec (key := key)
  have hs := P.srt
  rw [List.take_of_length_le (by rw [Array.length_toList, P.size]; exact Nat.le_refl _)] at hs
  refine List.Perm.eq_of_pairwise (le := prec key) (fun a b _ _ g1 g2 => ?_) hs h1 (P.perm.trans h2.symm)
  exfalso
  rcases prec_tr g1 g2 with h | ⟨_, h⟩
  · exact kirr _ h
  · exact Nat.lt_irrefl _ h
end
theorem ins_congr {α β : Type} {f : α → List Nat} {g : β → List Nat} {h : α → β} {x : α} {l : List α} (hx : g (h x) = f x) (hl : ∀ y ∈ l, g (h y) = f y) : (insLF f x l).map h = insLF g (h x) (l.map h) := by
  unfold insLF
  rw [List.map_append, List.map_cons, List.filter_map, List.filter_map]
  congr 2
  · refine List.filter_congr fun y hy => ?_
    show _ = decide (g (h y) < g (h x))
    rw [hl y hy, hx]
  · congr 1
    refine List.filter_congr fun y hy => ?_
    show _ = !decide (g (h y) < g (h x))
    rw [hl y hy, hx]
/-- the law's own order is the pile's -/
theorem srt_ok (nmf : Nat → List Nat) (w : Nat → Nat) : ∃ ord, (runK (ltL (dueI.map fun k => reachL (nmf k))) (PySem.W.kas_sort 7)).toList = ord ∧ (∀ i ∈ ord, i < 7) ∧ ord.map (fun i => pieceN nmf w (dueI.getD i 0)) = pileT nmf w 7 := by
  refine ⟨_, rfl, ?_⟩
  have e : (runK (ltL (dueI.map fun k => reachL (nmf k))) (PySem.W.kas_sort 7)).toList = stab (fun i => (dueI.map fun k => reachL (nmf k)).getD i []) := sort_stab
  rw [e]
  obtain ⟨_, hp⟩ := stab_spec (key := fun i => (dueI.map fun k => reachL (nmf k)).getD i [])
  refine ⟨fun i hi => ?_, ?_⟩
  · have := hp.mem_iff.mp hi
    revert this
    have : ∀ i ∈ [0, 1, 2, 3, 4, 5, 6], i < 7 := by decide
    exact this i
  have hk : ∀ i, i < 7 → keyP (pieceN nmf w (dueI.getD i 0)) = (dueI.map fun k => reachL (nmf k)).getD i [] := fun i hi => by
    show reachL (nmf (dueI.getD i 0)) = _
    rw [List.getD_eq_getElem?_getD, List.getD_eq_getElem?_getD, List.getElem?_map, List.getElem?_eq_getElem (show i < dueI.length from hi)]
    rfl
  have hm : ∀ {x : Nat} {l : List Nat}, x < 7 → (∀ y ∈ l, y < 7) → (insLF (fun i => (dueI.map fun k => reachL (nmf k)).getD i []) x l).map (fun i => pieceN nmf w (dueI.getD i 0)) = insLF keyP (pieceN nmf w (dueI.getD x 0)) (l.map fun i => pieceN nmf w (dueI.getD i 0)) ∧ ∀ y ∈ insLF (fun i => (dueI.map fun k => reachL (nmf k)).getD i []) x l, y < 7 := fun {x l} hx hl =>
    ⟨ins_congr (h := fun i => pieceN nmf w (dueI.getD i 0)) (hk x hx) (fun y hy => hk y (hl y hy)), fun y hy => by
      rcases List.mem_cons.mp ((insF_perm x l).1.mem_iff.mp hy) with rfl | h
      · exact hx
      · exact hl y h⟩
  unfold stab
  have m6 := hm (x := 6) (l := []) (by decide) (fun y hy => nomatch hy)
  have m5 := hm (x := 5) (by decide) m6.2
  have m4 := hm (x := 4) (by decide) m5.2
  have m3 := hm (x := 3) (by decide) m4.2
  have m2 := hm (x := 2) (by decide) m3.2
  have m1 := hm (x := 1) (by decide) m2.2
  have m0 := hm (x := 0) (by decide) m1.2
  rw [m0.1, m1.1, m2.1, m3.1, m4.1, m5.1, m6.1, pile_all]
  rfl
end Mine
end
section
open PySem PySem.W PyProof.Rows
namespace Mine
/-- what the proof wants of a ground -/
structure GF (g : List Nat) (b : Bool) : Prop where
  ip : ipAt g = b
  dig : figs g = false
  last : (g[g.length - 1]? == some 46) = false
  ne : 0 < g.length
  len : g.length ≤ 20
  re : reachL g = g
  dot : 0 ≤ findDot g ∨ g = localL
  asc : isAsciiL g = true
  asu : isAsciiL (uppL g) = true
  low : lowL g = g
  lu : lowL (uppL g) = g
theorem gf {wy : Nat} (h : wy < 4) : GF (tlL wy) (wy == 3) := by
  match wy, h with
  | 0, _ => exact ⟨by decide, by decide, by decide, by decide, by decide, by decide, by decide, by decide, by decide, by decide, by decide⟩
  | 1, _ => exact ⟨by decide, by decide, by decide, by decide, by decide, by decide, by decide, by decide, by decide, by decide, by decide⟩
  | 2, _ => exact ⟨by decide, by decide, by decide, by decide, by decide, by decide, by decide, by decide, by decide, by decide, by decide⟩
  | 3, _ => exact ⟨by decide, by decide, by decide, by decide, by decide, by decide, by decide, by decide, by decide, by decide, by decide⟩
theorem let_f : ∀ k, k < 7 → (if 65 ≤ letL k ∧ letL k ≤ 90 then letL k + 32 else letL k) = 97 + k ∧ (if 65 ≤ (if 97 ≤ letL k ∧ letL k ≤ 122 then letL k - 32 else letL k) ∧ (if 97 ≤ letL k ∧ letL k ≤ 122 then letL k - 32 else letL k) ≤ 90 then (if 97 ≤ letL k ∧ letL k ≤ 122 then letL k - 32 else letL k) + 32 else (if 97 ≤ letL k ∧ letL k ≤ 122 then letL k - 32 else letL k)) = 97 + k ∧ 57 < letL k ∧ letL k < 128 ∧ (if 97 ≤ letL k ∧ letL k ≤ 122 then letL k - 32 else letL k) < 128 := by decide
section
variable {d : Nat → Nat} (hd : ∀ k, d k ≤ k) {g : List Nat} {b : Bool} (G : GF g b)
include hd
/-- what stands behind the first dot -/
noncomputable def rst (d : Nat → Nat) (g : List Nat) (k : Nat) : List Nat := if d k = 0 then g else nm d g (d k - 1)
theorem nm_rst (k : Nat) : nm d g k = letL k :: 46 :: rst d g k := nm_eq hd g k
theorem rst_ind {C : List Nat → Prop} (hg : C g) (hs : ∀ k, k < 7 → C (rst d g k) → C (nm d g k)) : ∀ k, k < 7 → C (nm d g k) ∧ C (rst d g k) := by
  intro k
  induction k using Nat.strongRecOn with
  | ind k ih =>
    intro hk
    have hr : C (rst d g k) := by
      unfold rst
      split
      · exact hg
      · have := hd k
        exact (ih (d k - 1) (by exact llt [_, _, _] [.le (.v 2) (.v 1), .eq (.a (.v 0) (.n 1)) (.v 2)] [1, 1] (.v 0) (.v 1) (by exact yes) this (Nat.sub_add_cancel (lle [_] [.lt (.n 0) (.v 0)] [1] (.n 1) (.v 0) (by exact yes) (Nat.pos_of_ne_zero ‹¬d k = 0›)))) (by exact llt [_, _, _] [.lt (.v 1) (.n 7), .le (.v 2) (.v 1), .le (.v 0) (.v 2)] [1, 1, 1] (.v 0) (.n 7) (by exact yes) hk this (Nat.sub_le _ _))).1
    exact ⟨hs k hk hr, hr⟩
include G
theorem nm_low {k : Nat} (hk : k < 7) : lowL (uppL (nm d g k)) = lowL (nm d g k) := by
  refine (rst_ind hd (C := fun x => lowL (uppL x) = lowL x) ?_ (fun k hk h => ?_) k hk).1
  · rw [G.lu, G.low]
  · rw [nm_rst hd]
    have := let_f k hk
    show _ :: 46 :: lowL (uppL (rst d g k)) = _ :: 46 :: lowL (rst d g k)
    rw [h]
    exact congrArg (fun x => x :: 46 :: lowL (rst d g k)) (this.2.1.trans this.1.symm)
omit G in
theorem nml_eq {k : Nat} (hk : k < 7) : lowL (nm d g k) = (97 + k) :: 46 :: lowL (rst d g k) := by
  rw [nm_rst hd]
  exact congrArg (fun x => x :: 46 :: lowL (rst d g k)) (let_f k hk).1
theorem nm_asc {k : Nat} (hk : k < 7) : isAsciiL (nm d g k) = true ∧ isAsciiL (uppL (nm d g k)) = true := by
  refine (rst_ind hd (C := fun x => isAsciiL x = true ∧ isAsciiL (uppL x) = true) ⟨G.asc, G.asu⟩ (fun k hk h => ?_) k hk).1
  rw [nm_rst hd]
  have := let_f k hk
  refine ⟨?_, ?_⟩
  · show (decide (letL k < 128) && (decide (46 < 128) && isAsciiL (rst d g k))) = true
    rw [decide_eq_true this.2.2.2.1, h.1]; rfl
  · show (decide (_ < 128) && (decide (46 < 128) && isAsciiL (uppL (rst d g k)))) = true
    rw [decide_eq_true this.2.2.2.2, h.2]; rfl
/-- no figures alone, and an address or not as the ground -/
theorem nm_ip {k : Nat} (hk : k < 7) : ipAt (nm d g k) = b ∧ figs (nm d g k) = false := by
  refine (rst_ind hd (C := fun x => ipAt x = b ∧ figs x = false) ⟨G.ip, G.dig⟩ (fun k hk h => ?_) k hk).1
  rw [nm_rst hd]
  have := let_f k hk
  have e : (letL k == 46) = false := by rw [beq_eq_false_iff_ne]; exact fun hz => lif [_] [.eq (.v 0) (.n 46), .lt (.n 57) (.v 0)] [1, 1] (by exact yes) hz this.2.2.1
  refine ⟨?_, ?_⟩
  · show ((letL k == 46 && _) || ((46 == 46 && figs (rst d g k)) || ipAt (rst d g k))) = b
    rw [e, h.2, h.1, Bool.and_false, Bool.false_and, Bool.false_or, Bool.false_or]
  · show ((decide (48 ≤ letL k) && decide (letL k ≤ 57)) && _) = false
    rw [decide_eq_false (p := letL k ≤ 57) (by exact fun hz => lif [_] [.le (.v 0) (.n 57), .lt (.n 57) (.v 0)] [1, 1] (by exact yes) hz this.2.2.1), Bool.and_false, Bool.false_and]
theorem low_ip {k : Nat} (hk : k < 7) : ipAt (lowL (nm d g k)) = b ∧ figs (lowL (nm d g k)) = false := by
  refine (rst_ind hd (C := fun x => ipAt (lowL x) = b ∧ figs (lowL x) = false) ⟨by rw [G.low]; exact G.ip, by rw [G.low]; exact G.dig⟩ (fun k hk h => ?_) k hk).1
  rw [nml_eq hd hk]
  have e : (97 + k == 46) = false := by rw [beq_eq_false_iff_ne]; exact fun hz => lif [_] [.eq (.a (.n 97) (.v 0)) (.n 46)] [1] (by exact yes) hz
  refine ⟨?_, ?_⟩
  · show ((97 + k == 46 && _) || ((46 == 46 && figs (lowL (rst d g k))) || ipAt (lowL (rst d g k)))) = b
    rw [e, h.2, h.1, Bool.and_false, Bool.false_and, Bool.false_or, Bool.false_or]
  · show ((decide (48 ≤ 97 + k) && decide (97 + k ≤ 57)) && _) = false
    rw [decide_eq_false (p := 97 + k ≤ 57) (by exact fun hz => lif [_] [.le (.a (.n 97) (.v 0)) (.n 57)] [1] (by exact yes) hz), Bool.and_false, Bool.false_and]
theorem nm_last {k : Nat} (hk : k < 7) : ((nm d g k)[(nm d g k).length - 1]? == some 46) = false ∧ 0 < (nm d g k).length := by
  refine (rst_ind hd (C := fun x => (x[x.length - 1]? == some 46) = false ∧ 0 < x.length) ⟨G.last, G.ne⟩ (fun k hk h => ?_) k hk).1
  rw [nm_rst hd, List.length_cons, List.length_cons]
  refine ⟨?_, by exact llt [_] [] [] (.n 0) (.a (.a (.v 0) (.n 1)) (.n 1)) (by exact yes)⟩
  rw [show (rst d g k).length + 1 + 1 - 1 = ((rst d g k).length - 1) + 1 + 1 by exact leq [_, _, _] [.eq (.a (.v 0) (.n 1)) (.a (.a (.v 2) (.n 1)) (.n 1)), .eq (.a (.v 1) (.n 1)) (.v 2)] [1, -1] [-1, 1] (.v 0) (.a (.a (.v 1) (.n 1)) (.n 1)) (by exact yes) (by exact yes) (Nat.sub_add_cancel (lle [_] [] [] (.n 1) (.a (.a (.v 0) (.n 1)) (.n 1)) (by exact yes))) (Nat.sub_add_cancel (lle [_] [.lt (.n 0) (.v 0)] [1] (.n 1) (.v 0) (by exact yes) h.2)), List.getElem?_cons_succ, List.getElem?_cons_succ]
  exact h.1
omit hd in
theorem nm_big (hd : ∀ k, d k ≤ k) {k : Nat} (_hk : k < 7) : g.length < (nm d g k).length := by
  unfold nm; rw [path_len, List.length_cons]; exact llt [_, _] [] [] (.v 0) (.a (.m 2 (.a (.v 1) (.n 1))) (.v 0)) (by exact yes)
omit G in
theorem nm_inj {i j : Nat} (hi : i < 7) (hj : j < 7) (h : lowL (nm d g i) = lowL (nm d g j)) : i = j := by
  rw [nml_eq hd hi, nml_eq hd hj] at h
  have := (List.cons.inj h).1
  exact leq [_, _] [.eq (.a (.n 97) (.v 0)) (.a (.n 97) (.v 1))] [1] [-1] (.v 0) (.v 1) (by exact yes) (by exact yes) this
theorem reach_nm {k : Nat} (hk : k < 7) : reachL (nm d g k) = if b = true then nm d g k else 46 :: rst d g k := by
  have hl := let_f k hk
  have h1 : findDot (nm d g k) = 1 := by
    rw [nm_rst hd]
    unfold findDot
    have e : (letL k == 46) = false := by rw [beq_eq_false_iff_ne]; exact fun hz => lif [_] [.eq (.v 0) (.n 46), .lt (.n 57) (.v 0)] [1, 1] (by exact yes) hz hl.2.2.1
    rw [List.findIdx?_cons, e]
    rfl
  have h2 : (nm d g k).drop (findDot (nm d g k) + 1).toNat = rst d g k := by
    rw [h1, nm_rst hd]; rfl
  unfold reachL
  rw [h2, if_pos (by rw [h1]; decide)]
  have hip := (nm_ip hd G hk).1
  cases b
  · have hc : isHDN (nm d g k) = true ∧ (0 ≤ findDot (rst d g k) ∨ rst d g k = localL) := by
     refine ⟨?_, ?_⟩
     · unfold isHDN
       have h3 := nm_last hd G hk
       rw [hip, h3.1, Bool.or_false]
       have h4 : ((nm d g k)[0]? == some 46) = false := by
         rw [nm_rst hd]
         show (some (letL k) == some 46) = false
         rw [beq_eq_false_iff_ne]
         intro h
         have := Option.some.inj h
         exact lif [_] [.lt (.n 57) (.v 0), .eq (.v 0) (.n 46)] [1, 1] (by exact yes) hl.2.2.1 this
       rw [h4]
       have h5 : (nm d g k == []) = false := by rw [nm_rst hd]; rfl
       rw [h5]; rfl
     · unfold rst
       split
       · exact G.dot
       · left
         have := hd k
         have hl := let_f (d k - 1) (by exact llt [_, _, _] [.lt (.v 1) (.n 7), .le (.v 2) (.v 1), .le (.v 0) (.v 2)] [1, 1, 1] (.v 0) (.n 7) (by exact yes) hk this (Nat.sub_le _ _))
         rw [nm_rst hd]
         unfold findDot
         have e : (letL (d k - 1) == 46) = false := by rw [beq_eq_false_iff_ne]; exact fun hz => lif [_] [.eq (.v 0) (.n 46), .lt (.n 57) (.v 0)] [1, 1] (by exact yes) hz hl.2.2.1
         rw [List.findIdx?_cons, e]
         show (0 : Int) ≤ 1
         decide
    rw [if_pos hc]; rfl
  · rw [if_pos rfl, if_neg]
    rintro ⟨h, _⟩
    unfold isHDN at h
    rw [hip] at h
    cases h
theorem suf_iff {j k : Nat} (hk : k < 7) (hj : j < 7) : 46 :: lowL (nm d g k) <:+ lowL (nm d g j) ↔ k ∈ anc d j := by
  induction j using Nat.strongRecOn with
  | ind j ih =>
    rw [nml_eq hd hj, anc_eq hd j, List.suffix_cons_iff, List.suffix_cons_iff]
    have e1 : ∀ y, ¬ (46 :: lowL (nm d g k) = (97 + j) :: y) := fun y h => by
      have := (List.cons.inj h).1; exact lif [_] [.eq (.n 46) (.a (.n 97) (.v 0))] [-1] (by exact yes) this
    have e2 : 46 :: lowL (nm d g k) = 46 :: lowL (rst d g j) ↔ lowL (nm d g k) = lowL (rst d g j) := ⟨fun h => (List.cons.inj h).2, fun h => by rw [h]⟩
    rw [e2]
    unfold rst
    split
    · have hb := nm_big G hd hk
      constructor
      · rintro (h | h | h)
        · exact absurd h (e1 _)
        · have := congrArg List.length h
          unfold lowL at this
          rw [List.length_map, List.length_map] at this
          exact (lif [_, _] [.lt (.v 0) (.v 1), .eq (.v 1) (.v 0)] [1, 1] (by exact yes) hb this).elim
        · have := h.length_le
          unfold lowL at this
          rw [List.length_cons, List.length_map, List.length_map] at this
          exact (lif [_, _] [.lt (.v 0) (.v 1), .le (.a (.v 1) (.n 1)) (.v 0)] [1, 1] (by exact yes) hb this).elim
      · intro h; cases h
    · have := hd j
      rw [ih (d j - 1) (by exact llt [_, _, _] [.le (.v 2) (.v 1), .eq (.a (.v 0) (.n 1)) (.v 2)] [1, 1] (.v 0) (.v 1) (by exact yes) this (Nat.sub_add_cancel (lle [_] [.lt (.n 0) (.v 0)] [1] (.n 1) (.v 0) (by exact yes) (Nat.pos_of_ne_zero ‹¬d j = 0›)))) (by exact llt [_, _, _] [.lt (.v 1) (.n 7), .le (.v 2) (.v 1), .le (.v 0) (.v 2)] [1, 1, 1] (.v 0) (.n 7) (by exact yes) hj this (Nat.sub_le _ _)), List.mem_cons]
      constructor
      · rintro (h | h | h)
        · exact absurd h (e1 _)
        · exact .inl (nm_inj hd hk (by exact llt [_, _, _] [.lt (.v 1) (.n 7), .le (.v 2) (.v 1), .le (.v 0) (.v 2)] [1, 1, 1] (.v 0) (.n 7) (by exact yes) hj this (Nat.sub_le _ _)) h)
        · exact .inr h
      · rintro (h | h)
        · rw [h]; exact .inr (.inl rfl)
        · exact .inr (.inr h)
theorem udm1_nm {j k : Nat} (hk : k < 7) (hj : j < 7) : udm (uppL (nm d g j)) (46 :: nm d g k) = (!b && (anc d j).contains k) := by
  unfold udm
  have e0 : lowL (46 :: nm d g k) = 46 :: lowL (nm d g k) := rfl
  rw [nm_low hd G hj, e0]
  have i1 := low_ip hd G hj
  have i2 := low_ip hd G hk
  have i3 : ipAt (46 :: lowL (nm d g k)) = b := by
    show ((46 == 46 && figs (lowL (nm d g k))) || ipAt (lowL (nm d g k))) = b
    rw [i2.1, i2.2, Bool.and_false, Bool.false_or]
  rw [i1.1, i3]
  cases b
  · rw [if_pos (by rfl), if_pos (by rfl)]
    show _ = (anc d j).contains k
    have h := suf_iff hd G hk hj
    rw [Bool.eq_iff_iff, List.isSuffixOf_iff_suffix, List.contains_iff_mem]
    exact h
  · rw [if_neg (by decide)]
    show _ = false
    rw [beq_eq_false_iff_ne, nml_eq hd hj]
    intro h
    have := (List.cons.inj h).1
    exact lif [_] [.eq (.a (.n 97) (.v 0)) (.n 46)] [1] (by exact yes) this
theorem udm2_nm {j k : Nat} (hk : k < 7) (hj : j < 7) : udm (uppL (nm d g j)) (nm d g k) = (j == k) := by
  unfold udm
  rw [nm_low hd G hj]
  have e : (lowL (nm d g j) == lowL (nm d g k)) = (j == k) := by
    rw [Bool.eq_iff_iff, beq_iff_eq, beq_iff_eq]
    exact ⟨nm_inj hd hj hk, fun h => by rw [h]⟩
  have e' : [46].isPrefixOf (lowL (nm d g k)) = false := by
    rw [nml_eq hd hk]
    show ((46 : Nat) == 97 + k && _) = false
    rw [show ((46 : Nat) == 97 + k) = false by rw [beq_eq_false_iff_ne]; exact fun hz => lif [_] [.eq (.n 46) (.a (.n 97) (.v 0))] [-1] (by exact yes) hz]
    rfl
  rw [e, e']
  cases (!ipAt (lowL (nm d g j)) && !ipAt (lowL (nm d g k))) <;> rfl
end
end Mine
end
section
open PySem PySem.W PyProof.Rows
namespace Mine
theorem lst_tree (kin : Nat → List Nat) (k : Nat) : lstP (tree kin k) = (List.range 7).filter fun j => j == k || (kin j).contains k := by
  unfold lstP
  refine List.filter_congr fun j hj => ?_
  have hj := List.mem_range.mp hj
  unfold tree isUp
  rw [decide_eq_true hj, Bool.true_and, Bool.beq_comm]
theorem forest {par : Nat → Option Nat} {kin : Nat → List Nat} (F : Fst par kin) {cs : List Nat} (h : IsKids par none cs) : lstP (trees kin cs) = [0, 1, 2, 3, 4, 5, 6] := by
  have hr : ∀ j, j < 7 → ∃ c, c ∈ cs ∧ (c = j ∨ c ∈ kin j) := by
    intro j
    induction j using Nat.strongRecOn with
    | ind j ih =>
      intro hj
      cases hp : par j with
      | none => exact ⟨j, (h.2 j).mpr ⟨hj, hp⟩, .inl rfl⟩
      | some p =>
        have := F.dn j p hp
        obtain ⟨c, hc, hcp⟩ := ih p this (by exact llt [_, _] [.lt (.v 1) (.n 7), .lt (.v 0) (.v 1)] [1, 1] (.v 0) (.n 7) (by exact yes) hj this)
        refine ⟨c, hc, .inr ?_⟩
        rw [F.eq j, hp]
        rcases hcp with rfl | h
        · exact List.mem_cons_self ..
        · exact List.mem_cons_of_mem _ h
  unfold lstP
  show _ = List.range 7
  rw [List.filter_eq_self]
  intro j hj
  have hj := List.mem_range.mp hj
  obtain ⟨c, hc, hcj⟩ := hr j hj
  exact trees_true.mpr ⟨c, hc, tree_true.mpr ⟨hj, hcj⟩⟩
theorem lf_ok (c0 : Int) (wy : Nat) (hwy : wy < 4) : ∃ kinF par w PL, LF (nm (fig c0) (tlL wy)) (anc (fig c0)) kinF (tlL wy) wy par w PL := by
  have hd : ∀ k, fig c0 k ≤ k := fig_le c0
  revert hd
  generalize fig c0 = d
  intro hd
  have G := gf hwy
  obtain ⟨g, hg⟩ : ∃ g, g = tlL wy := ⟨_, rfl⟩
  rw [← hg] at G ⊢
  obtain ⟨kinF, hkin⟩ : ∃ f : Nat → List Nat, f = if wy < 3 then anc d else fun _ => [] := ⟨_, rfl⟩
  obtain ⟨par, hpar⟩ : ∃ f : Nat → Option Nat, ∀ k, f k = if wy < 3 ∧ d k ≠ 0 then some (d k - 1) else none := ⟨_, fun _ => rfl⟩
  have F : Fst par kinF := by
    refine ⟨fun c => ?_, fun c p h => ?_⟩
    · rw [hpar, hkin]
      by_cases h : wy < 3
      · rw [if_pos h, anc_eq hd]
        by_cases h0 : d c = 0
        · rw [if_pos h0, if_neg (fun h => h.2 h0)]
        · rw [if_neg h0, if_pos ⟨h, h0⟩]
      · rw [if_neg h, if_neg (fun e => h e.1)]
    · rw [hpar] at h
      have := hd c
      split at h
      · rename_i e
        have := Option.some.inj h
        exact llt [_, _, _, _] [.le (.v 2) (.v 1), .eq (.v 3) (.v 0), .eq (.a (.v 3) (.n 1)) (.v 2)] [1, -1, 1] (.v 0) (.v 1) (by exact yes) (‹d c ≤ c›) this (Nat.sub_add_cancel (lle [_] [.lt (.n 0) (.v 0)] [1] (.n 1) (.v 0) (by exact yes) (Nat.pos_of_ne_zero e.2)))
      · cases h
  obtain ⟨w, hw⟩ : ∃ w : Nat → Nat, ∀ k, Val kinF (tree kinF k) (w k) := by
    have h : ∀ k, ∃ v, Val kinF (tree kinF k) v := fun k => Val.ex F 7 (cnt7 _) (tree_ok k)
    exact ⟨fun k => (h k).choose, fun k => (h k).choose_spec⟩
  have hlen : ∀ k, k < 7 → (nm d g k).length ≤ 200 := fun k hk => by
    have := nm_len hd g k hk
    have := G.len
    exact lle [_, _] [.le (.v 0) (.a (.n 14) (.v 1)), .le (.v 1) (.n 20)] [1, 1] (.v 0) (.n 200) (by exact yes) (‹(nm d g k).length ≤ 14 + g.length›) this
  have hinj : ∀ i j, i < 7 → j < 7 → nm d g i = nm d g j → i = j := fun i j hi hj h => nm_inj (g := g) hd hi hj (by rw [h])
  have hdom : ∀ i k, i < 7 → k < 7 → (reachL (nm d g i) = 46 :: nm d g k ↔ par i = some k) := by
    intro i k hi hk
    rw [reach_nm hd G hi, hpar]
    by_cases h : wy < 3
    · have hb : (wy == 3) = false := by rw [beq_eq_false_iff_ne]; exact fun hz => lif [_] [.eq (.v 0) (.n 3), .lt (.v 0) (.n 3)] [-1, 1] (by exact yes) hz h
      rw [hb, if_neg (by decide)]
      unfold rst
      by_cases h0 : d i = 0
      · rw [if_pos h0, if_neg (fun h => h.2 h0)]
        have := nm_big G hd hk
        constructor
        · intro h
          have := congrArg List.length (List.cons.inj h).2
          exact (lif [_, _] [.lt (.v 0) (.v 1), .eq (.v 0) (.v 1)] [1, -1] (by exact yes) (‹g.length < (nm d g k).length›) this).elim
        · intro h; cases h
      · have := hd i
        rw [if_neg h0, if_pos ⟨h, h0⟩]
        constructor
        · intro h; rw [hinj _ _ (by exact llt [_, _, _] [.lt (.v 1) (.n 7), .le (.v 2) (.v 1), .le (.v 0) (.v 2)] [1, 1, 1] (.v 0) (.n 7) (by exact yes) hi this (Nat.sub_le _ _)) hk (List.cons.inj h).2]
        · intro h; rw [Option.some.inj h]
    · have hb : (wy == 3) = true := by rw [beq_iff_eq]; exact leq [_] [.lt (.v 0) (.n 4), .le (.n 3) (.v 0)] [1, 0] [0, 1] (.v 0) (.n 3) (by exact yes) (by exact yes) hwy (Nat.le_of_not_lt h)
      rw [hb, if_pos rfl, if_neg (fun e => h e.1), nm_rst hd]
      constructor
      · intro h
        have := (List.cons.inj h).1
        have := let_f i hi
        exact (lif [_] [.eq (.v 0) (.n 46), .lt (.n 57) (.v 0)] [1, 1] (by exact yes) (‹letL i = 46›) this.2.2.1).elim
      · intro h; cases h
  obtain ⟨PL, hPL⟩ : ∃ PL, PL = pileT (nm d g) w 7 := ⟨_, rfl⟩
  refine ⟨kinF, par, w, PL, hPL, gar_mk F hlen hinj hdom (fun k _ => hw k), hkin, ?_, ?_, ?_, ?_, ?_, ?_, ?_, ?_⟩
  · intro k _
    rw [← lst_tree]
    exact whites_val F (tree_ok k) (hw k)
  · intro h
    obtain ⟨h1, h2⟩ := hT_spec (nm d g) 7 (Nat.le_refl _)
    rw [hPL, slice_kids (Nat.le_refl _)]
    have hk : IsKids par none ((hT (nm d g) 7).filter (fun c => reachL (nm d g c) == 46 :: g)) := by
      refine ⟨h1.filter _, fun c => ?_⟩
      rw [List.mem_filter, h2, beq_iff_eq]
      have e : c < 7 → (reachL (nm d g c) = 46 :: g ↔ par c = none) := by
        intro hc
        have hb : (wy == 3) = false := by rw [beq_eq_false_iff_ne]; exact fun hz => lif [_] [.eq (.v 0) (.n 3), .lt (.v 0) (.n 3)] [-1, 1] (by exact yes) hz h
        rw [reach_nm hd G hc, hpar, hb, if_neg (by decide)]
        unfold rst
        by_cases h0 : d c = 0
        · rw [if_pos h0, if_neg (fun h => h.2 h0)]
          exact ⟨fun _ => rfl, fun _ => rfl⟩
        · have := hd c
          rw [if_neg h0, if_pos ⟨h, h0⟩]
          have := nm_big G hd (k := d c - 1) (by exact llt [_, _, _] [.lt (.v 1) (.n 7), .le (.v 2) (.v 1), .le (.v 0) (.v 2)] [1, 1, 1] (.v 0) (.n 7) (by exact yes) hc this (Nat.sub_le _ _))
          constructor
          · intro h
            have := congrArg List.length (List.cons.inj h).2
            exact (lif [_, _] [.lt (.v 0) (.v 1), .eq (.v 1) (.v 0)] [1, 1] (by exact yes) (‹g.length < (nm d g (d c - 1)).length›) this).elim
          · intro h; cases h
      constructor
      · rintro ⟨⟨_, g2⟩, g3⟩; exact ⟨g2, (e g2).mp g3⟩
      · rintro ⟨g1, g2⟩; exact ⟨⟨by exact lle [_] [] [] (.n 0) (.v 0) (by exact yes), g1⟩, (e g1).mpr g2⟩
    generalize (hT (nm d g) 7).filter (fun c => reachL (nm d g c) == 46 :: g) = cs at hk ⊢
    rw [← forest F hk]
    exact whites_val F (trees_ok cs) (Val.trees F (fun c _ => hw c) (F.kids_apart hk))
  · intro j k hj hk
    rw [udm1_nm hd G (by exact llt [_, _] [.lt (.v 1) (.n 7), .le (.v 0) (.v 1)] [1, 1] (.v 0) (.n 7) (by exact yes) hj hk) hj, hkin]
    by_cases h : wy < 3
    · have hb : (wy == 3) = false := by rw [beq_eq_false_iff_ne]; exact fun hz => lif [_] [.eq (.v 0) (.n 3), .lt (.v 0) (.n 3)] [-1, 1] (by exact yes) hz h
      rw [hb, if_pos h]; rfl
    · have hb : (wy == 3) = true := by rw [beq_iff_eq]; exact leq [_] [.lt (.v 0) (.n 4), .le (.n 3) (.v 0)] [1, 0] [0, 1] (.v 0) (.n 3) (by exact yes) (by exact yes) hwy (Nat.le_of_not_lt h)
      rw [hb, if_neg h]; rfl
  · intro j k hj hk
    have hk7 : k < 7 := by
      rcases List.mem_cons.mp hk with rfl | hk
      · exact hj
      · have := anc_lt hd j k hk; exact llt [_, _] [.lt (.v 1) (.n 7), .lt (.v 0) (.v 1)] [1, 1] (.v 0) (.n 7) (by exact yes) hj this
    exact udm2_nm hd G hk7 hj
  · intro j hj
    exact nm_asc hd G hj
  · intro k hk
    rw [reach_nm hd G hk]
    by_cases h : wy = 3
    · rw [if_pos h, h]; rfl
    · have hb : (wy == 3) = false := by rw [beq_eq_false_iff_ne]; exact fun hz => lif [_] [.eq (.v 0) (.n 3), .lt (.v 0) (.n 3)] [-1, 1] (by exact yes) hz (Nat.lt_of_le_of_ne (lle [_] [.eq (.v 0) (.n 3)] [1] (.v 0) (.n 3) (by exact yes) hz) h)
      rw [if_neg h, hb, anc_eq hd]
      unfold rst
      by_cases h0 : d k = 0
      · rw [if_pos h0, if_pos h0]; rfl
      · rw [if_neg h0, if_neg h0]; rfl
  · rw [hPL]; exact srt_ok (nm d g) w
  · exact ⟨G.re, G.len⟩
end Mine
end
section
open PySem PySem.W PyProof.Rows PySem.Calls
namespace Mine
noncomputable abbrev tabs4 : List (Addr × Addr) := [(119, 115), (126, 122), (229, 225), (248, 246)]
theorem good_end {cw : ClaimW} {cl : Str → Option Addr} {mean : ExcName → Option Value} {args : List WData} {s₁ s' : Shared} {tabs : List (Addr × Addr)} (hT : TabsAt tabs s₁.heap) (hk : ∀ b o, (ghostOf s₁.heap tabs).get? b = some o → s'.heap.get? b = some o)
    (hgr : ∀ q ∈ tabs, GrownAt q.2 s'.heap) (hr : ∀ x, cw.raises args x = false) (hp : cw.post args (.bool true) args = true) (hos : s'.os = s₁.os) (hb : AllBare s'.gens) : GoodWG cw cl mean args s₁ (.ok (.ret (.bool true))) s' := by
  have keep : ∀ b o, b ∉ tabs.map (·.2) → s₁.heap.get? b = some o → s'.heap.get? b = some o := fun b o hb e => hk b o (ghost_ne e hb)
  have grown : ∀ b o, b ∈ tabs.map (·.2) → s₁.heap.get? b = some o → isCodeTable s₁.heap b ∧ o = tabObj #[] ∧ ∃ ps, s'.heap.get? b = some (tabObj ps) := fun b o hb e => by
    obtain ⟨q, hq, rfl⟩ := List.mem_map.mp hb
    have e2 := (hT q hq).2
    rw [e] at e2
    exact ⟨((hT q hq).1.tab (hT q hq).2).isCodeTable, Option.some.inj e2, hgr q hq⟩
  refine ⟨.inl ⟨_, .bool true, [], rfl, hr, .bool true, hp, fun _ => ⟨.nil, fun _ h => nomatch h⟩⟩, ⟨fun b o e => ?_, fun b o e => ?_⟩, hos, hb⟩
  · by_cases hb : b ∈ tabs.map (·.2)
    · obtain ⟨ht, rfl, ps, hP⟩ := grown b o hb e
      exact .inr (.inl ⟨ht, rfl, #[], ps, rfl, by rw [Array.empty_append]; exact hP⟩)
    · exact .inl (keep b o hb e)
  · by_cases hb : b ∈ tabs.map (·.2)
    · obtain ⟨_, _, ps, hP⟩ := grown b o hb e
      exact ⟨_, hP⟩
    · exact ⟨o, keep b o hb e⟩
theorem ints_vrs {ρ : List Addr} {vs : List Value} {ns : List Int} (h : IntsAre vs ns) : VRs ρ (ns.map .int) vs := by
  induction h with
  | nil => exact .nil
  | cons _ _ _ ih => exact .cons (.int _ _) ih
section
variable {P : PP} {A : Around} {E : Value → Shared → Prop} {s : Shared}
theorem law_run (hA : AOk 401 A) {l : Addr} {vals : List Value} {zs : List Int} (hs : Stays P.h₀ s.heap) (hl : s.heap.IsList l vals.toArray) (hi : IntsAre vals zs) (hn : zs.length ≤ 63)
    (ht : ∀ a ∈ ([115, 122, 225, 246] : List Addr), s.heap.get? a = some (tabObj #[])) {Q : Value → Shared → Prop}
    (hQ : ∀ s', Stays P.h₀ s'.heap → (∀ q ∈ tabs4, GrownAt q.2 s'.heap) → (AllBare s.gens → AllBare s'.gens) → s'.os = s.os → Q (.bool true) s') : wpAny (model lawP P.w) A (call (.ref 249) [.ref l]) Q E s := by
  have B := P.B
  have hlE : l ∉ (TK P).Ex := fun hE => by
    obtain ⟨o, e, hc, _⟩ := hl
    rw [ht l hE] at e
    cases e
    cases hc
  have RT : RelT (TK P) [l] [.ro (zs.map .int)] s.heap :=
    { len := rfl
      nd := by simp
      low := fun i a e => by
        cases i with
        | zero => cases e; exact ⟨.inr ⟨_, rfl⟩, hlE⟩
        | succ i => cases e
      obj := fun i o e => by
        cases i with
        | zero => cases e; exact ⟨l, rfl, _, hl, ints_vrs hi⟩
        | succ i => cases e
      keep := hs
      exl := fun P hP => ⟨_, ht P hP⟩
      tab := fun f l' hl' => ⟨(B.lam f l' hl').2, #[], ht _ (B.lam f l' hl').2, .inl rfl⟩ }
  refine fn_top (n := 400) (QF' := fun f _ => f = .ret (.bool true)) (f_249 P) (by show lawCells.Nodup; decide) (b_249 P) rfl (law_body P (k := 0) (fun c0 wy h => lf_ok c0 wy h) (S := ⟨[.ro (zs.map .int)], emptyLoc, emptyCel⟩) (js := 0) rfl hn fun _ => rfl) RT hA (.cons (.ref rfl) .nil) .nil fun f S₂ s' ρ' rv q' hf R X hv => ?_
  subst hf
  cases hv
  refine hQ s' R.keep (fun q hq => ?_) X.bare X.os
  have key : ∀ f l', (TK P).T.lam f = some l' → GrownAt l'.2.1 s'.heap := fun f l' hl' => by
    obtain ⟨_, ps, e, _⟩ := R.T.tab f l' hl'
    exact ⟨ps, e⟩
  simp only [List.mem_cons, List.not_mem_nil, or_false] at hq
  rcases hq with rfl | rfl | rfl | rfl
  · exact key 120 lam120 rfl
  · exact key 127 lam127 rfl
  · exact key 230 _ rfl
  · exact key 249 _ rfl
end
theorem tabs4_ok {P : Params} {h : Heap} (KX : (hd.heap_1 P).In h) (ht : ∀ a ∈ ([115, 122, 225, 246] : List Addr), h.get? a = some (tabObj #[])) : TabsAt tabs4 h := fun q hq => by
  simp only [List.mem_cons, List.not_mem_nil, or_false] at hq
  rcases hq with rfl | rfl | rfl | rfl
  · exact ⟨codeHd_of_K KX (by rfl), ht 115 (by decide)⟩
  · exact ⟨codeHd_of_K KX (by rfl), ht 122 (by decide)⟩
  · exact ⟨codeHd_of_K KX (by rfl), ht 225 (by decide)⟩
  · exact ⟨codeHd_of_K KX (by rfl), ht 246 (by decide)⟩
theorem gr_ok {w : World} {h : Heap} {p : Program} {loose : List Str} {mean : ExcName → Option Value} {mg mb : Str → Option Value} (KX : (hd.heap_1 w.params).In h) (hT : TabsAt tabs4 h) (T : Top p loose mean mg mb h) : GrK w (ghostOf h tabs4) mg mb where
  X := ghost_K hT KX (by rfl)
  g := ghost_ns hT T.g
  b := ghost_ns hT T.b
  nl := (ghost_top hT T).nolimit
  bm := by
    obtain ⟨bm, ob, h1, h2, h3, h4, h5, h6⟩ := (ghost_top hT T).bmain
    refine ⟨bm, ob, h1, h2, fun e => ?_, h3, h4, h5, h6⟩
    obtain ⟨o, es, ep, ho, hd', _⟩ := ghost_ns hT T.g
    rw [← e, h3] at ho
    cases ho
    rw [h6] at hd'
    cases hd'
  bs := T.builtins
  ex := fun P hP => hideAll_none _ (by simpa using hP)
  code := by
    obtain ⟨h1, h2, h3, h4, _⟩ := ghost_code hT
    exact ⟨h3, h4, h1, h2⟩
end Mine
set_option maxRecDepth 100000 in
set_option maxHeartbeats 8000000 in
theorem PySem.Challenge.cw_xr0015_01_holds : PySem.Challenge.rw_xr0015_01.Holds := by
  refine Mine.hd ?_
  intro w s₀ s₁ mg mb G Y fa o pm cd doc dV kV ho hd hcd hD hmg hg args vals as hpre hlay hrd hwl hlo
  have KX := km_in_of Y
  have hT8 := km_tabs_of Y
  refine Ground.open G ?_
  intro T B D TE TW
  wrow_args hpre hlay hrd hwl hlo
  have hfa : fa = 249 := by
    have h1 := mg_of (n := "law") KX T.g rfl
    have h2 := hmg.symm.trans h1
    cases h2
    rfl
  subst hfa
  have hT := Mine.tabs4_ok KX hT8
  rename_i hI hL _ _ _ _
  refine Mine.law_run (P := ⟨w, _, mg, mb, Mine.gr_ok KX hT T⟩) ⟨rfl, by show 1 + claimMargin + 401 + 10 < recursionLimit; decide, by show 4 + 8 * 401 + 40 < cLine; decide⟩ (fun b o e => of_hideAll _ e) (by assumption) (by assumption) (by omega) hT8 fun s' k1 k2 k3 k4 => ?_
  exact Mine.good_end hT k1 k2 (fun _ => rfl) (by first | rfl | kernel_rfl | decide) k4 (k3 (hg ▸ AllBare.empty))
end
