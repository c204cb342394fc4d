import PyProof.Rows.All
import PyProof.EnumMake
import KE.KRevIter
import Wide.FinOn
import OpenK.AllK
import Wide.All
import PySem.Challenge.RW_wc0027_02
set_option Elab.async false
set_option bootstrap.genMatcherCode false
set_option genSizeOf false
set_option genInjectivity false
set_option linter.all false
set_option genCtorIdx false
namespace Mine
open PySem
set_option backward.match.sparseCases false
inductive PV where
  | none
  | bool (b: Bool)
  | int (i: Int)
  | str (s: Str)
  | lit (s: Str)
  | list (xs: List PV)
  | tuple (xs: List PV)
  | dict (kvs: List (Str × PV))
  | range (lo hi step: Int)
  | fn (f: Str)
  | ty (n: String)
  | bi (id: String)
  | b1
  | b3
  deriving Inhabited
set_option genCtorIdx true in
inductive Slot where
  | val (p: PV)
  | own (xs: List PV)
  | ownD (kvs: List (Str × PV))
  deriving Inhabited
theorem zae {α: Type} {z: α} {p: Prop} (h: (none: Option α)=some z): p:=nomatch h
noncomputable abbrev Rho:=List (Option Slot)
noncomputable def valOf: Slot -> Option PV
  | .val p=>some p
  | _=>none
noncomputable def zzp: Slot -> Option (List PV)
  | .own p=>some p
  | _=>none
noncomputable def zzq: Slot -> Option (List (Str × PV))
  | .ownD p=>some p
  | _=>none
noncomputable def Slot.pv: Slot -> PV
  | .val p=>p
  | .own xs=>.list xs
  | .ownD kvs=>.dict kvs
noncomputable def Slot.isOwn0: Slot -> Bool
  | .val _=>false
  | _=>true
noncomputable def slotAt (ρ: Rho) (i: Nat): Option Slot:=(ρ[i]?).bind id
theorem zdp {ρ: Rho} {i: Nat} {s: Slot} (h: slotAt ρ i=some s): ρ[i]? = some (some s):=by
  obtain ⟨a,h1,h2⟩:=Option.bind_eq_some_iff.mp h
  rw [h1]; exact congrArg some h2
theorem zdu {ρ: Rho} {i: Nat} {s: Slot} (h: ρ[i]? = some (some s)): slotAt ρ i=some s:=by rw [slotAt,h]; rfl
theorem ztl {s: Slot} {p: PV} (h: valOf s=some p): s = .val p:=by
  induction s with
  | val _=>exact congrArg Slot.val (Option.some.inj h)
  | _=>exact zae h
theorem zr0 {s: Slot} {p: List PV} (h: zzp s=some p): s = .own p:=by
  induction s with
  | own _=>exact congrArg Slot.own (Option.some.inj h)
  | _=>exact zae h
theorem zr1 {s: Slot} {p: List (Str × PV)} (h: zzq s=some p): s = .ownD p:=by
  induction s with
  | ownD _=>exact congrArg Slot.ownD (Option.some.inj h)
  | _=>exact zae h
noncomputable def valAt (ρ: Rho) (i: Nat): Option PV:=(slotAt ρ i).bind valOf
noncomputable def ownAt (ρ: Rho) (i: Nat): Option (List PV):=(slotAt ρ i).bind zzp
noncomputable def zgr (ρ: Rho) (i: Nat): Option (List (Str × PV)):=(slotAt ρ i).bind zzq
theorem ztm {ρ: Rho} {i: Nat} {p: PV} (h: valAt ρ i=some p): ρ[i]? = some (some (.val p)):=by obtain ⟨_,h1,h2⟩:=Option.bind_eq_some_iff.mp h; exact (ztl h2) ▸ zdp h1
theorem zj3 {ρ: Rho} {i: Nat} {p: List PV} (h: ownAt ρ i=some p): ρ[i]? = some (some (.own p)):=by obtain ⟨_,h1,h2⟩:=Option.bind_eq_some_iff.mp h; exact (zr0 h2) ▸ zdp h1
theorem zl0 {ρ: Rho} {i: Nat} {p: List (Str × PV)} (h: zgr ρ i=some p): ρ[i]? = some (some (.ownD p)):=by obtain ⟨_,h1,h2⟩:=Option.bind_eq_some_iff.mp h; exact (zr1 h2) ▸ zdp h1
theorem zqy {ρ: Rho} {i: Nat} {p: PV} (h: ρ[i]? = some (some (.val p))): valAt ρ i=some p:=by rw [valAt,zdu h]; rfl
theorem zmr {ρ: Rho} {i: Nat} {p: List PV} (h: ρ[i]? = some (some (.own p))): ownAt ρ i=some p:=by rw [ownAt,zdu h]; rfl
mutual
inductive PE where
  | none
  | bool (b: Bool)
  | int (i: Int)
  | str (s: Str)
  | var (i: Nat)
  | glob (x: Str)
  | bin (op: Operator) (a b: PE)
  | neg (a: PE)
  | inv (a: PE)
  | not (a: PE)
  | and (es: List PE)
  | or (es: List PE)
  | cmp (op: CmpOp) (a b: PE)
  | ifx (t a b: PE)
  | sub (a i: PE)
  | subOwn (x: Nat) (i: PE)
  | notinOwn (a: PE) (x: Nat)
  | slice (a: PE) (lo hi: Option PE)
  | rev (a: PE)
  | list (es: List PE)
  | tuple (es: List PE)
  | dict (ks vs: List PE)
  | call (f: PE) (args: List PE)
  | meth (o: PE) (m: Str) (args: List PE)
  | repl (o: PE) (y z: Str)
  | comp (elt: PE) (gens: List PG)
  | dcomp (k v: PE) (gens: List PG)
inductive PG where
  | mk (ts: List Nat) (single: Bool) (it: PI) (ifs: List PE)
inductive PI where
  | plain (e: PE)
  | enum (e: PE)
  | revd (e: PE)
end
inductive PS where
  | asg (t: Nat) (e: PE)
  | asgOwn (t: Nat) (e: PE)
  | asgT (ts: List Nat) (e: PE)
  | asgTOwn (ts: List Nat) (ow: List Bool) (es: List PE)
  | aug (t: Nat) (op: Operator) (e: PE)
  | augIdx (t: Nat) (i: PE) (op: Operator) (e: PE)
  | setD (t: Nat) (k e: PE)
  | app (t: Nat) (e: PE)
  | revI (t: Nat)
  | upd (t: Nat) (e: PE)
  | ret (e: PE)
  | ite (t: PE) (a b: List PS)
  | forS (ts: List Nat) (single: Bool) (it: PI) (body: List PS)
  | whileS (t: PE) (body: List PS)
  | tryS (body: List PS)
  | freeze (t: Nat)
  | fail
set_option genCtorIdx true in
inductive Out where
  | next (ρ: Rho)
  | ret (v: PV)
noncomputable def zd5 (n: Int): Bool:=decide (n<=134217728)
noncomputable def zc0 (x y: Int): Bool:=decide (Builtin.Int.intBits x<=64) || decide (Builtin.Int.intBits y<=64) || decide (Builtin.Int.intBits x + Builtin.Int.intBits y<=134217728)
noncomputable def zak (n: Nat): Bool:=decide (n<=16777216)
noncomputable def intOf: PV -> Option Int
  | .int y=>some y
  | _=>none
noncomputable def strOf: PV -> Option Str
  | .str y=>some y
  | _=>none
noncomputable def litOf: PV -> Option Str
  | .lit y=>some y
  | _=>none
noncomputable def listOf: PV -> Option (List PV)
  | .list y=>some y
  | _=>none
noncomputable def dictOf: PV -> Option (List (Str × PV))
  | .dict y=>some y
  | _=>none
theorem zr2 {x: PV} {a: List (Str × PV)} (h: dictOf x=some a): x = .dict a:=by cases x <;> first | exact zae h | exact congrArg PV.dict (Option.some.inj h)
noncomputable def boolOf: PV -> Option Bool
  | .bool y=>some y
  | _=>none
noncomputable def tyOf: PV -> Option String
  | .ty y=>some y
  | _=>none
noncomputable def tupP: PV -> Option (List PV)
  | .tuple xs=>some xs
  | _=>none
theorem zel {x: PV} {a: Int} (h: intOf x=some a): x = .int a:=by cases x <;> first | exact zae h | exact congrArg PV.int (Option.some.inj h)
theorem zhn {x: PV} {a: Str} (h: strOf x=some a): x = .str a:=by cases x <;> first | exact zae h | exact congrArg PV.str (Option.some.inj h)
theorem ztn {x: PV} {a: Str} (h: litOf x=some a): x = .lit a:=by cases x <;> first | exact zae h | exact congrArg PV.lit (Option.some.inj h)
theorem zl1 {x: PV} {a: List PV} (h: listOf x=some a): x = .list a:=by cases x <;> first | exact zae h | exact congrArg PV.list (Option.some.inj h)
theorem zr3 {x: PV} {a: Bool} (h: boolOf x=some a): x = .bool a:=by cases x <;> first | exact zae h | exact congrArg PV.bool (Option.some.inj h)
theorem zw3 {x: PV} {a: String} (h: tyOf x=some a): x = .ty a:=by cases x <;> first | exact zae h | exact congrArg PV.ty (Option.some.inj h)
theorem zw4 {x: PV} {a: List PV} (h: tupP x=some a): x = .tuple a:=by cases x <;> first | exact zae h | exact congrArg PV.tuple (Option.some.inj h)
noncomputable def ii (x y: PV) (f: Int -> Int -> Option PV): Option PV:=(intOf x).bind fun a=>(intOf y).bind fun b=>f a b
theorem zcx {x y z: PV} {f: Int -> Int -> Option PV} (h: ii x y f=some z): ∃ a b,x = .int a/\y = .int b/\f a b=some z:=
  by obtain ⟨a,h1,h⟩:=Option.bind_eq_some_iff.mp h; obtain ⟨b,h2,h⟩:=Option.bind_eq_some_iff.mp h; exact ⟨a,b,zel h1,zel h2,h⟩
noncomputable def one: List PV -> Option PV
  | [x]=>some x
  | _=>none
noncomputable def two: List PV -> Option (PV × PV)
  | [x,y]=>some (x,y)
  | _=>none
theorem z0f {xs: List PV} {a: PV} (h: one xs=some a): xs=[a]:=by
  cases xs with
  | nil=>exact zae h
  | cons x r=>cases r with
    | nil=>exact congrArg (fun x=>[x]) (Option.some.inj h)
    | cons=>exact zae h
theorem z0g {xs: List PV} {a: PV × PV} (h: two xs=some a): xs=[a.1,a.2]:=by
  cases xs with
  | nil=>exact zae h
  | cons x r=>cases r with
    | nil=>exact zae h
    | cons y r=>cases r with
      | nil=>exact congrArg (fun x: PV × PV=>[x.1,x.2]) (Option.some.inj h)
      | cons=>exact zae h
theorem zau {α: Type} {c: Prop} [Decidable c] {a z: α} (h: (if c then some a else none)=some z): c/\a=z:=by
  by_cases hc: c
  · rw [if_pos hc] at h; exact ⟨hc,Option.some.inj h⟩
  · rw [if_neg hc] at h; exact zae h
theorem zey {α: Type} {c: Prop} [Decidable c] {a: Option α} {z: α} (h: (if c then none else a)=some z): ¬ c/\a=some z:=by
  by_cases hc: c
  · rw [if_pos hc] at h; exact zae h
  · rw [if_neg hc] at h; exact ⟨hc,h⟩
theorem zck {α: Type} {c: Prop} [Decidable c] {a: Option α} {z: α} (h: (if c then a else none)=some z): c/\a=some z:=by
  by_cases hc: c
  · rw [if_pos hc] at h; exact ⟨hc,h⟩
  · rw [if_neg hc] at h; exact zae h
theorem tf {p: Prop} (h: true=false): p:=Bool.noConfusion h
theorem ft {p: Prop} (h: false=true): p:=Bool.noConfusion h
theorem zqz: ∀ n: Nat,((n: Int) - 1).toNat=n - 1
  | 0=>rfl
  | n + 1=>by rw [Int.natCast_succ,Int.add_sub_cancel]; rfl
theorem zjw {a i k: Nat} (h: a - i=k + 1): a - (i + 1)=k:=(Nat.sub_succ a i).trans (congrArg Nat.pred h)
theorem oj {α: Type _} {a b: α} (h: some a=some b): b=a:=(Option.some.inj h).symm
theorem zji {α: Type} {c: Prop} [Decidable c] {a b: Option α} {z: α} (h: (if c then a else b)=some z): (c/\a=some z) \/ (¬ c/\b=some z):=by
  by_cases hc: c
  · rw [if_pos hc] at h; exact .inl ⟨hc,h⟩
  · rw [if_neg hc] at h; exact .inr ⟨hc,h⟩
theorem zgz {α: Type} {y: PV} {z: α} {f: Int -> Option α} (h: (intOf y).bind f=some z): ∃ b,y = .int b/\f b=some z:=by obtain ⟨b,h1,h⟩:=Option.bind_eq_some_iff.mp h; exact ⟨b,zel h1,h⟩
theorem zr4 {α: Type} {y: PV} {z: α} {f: Str -> Option α} (h: (strOf y).bind f=some z): ∃ b,y = .str b/\f b=some z:=by obtain ⟨b,h1,h⟩:=Option.bind_eq_some_iff.mp h; exact ⟨b,zhn h1,h⟩
theorem zto {α: Type} {y: PV} {z: α} {f: Str -> Option α} (h: (litOf y).bind f=some z): ∃ b,y = .lit b/\f b=some z:=by obtain ⟨b,h1,h⟩:=Option.bind_eq_some_iff.mp h; exact ⟨b,ztn h1,h⟩
theorem zho {α: Type} {y: PV} {z: α} {f: List PV -> Option α} (h: (listOf y).bind f=some z): ∃ b,y = .list b/\f b=some z:=by obtain ⟨b,h1,h⟩:=Option.bind_eq_some_iff.mp h; exact ⟨b,zl1 h1,h⟩
theorem z26 {α: Type} {y: PV} {z: α} {f: List PV -> Option α} (h: (tupP y).bind f=some z): ∃ b,y = .tuple b/\f b=some z:=by obtain ⟨b,h1,h⟩:=Option.bind_eq_some_iff.mp h; exact ⟨b,zw4 h1,h⟩
theorem mapI {α: Type} {y: PV} {z: α} {f: Int -> α} (h: (intOf y).map f=some z): ∃ b,y = .int b/\f b=z:=by obtain ⟨b,h1,h⟩:=Option.map_eq_some_iff.mp h; exact ⟨b,zel h1,h⟩
theorem mapS {α: Type} {y: PV} {z: α} {f: Str -> α} (h: (strOf y).map f=some z): ∃ b,y = .str b/\f b=z:=by obtain ⟨b,h1,h⟩:=Option.map_eq_some_iff.mp h; exact ⟨b,zhn h1,h⟩
theorem mapB {α: Type} {y: PV} {z: α} {f: Bool -> α} (h: (boolOf y).map f=some z): ∃ b,y = .bool b/\f b=z:=by obtain ⟨b,h1,h⟩:=Option.map_eq_some_iff.mp h; exact ⟨b,zr3 h1,h⟩
theorem z5e {α: Type} {y: PV} {z: α} {f: String -> α} (h: (tyOf y).map f=some z): ∃ b,y = .ty b/\f b=z:=by obtain ⟨b,h1,h⟩:=Option.map_eq_some_iff.mp h; exact ⟨b,zw3 h1,h⟩
theorem zq0 {x y: PV} {z: Bool} {f: Int -> Int -> Bool} (h: ((intOf x).bind fun a=>(intOf y).map fun b=>f a b)=some z): ∃ a b,x = .int a/\y = .int b/\f a b=z:=by obtain ⟨a,h1,h⟩:=zgz h; obtain ⟨b,h2,h⟩:=mapI h; exact ⟨a,b,h1,h2,h⟩
theorem zez {α: Type} {xs: List PV} {z: α} {f: PV -> Option α} (h: (one xs).bind f=some z): ∃ b,xs=[b]/\f b=some z:=by obtain ⟨b,h1,h⟩:=Option.bind_eq_some_iff.mp h; exact ⟨b,z0f h1,h⟩
theorem zms {α: Type} {xs: List PV} {z: α} {f: PV × PV -> Option α} (h: (two xs).bind f=some z): ∃ a b,xs=[a,b]/\f (a,b)=some z:=by obtain ⟨b,h1,h⟩:=Option.bind_eq_some_iff.mp h; exact ⟨b.1,b.2,z0g h1,h⟩
noncomputable def binP (op: Operator) (x y: PV): Option PV:=match op with
  | .Add=>(match x with
    | .int a=>(intOf y).map fun b=>.int (a + b)
    | .str a=>(strOf y).bind fun b=>if zak (a.length + b.length) then some (.str (a ++ b)) else none
    | .list a=>(listOf y).bind fun b=>if zak (a.length + b.length) then some (.list (a ++ b)) else none
    | _=>none)
  | .Sub=>ii x y fun x y=>some (.int (x - y))
  | .Mult=>(match x with
    | .int x=>(intOf y).bind fun y=>if zc0 x y then some (.int (x * y)) else none
    | .str x=>(intOf y).bind fun n=>if zak (x.length * n.toNat) && (decide (n < 1000000) && decide (-1000000 < n)) then some (.str ⟨(List.replicate n.toNat x.cps.toList).flatten.toArray⟩) else none
    | .list x=>(intOf y).bind fun n=>if zak (x.length * n.toNat) && (decide (n < 1000000) && decide (-1000000 < n)) then some (.list (List.replicate n.toNat x).flatten) else none
    | _=>none)
  | .FloorDiv=>ii x y fun x y=>if y=0 then none else if Builtin.divisionGoesByPylong x y then none else some (.int (x.fdiv y))
  | .Mod=>ii x y fun x y=>if y=0 then none else some (.int (x.fmod y))
  | .Pow=>ii x y fun x n=>if 0<=n && zd5 (Builtin.Int.intBits x * n) then some (.int (x ^ n.toNat)) else none
  | .LShift=>ii x y fun x n=>if 0<=n && zd5 (Builtin.Int.intBits x + n) then some (.int (x * 2 ^ n.toNat)) else none
  | .RShift=>ii x y fun x n=>if 0<=n then some (.int (x.fdiv (2 ^ n.toNat))) else none
  | .BitAnd=>ii x y fun x y=>some (.int (Builtin.bitAnd x y))
  | .BitOr=>ii x y fun x y=>some (.int (Builtin.bitOr x y))
  | .BitXor=>ii x y fun x y=>some (.int (Builtin.bitXor x y))
  | _=>none
noncomputable def zj4: PV -> Option PyData
  | .int i=>some (.int i)
  | .bool b=>some (.bool b)
  | _=>none
noncomputable def z27: PV -> Option Str
  | .str y=>some y
  | .lit y=>some y
  | _=>none
noncomputable def eqP (x y: PV): Option Bool:=match x with
  | .bool a=>(boolOf y).map (a == ·)
  | .int a=>(intOf y).map (a == ·)
  | .str a=>(z27 y).map (a == ·)
  | .list a=>(listOf y).bind fun b=>(a.mapM zj4).bind fun x=>(b.mapM zj4).map fun y=>PyData.eqvAll x y
  | .tuple a=>(tupP y).bind fun b=>(a.mapM zj4).bind fun x=>(b.mapM zj4).map fun y=>PyData.eqvAll x y
  | _=>none
noncomputable def isP (x y: PV): Option Bool:=match x with
  | .bool a=>(boolOf y).map (a == ·)
  | .none=>(match y with
    | .none=>some true
    | .str _=>some false
    | _=>none)
  | .str _=>(match y with
    | .none=>some false
    | _=>none)
  | .ty a=>(tyOf y).map (a == ·)
  | _=>none
noncomputable def zgk (xs: List PV): Option (List Int):=xs.mapM intOf
noncomputable def zhp (xs: List PV): Option (List Str):=xs.mapM strOf
noncomputable def inP (x y: PV): Option Bool:=match x with
  | .int x=>(listOf y).bind fun ys=>(zgk ys).map (·.contains x)
  | .str x=>(strOf y).map fun y=>!(Builtin.Str.occurrences y x 0 y.length 1).isEmpty
  | _=>none
noncomputable def cmpP (op: CmpOp) (x y: PV): Option Bool:=match op with
  | .Eq=>eqP x y
  | .NotEq=>(eqP x y).map (!·)
  | .Lt=>(intOf x).bind fun a=>(intOf y).map fun b=>decide (a < b)
  | .LtE=>(intOf x).bind fun a=>(intOf y).map fun b=>decide (a<=b)
  | .Gt=>(intOf x).bind fun a=>(intOf y).map fun b=>decide (b < a)
  | .GtE=>(intOf x).bind fun a=>(intOf y).map fun b=>decide (b<=a)
  | .Is=>isP x y
  | .IsNot=>(isP x y).map (!·)
  | .In=>inP x y
  | .NotIn=>(inP x y).map (!·)
noncomputable def zem: PV -> Option Bool
  | .bool b=>some b
  | .int i=>some (i != 0)
  | .list xs=>some (!xs.isEmpty)
  | .str s=>some (s.length != 0)
  | .none=>some false
  | _=>none
noncomputable def zan (lo hi st: Int): List PV:=(List.range (Builtin.Range.rangeSize lo hi st).toNat).map fun (k: Nat)=>.int (lo + (k: Int) * st)
noncomputable def zj5 (kvs: List (Str × PV)) (k: Str) (v: PV): List (Str × PV):=
  if kvs.any (fun kv=>kv.1=k) then kvs.map (fun kv=>if kv.1=k then (kv.1,v) else kv) else kvs ++ [(k,v)]
noncomputable def zfm (kvs more: List (Str × PV)): List (Str × PV):=more.foldl (fun acc kv=>zj5 acc kv.1 kv.2) kvs
noncomputable def zbk (lo hi st: Int): Bool:=decide (0 < st) && Builtin.Range.small lo hi st && decide (Builtin.Range.rangeSize lo hi st<=16777216) && !Builtin.divisionGoesByPylong (hi - lo) st
noncomputable def zbt (s: Str): List PV:=s.cps.toList.map fun c=>.str ⟨#[c]⟩
noncomputable def zj6: PV -> Option (List PV)
  | .list xs=>some xs
  | .tuple xs=>some xs
  | .str s=>some (zbt s)
  | .lit s=>some (zbt s)
  | .range a b c=>some (zan a b c)
  | _=>none
noncomputable def enumItems: PV -> Option (List PV)
  | .list xs=>some xs
  | .tuple xs=>some xs
  | .str s=>some (zbt s)
  | _=>none
noncomputable def zbo (k: Int): List PV -> List PV
  | []=>[]
  | x :: xs=>.tuple [.int k,x] :: zbo (k + 1) xs
theorem numE (k: Int) (x: PV) (xs: List PV): zbo k (x :: xs) = .tuple [.int k,x] :: zbo (k + 1) xs:=rfl
noncomputable def subP (x y: PV): Option PV:=match x with
  | .list xs=>(intOf y).bind fun k=>if 0<=k && decide (k < 1000000000) then xs[k.toNat]? else none
  | .tuple xs=>(intOf y).bind fun k=>if 0<=k && decide (k < 1000000000) then xs[k.toNat]? else none
  | .str s=>(intOf y).bind fun k=>if 0<=k && decide (k < 1000000000) then (s.cps[k.toNat]?).map fun c=>.str ⟨#[c]⟩ else none
  | .lit s=>(intOf y).bind fun k=>if 0<=k && decide (k < 1000000000) then (s.cps[k.toNat]?).map fun c=>.str ⟨#[c]⟩ else none
  | .dict kvs=>(strOf y).bind fun k=>kvs.lookup k
  | _=>none
theorem znw {xs: List PV} {k: Int} (hc: (decide (0<=k) && decide (k < 1000000000))=true): subP (.list xs) (.int k)=xs[k.toNat]?:=(Option.bind_some k (fun k: Int=>if 0<=k && decide (k < 1000000000) then xs[k.toNat]? else none)).trans (if_pos hc)
theorem zw5 {s: Str} {k: Int} (hc: (decide (0<=k) && decide (k < 1000000000))=true): subP (.str s) (.int k)=(s.cps[k.toNat]?).map fun c=>.str ⟨#[c]⟩:=(Option.bind_some k (fun k: Int=>if 0<=k && decide (k < 1000000000) then (s.cps[k.toNat]?).map fun c=>PV.str ⟨#[c]⟩ else none)).trans (if_pos hc)
theorem zw6 {s: Str} {k: Int} (hc: (decide (0<=k) && decide (k < 1000000000))=true): subP (.lit s) (.int k)=(s.cps[k.toNat]?).map fun c=>.str ⟨#[c]⟩:=(Option.bind_some k (fun k: Int=>if 0<=k && decide (k < 1000000000) then (s.cps[k.toNat]?).map fun c=>PV.str ⟨#[c]⟩ else none)).trans (if_pos hc)
noncomputable def zdd {α: Type} (xs: List α) (lo hi st: Option Int): List α:=
  (sliceRange (sliceBounds lo hi st xs.length).1 (sliceBounds lo hi st xs.length).2.1 (sliceBounds lo hi st xs.length).2.2).filterMap (xs[·]?)
noncomputable def zq1: PV -> Option Int -> Option Int -> Option PV
  | .list xs,lo,hi=>if zak (zdd xs lo hi none).length then some (.list (zdd xs lo hi none)) else none
  | .str s,lo,hi=>some (.str (Txt.slice s lo hi))
  | _,_,_=>none
noncomputable def lenP: PV -> Option PV
  | .list xs=>some (.int xs.length)
  | .str s=>some (.int s.length)
  | _=>none
noncomputable def bOrd (args: List PV): Option PV:=(one args).bind fun x=>(strOf x).bind fun s=>if s.length=1 then (s.cps[0]?).map fun (c: Nat)=>.int (c: Int) else none
noncomputable def bChr (args: List PV): Option PV:=(one args).bind fun x=>(intOf x).bind fun n=>if 0<=n && n < 0x110000 then some (.str ⟨#[n.toNat]⟩) else none
noncomputable def bSum (args: List PV): Option PV:=(one args).bind fun x=>(listOf x).bind fun xs=>(zgk xs).map fun l=>.int l.sum
noncomputable def bDm (args: List PV): Option PV:=(two args).bind fun q=>ii q.1 q.2 fun a b=>if b=0 then none else if Builtin.divisionGoesByPylong a b then none else some (.tuple [.int (a.fdiv b),.int (a.fmod b)])
noncomputable def zcb (id: String) (args: List PV): Option PV:=
  if id = "len" then (one args).bind lenP
  else if id = "ord" then bOrd args
  else if id = "chr" then bChr args
  else if id = "sum" then bSum args
  else if id = "divmod" then bDm args
  else none
noncomputable def z28: List PV -> Option PV
  | [x]=>(intOf x).bind fun n=>if zbk 0 n 1 then some (.range 0 n 1) else none
  | [x,y]=>ii x y fun a b=>if zbk a b 1 then some (.range a b 1) else none
  | [x,y,z]=>(intOf z).bind fun c=>ii x y fun a b=>if zbk a b c then some (.range a b c) else none
  | _=>none
noncomputable def z29: PV -> Option PV
  | .range a b c=>some (.list (zan a b c))
  | _=>none
noncomputable def ztp (n: String) (args: List PV): Option PV:=
  if n = "range" then z28 args
  else if n = "list" then (one args).bind z29
  else if n = "type" then (one args).bind fun x=>(intOf x).map fun _=>.ty "int"
  else none
noncomputable def zdv: List Int:=[173,847,6150,6155,6156,6157,8203,8204,8205,8288,65279] ++ (List.range 16).map fun (k: Nat)=>(65024 + k: Int)
noncomputable def isB1: PV -> Bool
  | .b1=>true
  | _=>false
theorem zw7 {x: PV} (h: isB1 x=true): x = .b1:=by cases x <;> first | rfl | exact ft h
noncomputable def cmpV (op: CmpOp) (x y: PV): Option Bool:=
  if op = .In/\isB1 y=true then (intOf x).map fun k=>zdv.contains k else cmpP op x y
noncomputable def z5f (s: Str) (args: List PV): Option PV:=(two args).bind fun q=>(litOf q.1).bind fun a=>(litOf q.2).bind fun b=>if a != b && zak (s.length + (s.length + 1) * b.length) then some (.str (PySem.Txt.replace s a b)) else none
noncomputable def z3a (s: Str) (args: List PV): Option PV:=(one args).bind fun x=>(strOf x).map fun a=>.int (PySem.Txt.count s a)
noncomputable def z5g (s: Str) (args: List PV): Option PV:=(one args).bind fun x=>(listOf x).bind fun xs=>(zhp xs).bind fun l=>if zak ((l.map (·.length)).sum + l.length * s.length) then some (.str (Txt.join s l)) else none
noncomputable def zzr (s: Str) (args: List PV): Option PV:=if args.isEmpty && zak (Txt.lower s).length then some (.str (PySem.Txt.lower s)) else none
noncomputable def zdk (s: Str) (m: Str) (args: List PV): Option PV:=
  if m == "replace" then z5f s args
  else if m == "count" then z3a s args
  else if m == "join" then z5g s args
  else if m == "lower" then zzr s args
  else none
noncomputable def methP (x: PV) (m: Str) (args: List PV): Option PV:=match x with
  | .str s=>zdk s m args
  | .int i=>if m == "bit_length" && args.isEmpty then some (.int (Builtin.Int.intBits i)) else none
  | _=>none
theorem z0h {n: Int} (h: zbk 0 n 1=true): ztp "range" [.int n]=some (.range 0 n 1):=(if_pos rfl).trans ((Option.bind_some n (fun n=>if zbk 0 n 1 then some (PV.range 0 n 1) else none)).trans (if_pos h))
theorem ztq {a b: Int} (h: zbk a b 1=true): ztp "range" [.int a,.int b]=some (.range a b 1):=(if_pos rfl).trans ((Option.bind_some a (fun a=>(intOf (.int b)).bind fun b=>if zbk a b 1 then some (PV.range a b 1) else none)).trans ((Option.bind_some b (fun b=>if zbk a b 1 then some (PV.range a b 1) else none)).trans (if_pos h)))
theorem z0i {a b c: Int} (h: zbk a b c=true): ztp "range" [.int a,.int b,.int c]=some (.range a b c):=(if_pos rfl).trans ((Option.bind_some c (fun c=>ii (.int a) (.int b) fun a b=>if zbk a b c then some (PV.range a b c) else none)).trans ((Option.bind_some a (fun a=>(intOf (.int b)).bind fun b=>if zbk a b c then some (PV.range a b c) else none)).trans ((Option.bind_some b (fun b=>if zbk a b c then some (PV.range a b c) else none)).trans (if_pos h))))
theorem ordP {s: Str} {c: Nat} (h: s.length=1) (h2: s.cps[0]? = some c): zcb "ord" [.str s]=some (.int (c: Int)):=(if_neg (by decide)).trans ((if_pos rfl).trans ((Option.bind_some s (fun s=>if s.length=1 then (s.cps[0]?).map fun (c: Nat)=>PV.int (c: Int) else none)).trans ((if_pos h).trans (by rw [h2]; rfl))))
theorem chrP {n: Int} (h: (decide (0<=n) && decide (n < 0x110000))=true): zcb "chr" [.int n]=some (.str ⟨#[n.toNat]⟩):=(if_neg (by decide)).trans ((if_neg (by decide)).trans ((if_pos rfl).trans ((Option.bind_some n (fun n: Int=>if 0<=n && n < 0x110000 then some (PV.str ⟨#[n.toNat]⟩) else none)).trans (if_pos h))))
theorem sumP {xs: List PV} {l: List Int} (h: zgk xs=some l): zcb "sum" [.list xs]=some (.int l.sum):=by
  have e: (listOf (.list xs)).bind (fun xs=>(zgk xs).map fun l=>PV.int l.sum)=some (.int l.sum):=(Option.bind_some xs (fun xs=>(zgk xs).map fun l: List Int=>PV.int l.sum)).trans (by rw [h]; rfl)
  exact (if_neg (by decide)).trans ((if_neg (by decide)).trans ((if_neg (by decide)).trans ((if_pos rfl).trans e)))
theorem zw8 {s a b: Str} (h: (a != b && zak (s.length + (s.length + 1) * b.length))=true): methP (.str s) (Str.ofString "replace") [.lit a,.lit b]=some (.str (PySem.Txt.replace s a b)):=by
  have e: (litOf (.lit a)).bind (fun a=>(litOf (.lit b)).bind fun b=>if a != b && zak (s.length + (s.length + 1) * b.length) then some (PV.str (PySem.Txt.replace s a b)) else none)=some (.str (PySem.Txt.replace s a b)):=
    (Option.bind_some a (fun a=>(litOf (.lit b)).bind fun b=>if a != b && zak (s.length + (s.length + 1) * b.length) then some (PV.str (PySem.Txt.replace s a b)) else none)).trans ((Option.bind_some b (fun b=>if a != b && zak (s.length + (s.length + 1) * b.length) then some (PV.str (PySem.Txt.replace s a b)) else none)).trans (if_pos h))
  show zdk s _ _=_
  unfold zdk
  rw [if_pos (by decide)]; exact e
theorem z5h {s: Str} {xs: List PV} {l: List Str} (h: zhp xs=some l) (h2: zak ((l.map (·.length)).sum + l.length * s.length)=true): methP (.str s) (Str.ofString "join") [.list xs]=some (.str (Txt.join s l)):=by
  have e: (listOf (.list xs)).bind (fun xs=>(zhp xs).bind fun l=>if zak ((l.map (·.length)).sum + l.length * s.length) then some (PV.str (Txt.join s l)) else none)=some (.str (Txt.join s l)):=
    (Option.bind_some xs (fun xs=>(zhp xs).bind fun l=>if zak ((l.map (·.length)).sum + l.length * s.length) then some (PV.str (Txt.join s l)) else none)).trans (by
      rw [h]; exact (Option.bind_some l (fun l=>if zak ((l.map (·.length)).sum + l.length * s.length) then some (PV.str (Txt.join s l)) else none)).trans (if_pos h2))
  show zdk s _ _=_
  unfold zdk
  rw [if_neg (by decide),if_neg (by decide),if_pos (by decide)]; exact e
theorem countP {s a: Str}: methP (.str s) (Str.ofString "count") [.str a]=some (.int (PySem.Txt.count s a)):=by
  show zdk s _ _=_
  unfold zdk
  rw [if_neg (by decide),if_pos (by decide)]; rfl
theorem z3b {s: Str} (h: zak (Txt.lower s).length=true): methP (.str s) (Str.ofString "lower") []=some (.str (PySem.Txt.lower s)):=by
  show zdk s _ _=_
  unfold zdk
  rw [if_neg (by decide),if_neg (by decide),if_neg (by decide),if_pos (by decide),zzr,h]; rfl
theorem z0j {k: Int} {xs: List PV} {l: List Int} (h: zgk xs=some l): inP (.int k) (.list xs)=some (l.contains k):=by
  show (listOf (.list xs)).bind (fun ys=>(zgk ys).map fun l: List Int=>l.contains k)=_
  rw [listOf,Option.bind_some,h]; rfl
noncomputable def isB3: PV -> Bool
  | .b3=>true
  | _=>false
theorem zw9 {x: PV} (h: isB3 x=true): x = .b3:=by cases x <;> first | rfl | exact ft h
noncomputable def optStr: Option Str -> PV
  | some s=>.str s
  | none=>.none
noncomputable def setR (ρ: Rho) (i: Nat) (s: Slot): Rho:=ρ.set i (some s)
noncomputable def zcw: List Nat -> List PV -> Rho -> Option Rho
  | [],xs,ρ=>(match xs with
    | []=>some ρ
    | _ :: _=>none)
  | t :: ts,xs,ρ=>(match xs with
    | []=>none
    | x :: xs=>zcw ts xs (setR ρ t (.val x)))
noncomputable def zbb (ts: List Nat) (single: Bool) (x: PV) (ρ: Rho): Option Rho:=
  if single then zcw ts [x] ρ else (tupP x).bind fun xs=>zcw ts xs ρ
noncomputable def isTup: PV -> Bool
  | .tuple _=>true
  | _=>false
structure GT where
  gv: Str -> Option PV
  fns: Str -> List PV -> Option PV
  b3get: Int -> Option (Option Str)
noncomputable def zmt (G: GT) (f: PV) (args: List PV): Option PV:=
  match f with
  | .fn n=>G.fns n args
  | .bi id=>zcb id args
  | .ty n=>ztp n args
  | _=>none
mutual
noncomputable def zag (G: GT): PE -> Rho -> Option PV
  | .none,_=>some .none
  | .bool b,_=>some (.bool b)
  | .int i,_=>some (.int i)
  | .str s,_=>some (.str s)
  | .var i,ρ=>valAt ρ i
  | .glob x,_=>G.gv x
  | .bin op a b,ρ=>(zag G a ρ).bind fun x=>(zag G b ρ).bind fun y=>binP op x y
  | .neg a,ρ=>(zag G a ρ).bind fun x=>(intOf x).map fun i=>.int (-i)
  | .inv a,ρ=>(zag G a ρ).bind fun x=>(intOf x).map fun i=>.int (Builtin.bitNot i)
  | .not _,_=>none
  | .and _,_=>none
  | .or _,_=>none
  | .cmp op a b,ρ=>(zag G a ρ).bind fun x=>(zag G b ρ).bind fun y=>
      (cmpV op x y).map .bool
  | .ifx t a b,ρ=>(za2 G t ρ).bind fun c=>if c then zag G a ρ else zag G b ρ
  | .sub a i,ρ=>(zag G a ρ).bind fun x=>(zag G i ρ).bind fun y=>subP x y
  | .subOwn x i,ρ=>(zag G i ρ).bind fun y=>(slotAt ρ x).bind fun s=>subP s.pv y
  | .notinOwn a x,ρ=>(zag G a ρ).bind fun y=>(zgr ρ x).bind fun kvs=>(strOf y).map fun k=>.bool (!(kvs.lookup k).isSome)
  | .slice a lo hi,ρ=>(zag G a ρ).bind fun x=>(zj7 G lo ρ).bind fun l=>(zj7 G hi ρ).bind fun h=>zq1 x l h
  | .rev a,ρ=>(zag G a ρ).bind fun x=>(listOf x).bind fun xs=>if zak (zdd xs none none (some (-1))).length then some (.list (zdd xs none none (some (-1)))) else none
  | .list es,ρ=>(zbe G es ρ).map .list
  | .tuple es,ρ=>(zbe G es ρ).map .tuple
  | .dict ks vs,ρ=>(zbe G ks ρ).bind fun k=>(zbe G vs ρ).bind fun v=>(zhp k).bind fun k=>if k.length=v.length && (k.length != 0 && decide (k.length<=15)) || v.isEmpty && k.isEmpty then some (.dict (zfm [] (k.zip v))) else none
  | .call f args,ρ=>(zag G f ρ).bind fun g=>(zbe G args ρ).bind fun as=>zmt G g as
  | .meth o m args,ρ=>(zag G o ρ).bind fun x=>(zbe G args ρ).bind fun as=>
      if isB3 x then (one as).bind fun a=>(intOf a).bind fun k=>if m == "get" then (G.b3get k).map optStr else none else methP x m as
  | .repl o y z,ρ=>(zag G o ρ).bind fun x=>(strOf x).bind fun s=>if y != z && zak (s.length + (s.length + 1) * z.length) then some (.str (Txt.replace s y z)) else none
  | .comp elt gens,ρ=>(zj8 G gens (fun ρ'=>zag G elt ρ') ρ).bind fun l=>if zak l.length then some (.list l) else none
  | .dcomp ..,_=>none
noncomputable def zj7 (G: GT): Option PE -> Rho -> Option (Option Int)
  | none,_=>some none
  | some e,ρ=>(zag G e ρ).bind fun x=>(intOf x).map some
noncomputable def zbe (G: GT): List PE -> Rho -> Option (List PV)
  | [],_=>some []
  | e :: es,ρ=>(zag G e ρ).bind fun x=>(zbe G es ρ).map fun xs=>x :: xs
noncomputable def za2 (G: GT): PE -> Rho -> Option Bool
  | .not a,ρ=>(za2 G a ρ).map (!·)
  | .and es,ρ=>allP G true es ρ
  | .or es,ρ=>allP G false es ρ
  | .ifx t a b,ρ=>(za2 G t ρ).bind fun c=>if c then za2 G a ρ else za2 G b ρ
  | .none,_=>some false
  | .bool b,_=>some b
  | .int i,_=>some (i != 0)
  | .str s,_=>some (s.length != 0)
  | .var i,ρ=>(valAt ρ i).bind zem
  | .glob x,_=>(G.gv x).bind zem
  | .cmp op a b,ρ=>(zag G a ρ).bind fun x=>(zag G b ρ).bind fun y=>
      cmpV op x y
  | .notinOwn a x,ρ=>(zag G a ρ).bind fun y=>(zgr ρ x).bind fun kvs=>(strOf y).map fun k=>!(kvs.lookup k).isSome
  | .call f args,ρ=>(zag G f ρ).bind fun g=>(zbe G args ρ).bind fun as=>(zmt G g as).bind zem
  | .bin ..,_=>none
  | .neg _,_=>none
  | .inv _,_=>none
  | .sub ..,_=>none
  | .subOwn ..,_=>none
  | .slice ..,_=>none
  | .rev _,_=>none
  | .list _,_=>none
  | .tuple _,_=>none
  | .dict ..,_=>none
  | .meth ..,_=>none
  | .repl ..,_=>none
  | .comp ..,_=>none
  | .dcomp ..,_=>none
noncomputable def allP (G: GT) (isAnd: Bool): List PE -> Rho -> Option Bool
  | [],_=>some isAnd
  | e :: es,ρ=>(za2 G e ρ).bind fun c=>if c == isAnd then allP G isAnd es ρ else some (!isAnd)
noncomputable def zen (G: GT): PI -> Rho -> Option (List PV)
  | .plain e,ρ=>(zag G e ρ).bind zj6
  | .enum e,ρ=>(zag G e ρ).bind fun x=>(enumItems x).map (zbo 0)
  | .revd e,ρ=>(zag G e ρ).bind fun x=>(listOf x).map List.reverse
noncomputable def zj8 (G: GT): List PG -> (Rho -> Option PV) -> Rho -> Option (List PV)
  | [],elt,ρ=>(elt ρ).map fun x=>[x]
  | .mk ts single it ifs :: gs,elt,ρ=>(zen G it ρ).bind fun items=>if single || items.all isTup then
      (items.mapM fun x=>(zbb ts single x ρ).bind fun ρ'=>(allP G true ifs ρ').bind fun c=>if c then zj8 G gs elt ρ' else some []).map List.flatten else none
end
noncomputable def forP (step: PV -> Rho -> Option Out): List PV -> Rho -> Option Out
  | [],ρ=>some (.next ρ)
  | x :: xs,ρ=>match step x ρ with
    | some (.next ρ')=>forP step xs ρ'
    | r=>r
noncomputable def zd6 (test: Rho -> Option Bool) (step: Rho -> Option Out): Nat -> Rho -> Option Out
  | 0,_=>none
  | n + 1,ρ=>match test ρ with
    | some true=>(match step ρ with
      | some (.next ρ')=>zd6 test step n ρ'
      | r=>r)
    | some false=>some (.next ρ)
    | none=>none
noncomputable def ownOf: PV -> Option Slot
  | .list xs=>some (.own xs)
  | .dict kvs=>some (.ownD kvs)
  | _=>none
noncomputable def znx: List Nat -> List Bool -> List PV -> Rho -> Option Rho
  | [],bs,xs,ρ=>if bs.isEmpty && xs.isEmpty then some ρ else none
  | t :: ts,bs,xs,ρ=>(xs.head?).bind fun x=>(bs.head?).bind fun b=>(if b then ownOf x else some (.val x)).bind fun s=>znx ts bs.tail xs.tail (setR ρ t s)
noncomputable def augP (op: Operator) (x y: PV): Option PV:=match op with
  | .Add=>(match x with
    | .int a=>(intOf y).map fun b=>.int (a + b)
    | .str a=>(strOf y).bind fun b=>if zak (a.length + b.length) then some (.str (a ++ b)) else none
    | _=>none)
  | .Sub=>ii x y fun x y=>some (.int (x - y))
  | .Mult=>ii x y fun x y=>if zc0 x y then some (.int (x * y)) else none
  | .LShift=>ii x y fun x n=>if 0<=n && zd5 (Builtin.Int.intBits x + n) then some (.int (x * 2 ^ n.toNat)) else none
  | .RShift=>ii x y fun x n=>if 0<=n then some (.int (x.fdiv (2 ^ n.toNat))) else none
  | .FloorDiv=>ii x y fun x y=>if y=0 then none else if Builtin.divisionGoesByPylong x y then none else some (.int (x.fdiv y))
  | _=>none
noncomputable def augS (op: Operator) (s: Slot) (y: PV): Option Slot:=match s with
  | .val p=>(augP op p y).map .val
  | .own xs=>if op = .Add then (listOf y).bind fun ys=>if zak (xs.length + ys.length) then some (.own (xs ++ ys)) else none else none
  | .ownD _=>none
mutual
noncomputable def zbr (G: GT): PS -> Rho -> Option Out
  | .asg t e,ρ=>(zag G e ρ).map fun x=>.next (setR ρ t (.val x))
  | .asgOwn t e,ρ=>(zag G e ρ).bind fun x=>(ownOf x).map fun s=>.next (setR ρ t s)
  | .asgT ts e,ρ=>(zag G e ρ).bind fun x=>(tupP x).bind fun xs=>(zcw ts xs ρ).map .next
  | .asgTOwn ts ow es,ρ=>(zbe G es ρ).bind fun xs=>(znx ts ow xs ρ).map .next
  | .aug t op e,ρ=>(slotAt ρ t).bind fun s=>(zag G e ρ).bind fun y=>augS op s y |>.map fun z=>.next (setR ρ t z)
  | .augIdx t i op e,ρ=>(ownAt ρ t).bind fun xs=>(zag G i ρ).bind fun k=>(zag G e ρ).bind fun y=>(intOf k).bind fun k=>
      if 0<=k && decide (k < 1000000000) then (xs[k.toNat]?).bind fun x=>(augP op x y).map fun z=>.next (setR ρ t (.own (xs.set k.toNat z))) else none
  | .setD t k e,ρ=>(zag G e ρ).bind fun y=>(zag G k ρ).bind fun k=>(zgr ρ t).bind fun kvs=>(strOf k).bind fun k=>if kvs.length<=1000 then some (.next (setR ρ t (.ownD (zj5 kvs k y)))) else none
  | .app t e,ρ=>(ownAt ρ t).bind fun xs=>(zag G e ρ).bind fun y=>if zak (xs.length + 1) then some (.next (setR ρ t (.own (xs ++ [y])))) else none
  | .revI t,ρ=>(ownAt ρ t).map fun xs=>.next (setR ρ t (.own xs.reverse))
  | .upd t e,ρ=>(zgr ρ t).bind fun kvs=>(zag G e ρ).bind fun x=>(dictOf x).bind fun l=>if kvs.length + l.length<=1000 then some (.next (setR ρ t (.ownD (zfm kvs l)))) else none
  | .ret e,ρ=>(zag G e ρ).map .ret
  | .ite t a b,ρ=>(za2 G t ρ).bind fun c=>if c then zap G a ρ else zap G b ρ
  | .forS ts single it body,ρ=>(zen G it ρ).bind fun items=>if single || items.all isTup then
      forP (fun x ρ'=>(zbb ts single x ρ').bind fun ρ''=>zap G body ρ'') items ρ else none
  | .whileS t body,ρ=>zd6 (fun ρ'=>za2 G t ρ') (fun ρ'=>zap G body ρ') 6 ρ
  | .tryS body,ρ=>zap G body ρ
  | .freeze t,ρ=>(slotAt ρ t).bind fun s=>if s.isOwn0 then some (.next (setR ρ t (.val s.pv))) else none
  | .fail,_=>none
noncomputable def zap (G: GT): List PS -> Rho -> Option Out
  | [],ρ=>some (.next ρ)
  | s :: ss,ρ=>match zbr G s ρ with
    | some (.next ρ')=>zap G ss ρ'
    | r=>r
end
theorem eE: (∀ (G: GT) (ρ: Rho),zag G .none ρ=some .none) /\
    (∀ (G: GT) b (ρ: Rho),zag G (.bool b) ρ=some (.bool b)) /\
    (∀ (G: GT) i (ρ: Rho),zag G (.int i) ρ=some (.int i)) /\
    (∀ (G: GT) s (ρ: Rho),zag G (.str s) ρ=some (.str s)) /\
    (∀ (G: GT) i (ρ: Rho),zag G (.var i) ρ=valAt ρ i) /\
    (∀ (G: GT) x (ρ: Rho),zag G (.glob x) ρ=G.gv x) /\
    (∀ (G: GT) op a b (ρ: Rho),zag G (.bin op a b) ρ=(zag G a ρ).bind fun x=>(zag G b ρ).bind fun y=>binP op x y) /\
    (∀ (G: GT) a (ρ: Rho),zag G (.neg a) ρ=(zag G a ρ).bind fun x=>(intOf x).map fun i=>.int (-i)) /\
    (∀ (G: GT) a (ρ: Rho),zag G (.inv a) ρ=(zag G a ρ).bind fun x=>(intOf x).map fun i=>.int (Builtin.bitNot i)) /\
    (∀ (G: GT) y0 (ρ: Rho),zag G (.not y0) ρ=none) /\
    (∀ (G: GT) y0 (ρ: Rho),zag G (.and y0) ρ=none) /\
    (∀ (G: GT) y0 (ρ: Rho),zag G (.or y0) ρ=none) /\
    (∀ (G: GT) op a b (ρ: Rho),zag G (.cmp op a b) ρ=(zag G a ρ).bind fun x=>(zag G b ρ).bind fun y=>
      (cmpV op x y).map .bool) /\
    (∀ (G: GT) t a b (ρ: Rho),zag G (.ifx t a b) ρ=(za2 G t ρ).bind fun c=>if c then zag G a ρ else zag G b ρ) /\
    (∀ (G: GT) a i (ρ: Rho),zag G (.sub a i) ρ=(zag G a ρ).bind fun x=>(zag G i ρ).bind fun y=>subP x y) /\
    (∀ (G: GT) x i (ρ: Rho),zag G (.subOwn x i) ρ=(zag G i ρ).bind fun y=>(slotAt ρ x).bind fun s=>subP s.pv y) /\
    (∀ (G: GT) a x (ρ: Rho),zag G (.notinOwn a x) ρ=(zag G a ρ).bind fun y=>(zgr ρ x).bind fun kvs=>(strOf y).map fun k=>.bool (!(kvs.lookup k).isSome)) /\
    (∀ (G: GT) a lo hi (ρ: Rho),zag G (.slice a lo hi) ρ=(zag G a ρ).bind fun x=>(zj7 G lo ρ).bind fun l=>(zj7 G hi ρ).bind fun h=>zq1 x l h) /\
    (∀ (G: GT) a (ρ: Rho),zag G (.rev a) ρ=(zag G a ρ).bind fun x=>(listOf x).bind fun xs=>if zak (zdd xs none none (some (-1))).length then some (.list (zdd xs none none (some (-1)))) else none) /\
    (∀ (G: GT) es (ρ: Rho),zag G (.list es) ρ=(zbe G es ρ).map .list) /\
    (∀ (G: GT) es (ρ: Rho),zag G (.tuple es) ρ=(zbe G es ρ).map .tuple) /\
    (∀ (G: GT) ks vs (ρ: Rho),zag G (.dict ks vs) ρ=(zbe G ks ρ).bind fun k=>(zbe G vs ρ).bind fun v=>(zhp k).bind fun k=>if k.length=v.length && (k.length != 0 && decide (k.length<=15)) || v.isEmpty && k.isEmpty then some (.dict (zfm [] (k.zip v))) else none) /\
    (∀ (G: GT) f args (ρ: Rho),zag G (.call f args) ρ=(zag G f ρ).bind fun g=>(zbe G args ρ).bind fun as=>zmt G g as) /\
    (∀ (G: GT) o m args (ρ: Rho),zag G (.meth o m args) ρ=(zag G o ρ).bind fun x=>(zbe G args ρ).bind fun as=>
      if isB3 x then (one as).bind fun a=>(intOf a).bind fun k=>if m == "get" then (G.b3get k).map optStr else none else methP x m as) /\
    (∀ (G: GT) o y z (ρ: Rho),zag G (.repl o y z) ρ=(zag G o ρ).bind fun x=>(strOf x).bind fun s=>if y != z && zak (s.length + (s.length + 1) * z.length) then some (.str (Txt.replace s y z)) else none) /\
    (∀ (G: GT) elt gens (ρ: Rho),zag G (.comp elt gens) ρ=(zj8 G gens (fun ρ'=>zag G elt ρ') ρ).bind fun l=>if zak l.length then some (.list l) else none) /\
    (∀ (G: GT) x0 x1 x2 (ρ: Rho),zag G (.dcomp x0 x1 x2) ρ=none):=
  ⟨by intros; rfl,by intros; rfl,by intros; rfl,by intros; rfl,by intros; rfl,by intros; rfl,by intros; rfl,by intros; rfl,by intros; rfl,by intros; rfl,by intros; rfl,by intros; rfl,by intros; rfl,by intros; rfl,by intros; rfl,by intros; rfl,by intros; rfl,by intros; rfl,by intros; rfl,by intros; rfl,by intros; rfl,by intros; rfl,by intros; rfl,by intros; rfl,by intros; rfl,by intros; rfl,by intros; rfl⟩
theorem tE: (∀ (G: GT) a (ρ: Rho),za2 G (.not a) ρ=(za2 G a ρ).map (!·)) /\
    (∀ (G: GT) es (ρ: Rho),za2 G (.and es) ρ=allP G true es ρ) /\
    (∀ (G: GT) es (ρ: Rho),za2 G (.or es) ρ=allP G false es ρ) /\
    (∀ (G: GT) t a b (ρ: Rho),za2 G (.ifx t a b) ρ=(za2 G t ρ).bind fun c=>if c then za2 G a ρ else za2 G b ρ) /\
    (∀ (G: GT) (ρ: Rho),za2 G .none ρ=some false) /\
    (∀ (G: GT) b (ρ: Rho),za2 G (.bool b) ρ=some b) /\
    (∀ (G: GT) i (ρ: Rho),za2 G (.int i) ρ=some (i != 0)) /\
    (∀ (G: GT) s (ρ: Rho),za2 G (.str s) ρ=some (s.length != 0)) /\
    (∀ (G: GT) i (ρ: Rho),za2 G (.var i) ρ=(valAt ρ i).bind zem) /\
    (∀ (G: GT) x (ρ: Rho),za2 G (.glob x) ρ=(G.gv x).bind zem) /\
    (∀ (G: GT) op a b (ρ: Rho),za2 G (.cmp op a b) ρ=(zag G a ρ).bind fun x=>(zag G b ρ).bind fun y=>
      cmpV op x y) /\
    (∀ (G: GT) a x (ρ: Rho),za2 G (.notinOwn a x) ρ=(zag G a ρ).bind fun y=>(zgr ρ x).bind fun kvs=>(strOf y).map fun k=>!(kvs.lookup k).isSome) /\
    (∀ (G: GT) f args (ρ: Rho),za2 G (.call f args) ρ=(zag G f ρ).bind fun g=>(zbe G args ρ).bind fun as=>(zmt G g as).bind zem) /\
    (∀ (G: GT) x0 x1 x2 (ρ: Rho),za2 G (.bin x0 x1 x2) ρ=none) /\
    (∀ (G: GT) y0 (ρ: Rho),za2 G (.neg y0) ρ=none) /\
    (∀ (G: GT) y0 (ρ: Rho),za2 G (.inv y0) ρ=none) /\
    (∀ (G: GT) x0 x1 (ρ: Rho),za2 G (.sub x0 x1) ρ=none) /\
    (∀ (G: GT) x0 x1 (ρ: Rho),za2 G (.subOwn x0 x1) ρ=none) /\
    (∀ (G: GT) x0 x1 x2 (ρ: Rho),za2 G (.slice x0 x1 x2) ρ=none) /\
    (∀ (G: GT) y0 (ρ: Rho),za2 G (.rev y0) ρ=none) /\
    (∀ (G: GT) y0 (ρ: Rho),za2 G (.list y0) ρ=none) /\
    (∀ (G: GT) y0 (ρ: Rho),za2 G (.tuple y0) ρ=none) /\
    (∀ (G: GT) x0 x1 (ρ: Rho),za2 G (.dict x0 x1) ρ=none) /\
    (∀ (G: GT) x0 x1 x2 (ρ: Rho),za2 G (.meth x0 x1 x2) ρ=none) /\
    (∀ (G: GT) x0 x1 x2 (ρ: Rho),za2 G (.repl x0 x1 x2) ρ=none) /\
    (∀ (G: GT) x0 x1 (ρ: Rho),za2 G (.comp x0 x1) ρ=none) /\
    (∀ (G: GT) x0 x1 x2 (ρ: Rho),za2 G (.dcomp x0 x1 x2) ρ=none):=
  ⟨by intros; rfl,by intros; rfl,by intros; rfl,by intros; rfl,by intros; rfl,by intros; rfl,by intros; rfl,by intros; rfl,by intros; rfl,by intros; rfl,by intros; rfl,by intros; rfl,by intros; rfl,by intros; rfl,by intros; rfl,by intros; rfl,by intros; rfl,by intros; rfl,by intros; rfl,by intros; rfl,by intros; rfl,by intros; rfl,by intros; rfl,by intros; rfl,by intros; rfl,by intros; rfl,by intros; rfl⟩
theorem xE: (∀ (G: GT) t e (ρ: Rho),zbr G (.asg t e) ρ=(zag G e ρ).map fun x=>.next (setR ρ t (.val x))) /\
    (∀ (G: GT) t e (ρ: Rho),zbr G (.asgOwn t e) ρ=(zag G e ρ).bind fun x=>(ownOf x).map fun s=>.next (setR ρ t s)) /\
    (∀ (G: GT) ts e (ρ: Rho),zbr G (.asgT ts e) ρ=(zag G e ρ).bind fun x=>(tupP x).bind fun xs=>(zcw ts xs ρ).map .next) /\
    (∀ (G: GT) ts ow es (ρ: Rho),zbr G (.asgTOwn ts ow es) ρ=(zbe G es ρ).bind fun xs=>(znx ts ow xs ρ).map .next) /\
    (∀ (G: GT) t op e (ρ: Rho),zbr G (.aug t op e) ρ=(slotAt ρ t).bind fun s=>(zag G e ρ).bind fun y=>augS op s y |>.map fun z=>.next (setR ρ t z)) /\
    (∀ (G: GT) t i op e (ρ: Rho),zbr G (.augIdx t i op e) ρ=(ownAt ρ t).bind fun xs=>(zag G i ρ).bind fun k=>(zag G e ρ).bind fun y=>(intOf k).bind fun k=>
      if 0<=k && decide (k < 1000000000) then (xs[k.toNat]?).bind fun x=>(augP op x y).map fun z=>.next (setR ρ t (.own (xs.set k.toNat z))) else none) /\
    (∀ (G: GT) t k e (ρ: Rho),zbr G (.setD t k e) ρ=(zag G e ρ).bind fun y=>(zag G k ρ).bind fun k=>(zgr ρ t).bind fun kvs=>(strOf k).bind fun k=>if kvs.length<=1000 then some (.next (setR ρ t (.ownD (zj5 kvs k y)))) else none) /\
    (∀ (G: GT) t e (ρ: Rho),zbr G (.app t e) ρ=(ownAt ρ t).bind fun xs=>(zag G e ρ).bind fun y=>if zak (xs.length + 1) then some (.next (setR ρ t (.own (xs ++ [y])))) else none) /\
    (∀ (G: GT) t (ρ: Rho),zbr G (.revI t) ρ=(ownAt ρ t).map fun xs=>.next (setR ρ t (.own xs.reverse))) /\
    (∀ (G: GT) t e (ρ: Rho),zbr G (.upd t e) ρ=(zgr ρ t).bind fun kvs=>(zag G e ρ).bind fun x=>(dictOf x).bind fun l=>if kvs.length + l.length<=1000 then some (.next (setR ρ t (.ownD (zfm kvs l)))) else none) /\
    (∀ (G: GT) e (ρ: Rho),zbr G (.ret e) ρ=(zag G e ρ).map .ret) /\
    (∀ (G: GT) t a b (ρ: Rho),zbr G (.ite t a b) ρ=(za2 G t ρ).bind fun c=>if c then zap G a ρ else zap G b ρ) /\
    (∀ (G: GT) ts single it body (ρ: Rho),zbr G (.forS ts single it body) ρ=(zen G it ρ).bind fun items=>if single || items.all isTup then
      forP (fun x ρ'=>(zbb ts single x ρ').bind fun ρ''=>zap G body ρ'') items ρ else none) /\
    (∀ (G: GT) t body (ρ: Rho),zbr G (.whileS t body) ρ=zd6 (fun ρ'=>za2 G t ρ') (fun ρ'=>zap G body ρ') 6 ρ) /\
    (∀ (G: GT) body (ρ: Rho),zbr G (.tryS body) ρ=zap G body ρ) /\
    (∀ (G: GT) t (ρ: Rho),zbr G (.freeze t) ρ=(slotAt ρ t).bind fun s=>if s.isOwn0 then some (.next (setR ρ t (.val s.pv))) else none) /\
    (∀ (G: GT) (ρ: Rho),zbr G .fail ρ=none):=
  ⟨by intros; rfl,by intros; rfl,by intros; rfl,by intros; rfl,by intros; rfl,by intros; rfl,by intros; rfl,by intros; rfl,by intros; rfl,by intros; rfl,by intros; rfl,by intros; rfl,by intros; rfl,by intros; rfl,by intros; rfl,by intros; rfl,by intros; rfl⟩
theorem pE: (∀ (G: GT) (ρ: Rho),zj7 G none ρ=some none) /\
    (∀ (G: GT) e (ρ: Rho),zj7 G (some e) ρ=(zag G e ρ).bind fun x=>(intOf x).map some) /\
    (∀ (G: GT) (ρ: Rho),zbe G [] ρ=some []) /\
    (∀ (G: GT) e es (ρ: Rho),zbe G (e :: es) ρ=(zag G e ρ).bind fun x=>(zbe G es ρ).map fun xs=>x :: xs) /\
    (∀ (G: GT) b (ρ: Rho),allP G b [] ρ=some b) /\
    (∀ (G: GT) b e es (ρ: Rho),allP G b (e :: es) ρ=(za2 G e ρ).bind fun c=>if c == b then allP G b es ρ else some (!b)) /\
    (∀ (G: GT) e (ρ: Rho),zen G (.plain e) ρ=(zag G e ρ).bind zj6) /\
    (∀ (G: GT) e (ρ: Rho),zen G (.enum e) ρ=(zag G e ρ).bind fun x=>(enumItems x).map (zbo 0)) /\
    (∀ (G: GT) e (ρ: Rho),zen G (.revd e) ρ=(zag G e ρ).bind fun x=>(listOf x).map List.reverse) /\
    (∀ (G: GT) elt (ρ: Rho),zj8 G [] elt ρ=(elt ρ).map fun x=>[x]) /\
    (∀ (G: GT) ts single it ifs gs elt (ρ: Rho),zj8 G (.mk ts single it ifs :: gs) elt ρ=(zen G it ρ).bind fun items=>if single || items.all isTup then
      (items.mapM fun x=>(zbb ts single x ρ).bind fun ρ'=>(allP G true ifs ρ').bind fun c=>if c then zj8 G gs elt ρ' else some []).map List.flatten else none) /\
    (∀ ρ,zcw [] [] ρ=some ρ) /\
    (∀ x xs ρ,zcw [] (x :: xs) ρ=none) /\
    (∀ t ts ρ,zcw (t :: ts) [] ρ=none) /\
    (∀ t ts x xs ρ,zcw (t :: ts) (x :: xs) ρ=zcw ts xs (setR ρ t (.val x))) /\
    (∀ bs xs ρ,znx [] bs xs ρ=if bs.isEmpty && xs.isEmpty then some ρ else none) /\
    (∀ t ts bs xs ρ,znx (t :: ts) bs xs ρ=(xs.head?).bind fun x=>(bs.head?).bind fun b=>(if b then ownOf x else some (.val x)).bind fun s=>znx ts bs.tail xs.tail (setR ρ t s)) /\
    (∀ (G: GT) (ρ: Rho),zap G [] ρ=some (.next ρ)) /\
    (∀ (G: GT) s ss (ρ: Rho),zap G (s :: ss) ρ=match zbr G s ρ with
      | some (.next ρ')=>zap G ss ρ'
      | r=>r) /\
    (∀ step ρ,forP step [] ρ=some (.next ρ)) /\
    (∀ step x xs ρ,forP step (x :: xs) ρ=match step x ρ with
      | some (.next ρ')=>forP step xs ρ'
      | r=>r) /\
    (∀ test step ρ,zd6 test step 0 ρ=none) /\
    (∀ test step n ρ,zd6 test step (n + 1) ρ=match test ρ with
      | some true=>(match step ρ with
        | some (.next ρ')=>zd6 test step n ρ'
        | r=>r)
      | some false=>some (.next ρ)
      | none=>none):=
  ⟨by intros; rfl,by intros; rfl,by intros; rfl,by intros; rfl,by intros; rfl,by intros; rfl,by intros; rfl,by intros; rfl,by intros; rfl,by intros; rfl,by intros; rfl,by intros; rfl,by intros; rfl,by intros; rfl,by intros; rfl,by intros; rfl,by intros; rfl,by intros; rfl,by intros; rfl,by intros; rfl,by intros; rfl,by intros; rfl,by intros; rfl⟩
theorem ztr (G: GT) (s: PS) (ss: List PS) (ρ: Rho): zap G (s :: ss) ρ=match zbr G s ρ with
    | some (.next ρ')=>zap G ss ρ'
    | r=>r:=rfl
theorem z3c (test: Rho -> Option Bool) (step: Rho -> Option Out) (n: Nat) (ρ: Rho): zd6 test step (n + 1) ρ=match test ρ with
    | some true=>(match step ρ with
      | some (.next ρ')=>zd6 test step n ρ'
      | r=>r)
    | some false=>some (.next ρ)
    | none=>none:=rfl
theorem vE: (∀ a,intOf (.int a)=some a)/\(∀ a,strOf (.str a)=some a)/\(∀ a,listOf (.list a)=some a)/\(∀ a,dictOf (.dict a)=some a)/\(∀ a,tupP (.tuple a)=some a)/\(∀ a,ownOf (.list a)=some (.own a))/\(∀ a,ownOf (.dict a)=some (.ownD a))/\(∀ a,one [a]=some a) /\
    zem .none=some false/\(∀ b,zem (.bool b)=some b)/\(∀ i,zem (.int i)=some (i != 0))/\(∀ s,zem (.str s)=some (s.length != 0)) /\
    (∀ op p y,augS op (.val p) y=(augP op p y).map .val)/\(∀ op xs y,augS op (.own xs) y=if op = .Add then (listOf y).bind fun ys=>if zak (xs.length + ys.length) then some (.own (xs ++ ys)) else none else none):=
  ⟨by intros; rfl,by intros; rfl,by intros; rfl,by intros; rfl,by intros; rfl,by intros; rfl,by intros; rfl,by intros; rfl,rfl,by intros; rfl,by intros; rfl,by intros; rfl,by intros; rfl,by intros; rfl⟩
noncomputable def idx: List Str -> Str -> Option Nat
  | [],_=>none
  | y :: r,x=>if x == y then some r.length else idx r x
theorem idxE (y: Str) (r: List Str) (x: Str): idx (y :: r) x=if x == y then some r.length else idx r x:=rfl
structure CE where
  sc: Scope
  σ: List Str
  own: List Str
  base: Nat:=0
noncomputable def visK (base i: Nat): Option NameKind -> Bool
  | some .local=>decide (base<=i)
  | some .cell=>decide (base<=i)
  | some .free=>true
  | _=>false
noncomputable def zq2: Option NameKind -> Bool
  | some .local=>true
  | some .cell=>true
  | some .free=>true
  | _=>false
end Mine
namespace Mine
open PySem
noncomputable def zio: List Nat:=[10,9,8]
noncomputable def zny: Nat:=11
noncomputable def ziq: List PS:=[
  .ite (.cmp .LtE (.bin .Sub (.meth (.var 10) (Str.ofString "bit_length") []) (.var 8)) (.glob "_DIV_LIMIT")) [.ret (.call (.glob "divmod") [(.var 10),(.var 9)])] [],
  .asg 7 (.bin .BitAnd (.var 8) (.int 1)),
  .ite (.var 7) [.aug 10 .LShift (.int 1),.aug 9 .LShift (.int 1),.aug 8 .Add (.int 1)] [],
  .asg 6 (.bin .RShift (.var 8) (.int 1)),
  .asg 5 (.bin .Sub (.bin .LShift (.int 1) (.var 6)) (.int 1)),
  .asgT [4,3] (.tuple [(.bin .RShift (.var 9) (.var 6)),(.bin .BitAnd (.var 9) (.var 5))]),
  .asgT [2,1] (.call (.glob "_div3n2n") [(.bin .RShift (.var 10) (.var 8)),(.bin .BitAnd (.bin .RShift (.var 10) (.var 6)) (.var 5)),(.var 9),(.var 4),(.var 3),(.var 6)]),
  .asgT [0,1] (.call (.glob "_div3n2n") [(.var 1),(.bin .BitAnd (.var 10) (.var 5)),(.var 9),(.var 4),(.var 3),(.var 6)]),
  .ite (.var 7) [.aug 1 .RShift (.int 1)] [],
  .ret (.tuple [(.bin .BitOr (.bin .LShift (.var 2) (.var 6)) (.var 0)),(.var 1)])]
noncomputable def zir: List Nat:=[7,6,5,4,3,2]
noncomputable def znz: Nat:=8
noncomputable def zis: List PS:=[
  .ite (.cmp .Eq (.bin .RShift (.var 7) (.var 2)) (.var 4)) [.asgT [1,0] (.tuple [(.bin .Sub (.bin .LShift (.int 1) (.var 2)) (.int 1)),(.bin .Add (.bin .Sub (.var 7) (.bin .LShift (.var 4) (.var 2))) (.var 4))])] [.asgT [1,0] (.call (.glob "_div2n1n") [(.var 7),(.var 4),(.var 2)])],
  .asg 0 (.bin .Sub (.bin .BitOr (.bin .LShift (.var 0) (.var 2)) (.var 6)) (.bin .Mult (.var 1) (.var 3))),
  .whileS (.cmp .Lt (.var 0) (.int 0)) [.aug 1 .Sub (.int 1),.aug 0 .Add (.var 5)],
  .ret (.tuple [(.var 1),(.var 0)])]
noncomputable def ze0: List Nat:=[8,7]
noncomputable def zjj: Nat:=9
noncomputable def ze1: List PS:=[
  .asg 6 (.meth (.var 7) (Str.ofString "bit_length") []),
  .asg 5 (.call (.glob "_int2digits") [(.var 8),(.var 6)]),
  .asg 4 (.int 0),
  .asgOwn 3 (.list []),
  .forS [2] true (.revd (.var 5)) [.asgT [1,4] (.call (.glob "_div2n1n") [(.bin .Add (.bin .LShift (.var 4) (.var 6)) (.var 2)),(.var 7),(.var 6)]),.app 3 (.var 1)],
  .revI 3,
  .freeze 3,
  .asg 0 (.call (.glob "_digits2int") [(.var 3),(.var 6)]),
  .ret (.tuple [(.var 0),(.var 4)])]
noncomputable def ze2: List Nat:=[3,2]
noncomputable def zjk: Nat:=4
noncomputable def ze3: List PS:=[
  .ite (.cmp .Eq (.var 2) (.int 0)) [.fail] [.ite (.cmp .Lt (.var 2) (.int 0)) [.asgT [1,0] (.call (.glob "int_divmod") [(.neg (.var 3)),(.neg (.var 2))]),.ret (.tuple [(.var 1),(.neg (.var 0))])] [.ite (.cmp .Lt (.var 3) (.int 0)) [.asgT [1,0] (.call (.glob "int_divmod") [(.inv (.var 3)),(.var 2)]),.ret (.tuple [(.inv (.var 1)),(.bin .Add (.var 2) (.inv (.var 0)))])] [.ret (.call (.glob "_divmod_pos") [(.var 3),(.var 2)])]]]]
noncomputable def zee: List Nat:=[0]
noncomputable def zhq: Nat:=1
noncomputable def zef: List PS:=[
  .ret (.cmp .In (.call (.glob "ord") [(.var 0)]) (.glob "b1_set"))]
noncomputable def zdw: List Nat:=[1]
noncomputable def zgs: Nat:=2
noncomputable def zdx: List PS:=[
  .asg 0 (.meth (.glob "b3_exceptions") (Str.ofString "get") [(.call (.glob "ord") [(.var 1)])]),
  .ite (.cmp .IsNot (.var 0) .none) [.ret (.var 0)] [],
  .ret (.meth (.var 1) (Str.ofString "lower") [])]
noncomputable def zfn: List Nat:=[0]
noncomputable def zlk: Nat:=1
noncomputable def zdy: List PS:=[
  .tryS [.ite (.cmp .In (.str "&") (.var 0)) [.asg 0 (.repl (.var 0) (Str.ofString "&") (Str.ofString "&amp;"))] [],.ite (.cmp .In (.str "<") (.var 0)) [.asg 0 (.repl (.var 0) (Str.ofString "<") (Str.ofString "&lt;"))] [],.ite (.cmp .In (.str ">") (.var 0)) [.asg 0 (.repl (.var 0) (Str.ofString ">") (Str.ofString "&gt;"))] [],.ret (.var 0)]]
noncomputable def zfi: List Nat:=[0]
noncomputable def zj9: Nat:=1
noncomputable def zde: List PS:=[
  .tryS [.ite (.cmp .In (.str "&") (.var 0)) [.asg 0 (.repl (.var 0) (Str.ofString "&") (Str.ofString "&amp;"))] [],.ite (.cmp .In (.str "<") (.var 0)) [.asg 0 (.repl (.var 0) (Str.ofString "<") (Str.ofString "&lt;"))] [],.ite (.cmp .In (.str ">") (.var 0)) [.asg 0 (.repl (.var 0) (Str.ofString ">") (Str.ofString "&gt;"))] [],.ite (.cmp .In (.str "\u0022") (.var 0)) [.asg 0 (.repl (.var 0) (Str.ofString "\u0022") (Str.ofString "&quot;"))] [],.ite (.cmp .In (.str "\u000d") (.var 0)) [.asg 0 (.repl (.var 0) (Str.ofString "\u000d") (Str.ofString "&#13;"))] [],.ite (.cmp .In (.str "\u000a") (.var 0)) [.asg 0 (.repl (.var 0) (Str.ofString "\u000a") (Str.ofString "&#10;"))] [],.ite (.cmp .In (.str "\u0009") (.var 0)) [.asg 0 (.repl (.var 0) (Str.ofString "\u0009") (Str.ofString "&#09;"))] [],.ret (.var 0)]]
noncomputable def zc6: List Nat:=[0]
noncomputable def zgl: Nat:=1
noncomputable def zb5: List PS:=[
  .tryS [.ite (.cmp .In (.str "&") (.var 0)) [.asg 0 (.repl (.var 0) (Str.ofString "&") (Str.ofString "&amp;"))] [],.ite (.cmp .In (.str ">") (.var 0)) [.asg 0 (.repl (.var 0) (Str.ofString ">") (Str.ofString "&gt;"))] [],.ite (.cmp .In (.str "\u0022") (.var 0)) [.asg 0 (.repl (.var 0) (Str.ofString "\u0022") (Str.ofString "&quot;"))] [],.ret (.var 0)]]
noncomputable def zdh: List Nat:=[0]
noncomputable def zg0: Nat:=1
noncomputable def zcg: List PS:=[
  .tryS [.ite (.cmp .In (.str "&") (.var 0)) [.asg 0 (.repl (.var 0) (Str.ofString "&") (Str.ofString "&amp;"))] [],.ite (.cmp .In (.str "<") (.var 0)) [.asg 0 (.repl (.var 0) (Str.ofString "<") (Str.ofString "&lt;"))] [],.ite (.cmp .In (.str ">") (.var 0)) [.asg 0 (.repl (.var 0) (Str.ofString ">") (Str.ofString "&gt;"))] [],.ite (.cmp .In (.str "\u000d") (.var 0)) [.asg 0 (.repl (.var 0) (Str.ofString "\u000d") (Str.ofString "&#xD;"))] [],.ret (.var 0)]]
noncomputable def zc7: List Nat:=[0]
noncomputable def zgm: Nat:=1
noncomputable def zb6: List PS:=[
  .tryS [.ite (.cmp .In (.str "&") (.var 0)) [.asg 0 (.repl (.var 0) (Str.ofString "&") (Str.ofString "&amp;"))] [],.ite (.cmp .In (.str "<") (.var 0)) [.asg 0 (.repl (.var 0) (Str.ofString "<") (Str.ofString "&lt;"))] [],.ite (.cmp .In (.str "\u0022") (.var 0)) [.asg 0 (.repl (.var 0) (Str.ofString "\u0022") (Str.ofString "&quot;"))] [],.ite (.cmp .In (.str "\u0009") (.var 0)) [.asg 0 (.repl (.var 0) (Str.ofString "\u0009") (Str.ofString "&#x9;"))] [],.ite (.cmp .In (.str "\u000a") (.var 0)) [.asg 0 (.repl (.var 0) (Str.ofString "\u000a") (Str.ofString "&#xA;"))] [],.ite (.cmp .In (.str "\u000d") (.var 0)) [.asg 0 (.repl (.var 0) (Str.ofString "\u000d") (Str.ofString "&#xD;"))] [],.ret (.var 0)]]
noncomputable def zg1: List Nat:=[3]
noncomputable def zl2: Nat:=4
noncomputable def zg2: List PS:=[
  .asg 2 (.list [(.glob "_escape_cdata"),(.glob "_escape_attrib"),(.glob "_escape_attrib_html"),(.glob "_escape_cdata_c14n"),(.glob "_escape_attrib_c14n")]),
  .asg 1 (.sub (.list [(.str "&<>"),(.str "&<>\u0022\u000d\u000a\u0009"),(.str "&>\u0022"),(.str "&<>\u000d"),(.str "&<\u0022\u0009\u000a\u000d")]) (.var 3)),
  .asgOwn 0 (.dict [(.str "&"),(.str "<"),(.str ">"),(.str "\u0022"),(.str "\u000d"),(.str "\u000a"),(.str "\u0009")] [(.str "&amp;"),(.str "&lt;"),(.str "&gt;"),(.str "&quot;"),(.str "&#xD;"),(.str "&#xA;"),(.str "&#x9;")]),
  .upd 0 (.ifx (.cmp .Eq (.var 3) (.int 1)) (.dict [(.str "\u000d"),(.str "\u000a"),(.str "\u0009")] [(.str "&#13;"),(.str "&#10;"),(.str "&#09;")]) (.dict [] [])),
  .freeze 0,
  .ret (.tuple [(.sub (.var 2) (.var 3)),(.var 1),(.var 0)])]
noncomputable def zg3: List Nat:=[12,11,10,9]
noncomputable def zl3: Nat:=14
noncomputable def zg4: List PS:=[
  .asg 8 (.bin .Add (.list [(.int 173),(.int 847),(.int 6150),(.int 6155),(.int 6156),(.int 6157),(.int 8203),(.int 8204),(.int 8205),(.int 8288),(.int 65279)]) (.call (.glob "list") [(.call (.glob "range") [(.int 65024),(.int 65040)])])),
  .asg 7 (.bin .Add (.list [(.int 97),(.int 65)]) (.comp (.bin .Add (.int 119808) (.bin .Mult (.int 52) (.var 13))) [(.mk [13] true (.plain (.tuple [(.int 0),(.int 1),(.int 2),(.int 4),(.int 7),(.int 8),(.int 9),(.int 10),(.int 11),(.int 12)])) [])])),
  .asgOwn 6 (.list []),
  .forS [5,4] false (.enum (.ifx (.cmp .Eq (.bin .Mod (.var 9) (.int 2)) (.int 1)) (.meth (.var 12) (Str.ofString "replace") [(.var 11),(.var 10)]) (.var 12))) [.asg 3 (.bin .Mod (.bin .FloorDiv (.var 9) (.bin .Pow (.int 13) (.var 5))) (.int 36)),.asg 2 (.ifx (.cmp .Eq (.var 4) (.var 10)) (.var 4) (.call (.glob "chr") [(.bin .Sub (.bin .Add (.sub (.var 7) (.bin .Mod (.var 3) (.int 12))) (.call (.glob "ord") [(.var 4)])) (.int 97))])),.asg 1 (.call (.glob "chr") [(.sub (.var 8) (.bin .Mod (.bin .FloorDiv (.var 9) (.bin .Add (.var 5) (.int 2))) (.int 27)))]),.aug 6 .Add (.ifx (.cmp .Lt (.var 3) (.int 12)) (.list [(.var 2)]) (.ifx (.cmp .Lt (.var 3) (.int 24)) (.list [(.var 1),(.var 2)]) (.list [(.var 2),(.var 1)])))],
  .freeze 6,
  .asg 0 (.comp (.call (.glob "in_table_b1") [(.var 13)]) [(.mk [13] true (.plain (.var 6)) [])]),
  .ite (.cmp .NotEq (.comp (.cmp .Is (.var 13) (.bool true)) [(.mk [13] true (.plain (.var 0)) [])]) (.comp (.cmp .In (.call (.glob "ord") [(.var 13)]) (.var 8)) [(.mk [13] true (.plain (.var 6)) [])])) [.ret (.str "")] [],
  .ret (.meth (.str "") (Str.ofString "join") [(.comp (.call (.glob "map_table_b3") [(.subOwn 6 (.var 13))]) [(.mk [13] true (.plain (.call (.glob "range") [(.call (.glob "len") [(.var 6)])])) [(.cmp .Is (.sub (.var 0) (.var 13)) (.bool false))])])])]
noncomputable def zg5: List Nat:=[6,5,4,3]
noncomputable def zl4: Nat:=7
noncomputable def zg6: List PS:=[
  .asg 2 (.str ""),
  .forS [1,0] false (.enum (.var 6)) [.asg 2 (.ifx (.cmp .Eq (.var 0) (.var 5)) (.bin .Add (.var 2) (.sub (.var 3) (.bin .Mod (.var 1) (.call (.glob "len") [(.var 3)])))) (.call (.var 4) [(.var 2)]))],
  .ret (.var 2)]
noncomputable def zit: List Nat:=[5,4,3,2]
noncomputable def zn0: Nat:=7
noncomputable def ziu: List PS:=[
  .asg 1 (.comp (.var 6) [(.mk [6] true (.plain (.call (.glob "range") [(.call (.glob "len") [(.var 5)])])) [(.cmp .Eq (.sub (.var 5) (.var 6)) (.sub (.var 4) (.int 0)))])]),
  .asg 0 (.comp (.meth (.slice (.var 5) (some (.var 6)) none) (Str.ofString "count") [(.sub (.var 4) (.int 1))]) [(.mk [6] true (.plain (.var 1)) [])]),
  .ret (.meth (.str "") (Str.ofString "join") [(.comp (.bin .Add (.bin .Add (.str "&") (.bin .Mult (.str "amp;") (.bin .Sub (.sub (.var 0) (.var 6)) (.int 1)))) (.slice (.sub (.var 3) (.sub (.var 2) (.bin .Mod (.sub (.var 1) (.var 6)) (.call (.glob "len") [(.var 2)])))) (some (.int 1)) none)) [(.mk [6] true (.plain (.call (.glob "range") [(.call (.glob "len") [(.var 1)])])) [])])])]
noncomputable def zeg: List Nat:=[2]
noncomputable def zhr: Nat:=3
noncomputable def zeh: List PS:=[
  .asg 1 (.int 1),
  .forS [0] true (.plain (.var 2)) [.aug 1 .Mult (.var 0)],
  .ret (.var 1)]
noncomputable def zg7: List Nat:=[2,1]
noncomputable def zl5: Nat:=4
noncomputable def zg8: List PS:=[
  .asg 0 (.comp (.bin .Add (.bin .Add (.bin .Add (.slice (.var 2) none (some (.var 3))) (.sub (.var 1) (.int 1))) (.sub (.var 1) (.int 0))) (.slice (.var 2) (some (.bin .Add (.var 3) (.int 2))) none)) [(.mk [3] true (.plain (.call (.glob "range") [(.bin .Sub (.call (.glob "len") [(.var 2)]) (.int 1))])) [(.cmp .Eq (.slice (.var 2) (some (.var 3)) (some (.bin .Add (.var 3) (.int 2)))) (.var 1))])]),
  .ret (.ifx (.var 0) (.call (.glob "sum") [(.comp (.call (.glob "_law_ways") [(.var 3),(.var 1)]) [(.mk [3] true (.plain (.var 0)) [])])]) (.int 1))]
noncomputable def zg9: List Nat:=[20,19,18,17]
noncomputable def zl6: Nat:=23
noncomputable def zha: List PS:=[
  .asgTOwn [16,15,14,13] [true,true,true,true] [(.bin .Add (.list [(.int 1)]) (.bin .Mult (.list [(.int 0)]) (.var 20))),(.bin .Add (.list [(.int 1)]) (.bin .Mult (.list [(.int 0)]) (.var 20))),(.list [(.sub (.var 19) (.int 0))]),(.list [])],
  .freeze 14,
  .forS [12] true (.plain (.call (.glob "range") [(.var 20)])) [.aug 13 .Add (.comp (.bin .Add (.var 21) (.sub (.var 19) (.int 1))) [(.mk [21] true (.plain (.var 14)) [])]),.asg 14 (.comp (.bin .Add (.var 21) (.var 22)) [(.mk [21] true (.plain (.var 14)) []),(.mk [22] true (.plain (.var 19)) [])])],
  .freeze 13,
  .forS [10,11] false (.enum (.var 13)) [.asgT [9,8,7] (.call (.glob "_law_hand") [(.bin .Mod (.bin .Add (.sub (.var 17) (.int 2)) (.bin .Mult (.var 10) (.bin .Add (.int 1) (.bin .Mod (.bin .FloorDiv (.sub (.var 17) (.int 2)) (.int 5)) (.int 4))))) (.int 5))]),.asg 6 (.bin .Mod (.bin .Add (.bin .FloorDiv (.sub (.var 17) (.int 2)) (.int 20)) (.var 10)) (.call (.glob "len") [(.var 8)])),.asg 5 (.bin .Add (.slice (.var 8) (some (.var 6)) none) (.slice (.var 8) none (some (.var 6)))),.asg 4 (.call (.glob "_law_read") [(.var 11),(.var 19),(.var 18),(.bin .Add (.sub (.var 17) (.int 1)) (.bin .Mult (.int 1000003) (.var 10)))]),.asg 3 (.call (.glob "_law_page") [(.var 4),(.sub (.var 19) (.int 0)),(.var 9),(.var 5)]),.ite (.or [(.cmp .NotEq (.var 4) (.var 11)),(.cmp .NotEq (.var 3) (.call (.glob "_law_due") [(.var 11),(.var 19),(.var 7),(.var 5)]))]) [.ret (.tuple [(.list []),(.list [])])] [],.asg 2 (.meth (.var 3) (Str.ofString "count") [(.str ";")]),.ite (.cmp .LtE (.var 2) (.var 20)) [.asg 1 (.comp (.bin .Sub (.var 21) (.var 22)) [(.mk [21] true (.plain (.call (.glob "range") [(.call (.glob "len") [(.var 11)])])) []),(.mk [22] true (.plain (.call (.glob "range") [(.var 21)])) [(.cmp .Eq (.bin .Add (.sub (.var 11) (.var 22)) (.sub (.var 11) (.var 21))) (.var 19))])]),.asg 0 (.call (.glob "_law_ways") [(.var 11),(.var 19)]),.ite (.cmp .NotEq (.call (.glob "int_divmod") [(.call (.glob "_law_product") [(.call (.glob "range") [(.int 1),(.bin .Add (.var 2) (.int 1))])]),(.call (.glob "_law_product") [(.var 1)])]) (.tuple [(.var 0),(.int 0)])) [.ret (.tuple [(.list []),(.list [])])] [],.augIdx 16 (.var 2) .Add (.int 1),.augIdx 15 (.var 2) .Add (.bin .Mult (.bin .Pow (.var 0) (.int 2)) (.call (.glob "_law_product") [(.comp (.bin .Sub (.bin .Pow (.var 21) (.int 2)) (.sub (.var 17) (.int 3))) [(.mk [21] true (.plain (.var 1)) [])])]))] []],
  .freeze 16,
  .freeze 15,
  .ret (.tuple [(.var 16),(.var 15)])]
noncomputable def zfo: List Nat:=[4,3]
noncomputable def zka: Nat:=7
noncomputable def zfp: List PS:=[
  .asgOwn 2 (.list [(.int 1)]),
  .forS [1] true (.plain (.call (.glob "range") [(.int 1),(.bin .Add (.var 4) (.int 1))])) [.asg 0 (.comp (.call (.glob "sum") [(.comp (.var 6) [(.mk [6] true (.plain (.call (.glob "range") [(.int 1),(.bin .Add (.var 5) (.int 1))])) [(.cmp .Eq (.bin .Mod (.var 5) (.var 6)) (.int 0))])])]) [(.mk [5] true (.plain (.call (.glob "range") [(.int 1),(.bin .Add (.var 1) (.int 1))])) [])]),.app 2 (.bin .FloorDiv (.bin .Mult (.bin .Sub (.int 1) (.var 3)) (.call (.glob "sum") [(.comp (.bin .Mult (.sub (.var 0) (.var 5)) (.subOwn 2 (.bin .Sub (.bin .Sub (.var 1) (.int 1)) (.var 5)))) [(.mk [5] true (.plain (.call (.glob "range") [(.var 1)])) [])])])) (.var 1))],
  .freeze 2,
  .ret (.var 2)]
noncomputable def zzs: List Nat:=[27]
noncomputable def z5i: Nat:=31
noncomputable def zkb: List PS:=[
  .asg 26 (.comp (.ifx (.cmp .Gt (.var 28) (.int 0)) (.bin .Mod (.var 28) (.bin .Pow (.int 10) (.int 12))) (.neg (.bin .Mod (.neg (.var 28)) (.bin .Pow (.int 10) (.int 12))))) [(.mk [28] true (.plain (.slice (.var 27) none (some (.int 60)))) [])]),
  .asg 25 (.comp (.bin .Add (.var 29) (.call (.glob "sum") [(.comp (.sub (.var 26) (.var 30)) [(.mk [30] true (.plain (.call (.glob "range") [(.var 28),(.call (.glob "len") [(.var 26)]),(.int 5)])) [])])])) [(.mk [28,29] false (.enum (.tuple [(.int 1),(.int 8086),(.int 271828),(.int 25),(.int 4805772)])) [])]),
  .asg 24 (.bin .Add (.int 2) (.bin .Mod (.sub (.var 25) (.int 0)) (.int 3))),
  .asg 23 (.list [(.tuple [(.str "fi"),(.str "\ufb01")]),(.tuple [(.str "fl"),(.str "\ufb02")]),(.tuple [(.str "st"),(.str "\ufb06")]),(.tuple [(.str "hp"),(.str "\u33cb")]),(.tuple [(.str "km"),(.str "\u33ce")]),(.tuple [(.str "wb"),(.str "\u33dd")]),(.tuple [(.str "rs"),(.str "\u20a8")]),(.tuple [(.str "no"),(.str "\u2116")])]),
  .asgT [22,21] (.sub (.var 23) (.bin .Mod (.bin .FloorDiv (.sub (.var 25) (.int 0)) (.int 3)) (.int 8))),
  .asgT [20,19] (.call (.glob "_law_sums") [(.var 24),(.var 22),(.var 21),(.var 25)]),
  .ite (.cmp .Eq (.var 20) (.list [])) [.ret (.bool false)] [],
  .asg 18 (.call (.glob "_law_terms") [(.var 24),(.sub (.var 25) (.int 3))]),
  .asgT [17,16] (.tuple [(.cmp .Eq (.bin .Mod (.bin .FloorDiv (.sub (.var 25) (.int 4)) (.int 60000)) (.int 16)) (.int 5)),(.bin .Add (.int 1) (.bin .Mod (.bin .FloorDiv (.sub (.var 25) (.int 4)) (.int 60)) (.int 1000)))]),
  .asg 15 (.ifx (.var 17) (.bin .Sub (.bin .Mult (.var 16) (.bin .Pow (.int 2) (.int 4103))) (.int 1)) (.var 16)),
  .forS [14] true (.plain (.call (.glob "range") [(.int 1),(.bin .Add (.var 24) (.int 1))])) [.asgT [13,12] (.sub (.list [(.tuple [(.int 1),(.int 1)]),(.tuple [(.int 1),(.neg (.int 1))]),(.tuple [(.neg (.int 1)),(.int 1)]),(.tuple [(.neg (.int 1)),(.neg (.int 1))])]) (.bin .Mod (.bin .Add (.sub (.var 25) (.int 4)) (.var 14)) (.int 4))),.asg 11 (.bin .Mult (.bin .Pow (.call (.glob "_law_product") [(.call (.glob "range") [(.int 1),(.bin .Add (.var 14) (.int 1))])]) (.int 2)) (.var 15)),.asg 10 (.bin .Mod (.bin .FloorDiv (.sub (.var 25) (.int 4)) (.int 960000)) (.var 11)),.asg 9 (.bin .Mult (.var 13) (.bin .Add (.bin .Mult (.bin .Mult (.sub (.var 18) (.var 14)) (.var 15)) (.var 11)) (.var 10))),.asg 8 (.call (.glob "int_divmod") [(.bin .Mult (.var 13) (.bin .Add (.bin .Mult (.sub (.var 19) (.var 14)) (.bin .Pow (.var 15) (.int 2))) (.var 10))),(.bin .Mult (.var 12) (.var 11))]),.ite (.or [(.cmp .NotEq (.var 8) (.tuple [(.bin .FloorDiv (.var 9) (.bin .Mult (.var 12) (.var 11))),(.bin .Mod (.var 9) (.bin .Mult (.var 12) (.var 11)))])),(.cmp .NotEq (.comp (.cmp .Is (.call (.glob "type") [(.var 28)]) (.glob "int")) [(.mk [28] true (.plain (.var 8)) [])]) (.list [(.bool true),(.bool true)]))]) [.ret (.bool false)] []],
  .asg 7 (.bin .Add (.bin .Add (.int 4) (.bin .Mod (.sub (.var 25) (.int 4)) (.int 60))) (.ifx (.var 17) (.int 2200) (.int 0))),
  .asg 6 (.bin .FloorDiv (.bin .Mult (.var 24) (.bin .Add (.var 24) (.int 3))) (.int 2)),
  .asgT [5,4] (.tuple [(.bin .Pow (.int 2) (.bin .Mult (.var 7) (.var 6))),(.call (.glob "_law_product") [(.comp (.bin .Sub (.bin .Pow (.int 2) (.bin .Mult (.var 7) (.var 28))) (.int 1)) [(.mk [28] true (.plain (.call (.glob "range") [(.int 1),(.bin .Add (.var 24) (.int 1))])) [])])])]),
  .asgT [3,2] (.call (.glob "int_divmod") [(.var 5),(.var 4)]),
  .ite (.cmp .NotEq (.bin .Add (.bin .Mult (.var 3) (.var 4)) (.var 2)) (.var 5)) [.ret (.bool false)] [],
  .forS [1,0] false (.plain (.tuple [(.tuple [(.var 3),(.rev (.var 20))]),(.tuple [(.var 5),(.bin .Add (.bin .Mult (.list [(.int 0)]) (.var 6)) (.list [(.int 1)]))]),(.tuple [(.int 0),(.list [])])])) [.ite (.or [(.cmp .NotEq (.call (.glob "_int2digits") [(.var 1),(.var 7)]) (.var 0)),(.cmp .NotEq (.call (.glob "_digits2int") [(.var 0),(.var 7)]) (.var 1))]) [.ret (.bool false)] []],
  .ret (.bool true)]
end Mine
namespace Mine
open PySem PySem.Calls PyProof.Rows
noncomputable def zeo (o: Obj): Prop:=o.cls = .type "code" /\ ∃ vs,o.data = .fields vs
theorem zq3 {o: Obj} {es: Array DictEntry} {n: Nat} (hd: o.data = .dict es n): ¬ zeo o:=fun z=>by obtain ⟨_,vs,q⟩:=z; rw [hd] at q; cases q
theorem zfl {o: Obj} {a: String} (e: o.cls = .type a) (h: a ≠ "code"): ¬ zeo o:=fun q=>h (Value.type.inj (e.symm.trans q.1))
theorem z3d {h: Heap} {a: Addr} {m: Str -> Option Value} {o: Obj} (n: h.Ns a m) (e: h.get? a=some o): ¬ zeo o:=fun z=>by
  obtain ⟨_,vs,q⟩:=z
  obtain ⟨o',es,ep,e',hd,_⟩:=n
  rw [e] at e'; replace e':=oj e'; subst e'
  rw [q] at hd; cases hd
theorem z0k {h: Heap} {a: Addr} {v: Option Value} {o: Obj} (n: h.IsCell a v) (e: h.get? a=some o): ¬ zeo o:=fun z=>by
  obtain ⟨_,vs,q⟩:=z
  obtain ⟨o',e',hd⟩:=n
  rw [e] at e'; replace e':=oj e'; subst e'
  rw [q] at hd; cases hd
structure CX where
  prog: Program
  w: World
  mg: Str -> Option Value
  mb: Str -> Option Value
  n₀: Nat
  n4: 4<=n₀
  Inv: Heap -> Prop
  lit: Str -> Tok -> Prop
  litNz: ∀ {x t},lit x t -> t ≠ 0
  litNe: ∀ {x y t},lit x t -> lit y t -> x=y
  keep: ∀ {h h': Heap},(∀ b o,(b < n₀ \/ zeo o) -> h.get? b=some o -> h'.get? b=some o) -> Inv h -> Inv h'
  low: ∀ {h: Heap},Inv h -> n₀<=h.objs.size
  g: ∀ {h: Heap},Inv h -> h.Ns mainGlobals mg
  b: ∀ {h: Heap},Inv h -> h.Ns builtinsNs mb
  nolimit: ∀ {h: Heap},Inv h -> h.NoLimit
theorem CX.keepBut (C: CX) {h h': Heap} {a: Addr} (lo: C.n₀<=a) (nc: ∀ o,h.get? a=some o -> ¬ zeo o) (k: ∀ b o,b ≠ a -> h.get? b=some o -> h'.get? b=some o): C.Inv h -> C.Inv h':=
  C.keep fun b o hb e=>k b o (fun q=>by
    subst q
    rcases hb with hb | hb
    · exact Nat.lt_irrefl _ (Nat.lt_of_lt_of_le hb lo)
    · exact nc o e hb) e
structure Ext0 (C: CX) (s s': Shared): Prop where
  new: ∀ b o,C.n₀<=b -> s.heap.get? b=some o -> s'.heap.get? b=some o
  inv: C.Inv s.heap -> C.Inv s'.heap
  gens: s'.gens=s.gens
  drawn: s'.drawn=s.drawn
  os: s'.os=s.os
theorem Ext0.refl {C: CX} (s: Shared): Ext0 C s s:=⟨fun _ _ _ e=>e,id,rfl,rfl,rfl⟩
theorem Ext0.trans {C: CX} {a b c: Shared} (x: Ext0 C a b) (y: Ext0 C b c): Ext0 C a c:=
  ⟨fun q o h e=>y.new q o h (x.new q o h e),fun h=>y.inv (x.inv h),y.gens.trans x.gens,y.drawn.trans x.drawn,y.os.trans x.os⟩
theorem Ext0.toks {C: CX} {s: Shared} (k: Nat): Ext0 C s { s with toks:=k }:=⟨fun _ _ _ e=>e,id,rfl,rfl,rfl⟩
theorem Ext0.grow {C: CX} {s: Shared} {h': Heap} {k: Nat} (x: ∀ b o,s.heap.get? b=some o -> h'.get? b=some o): Ext0 C s { s with heap:=h',toks:=k }:=
  ⟨fun b o _ e=>x b o e,C.keep fun b o _ e=>x b o e,rfl,rfl,rfl⟩
theorem Ext0.push {C: CX} {s: Shared} (o: Obj) (k: Nat): Ext0 C s { s with heap:=s.heap.push o,toks:=k }:=
  .grow fun _ _ e=>Heap.get?_push_of_some o e
noncomputable def Heap.IsRangeAt (h: Heap) (a: Addr) (lo hi st: Int): Prop:=∃ t1 t2 t3,IsRange h a lo hi st t1 t2 t3
noncomputable abbrev za5 (vs: List Value) (n: Nat): Obj:={ cls:=.type "list",data:=.seq vs.toArray n }
noncomputable abbrev tupO (vs: List Value) (n: Nat): Obj:={ cls:=.type "tuple",data:=.seq vs.toArray n }
mutual
noncomputable def Rep (C: CX) (h: Heap) (W: Addr -> Prop): PV -> Value -> Prop
  | .none,v=>v = .none
  | .bool b,v=>v = .bool b
  | .int i,v=>∃ t,v = .int i t
  | .str s,v=>∃ t,v = .str s t/\s.length<=sizeLine
  | .lit s,v=>∃ t,v = .str s t/\s.length<=sizeLine/\C.lit s t
  | .list xs,v=>∃ a vs n,v = .ref a /\ ¬ W a/\C.n₀<=a/\h.get? a=some (za5 vs n)/\RepL C h W xs vs/\xs.length<=sizeLine
  | .tuple xs,v=>∃ a vs n,v = .ref a /\ ¬ W a/\C.n₀<=a/\h.get? a=some (tupO vs n)/\RepL C h W xs vs
  | .dict kvs,v=>∃ a l,v = .ref a /\ ¬ W a/\C.n₀<=a/\h.DictOf (strKind C.prog C.w) a l/\RepD C h W kvs l
  | .range lo hi st,v=>∃ a,v = .ref a /\ ¬ W a/\C.n₀<=a/\Heap.IsRangeAt h a lo hi st/\zbk lo hi st=true
  | .fn f,v=>C.mg f=some v
  | .ty n,v=>v = .type n
  | .bi id,v=>v = .builtin id
  | .b1,v=>C.mg "b1_set" = some v
  | .b3,v=>C.mg "b3_exceptions" = some v
noncomputable def RepL (C: CX) (h: Heap) (W: Addr -> Prop): List PV -> List Value -> Prop
  | [],vs=>vs=[]
  | x :: xs,vs=>∃ v r,vs=v :: r/\Rep C h W x v/\RepL C h W xs r
noncomputable def RepD (C: CX) (h: Heap) (W: Addr -> Prop): List (Str × PV) -> List (Str × Value) -> Prop
  | [],es=>es=[]
  | (k,x) :: xs,es=>∃ v r,es=(k,v) :: r/\Rep C h W x v/\RepD C h W xs r
end
noncomputable def Stay (C: CX) (h h': Heap) (W W': Addr -> Prop): Prop:=∀ b o,C.n₀<=b -> ¬ W b -> h.get? b=some o -> h'.get? b=some o /\ ¬ W' b
mutual
theorem Rep.stay {C: CX} {h h': Heap} {W W': Addr -> Prop} (k: Stay C h h' W W'): ∀ (p: PV) (v: Value),Rep C h W p v -> Rep C h' W' p v
  | .none,_,x=>x
  | .bool _,_,x=>x
  | .int _,_,x=>x
  | .str _,_,x=>x
  | .lit _,_,x=>x
  | .list xs,v,x=>by
    obtain ⟨a,vs,n,rfl,hw,ha,ho,hl,hz⟩:=x
    exact ⟨a,vs,n,rfl,(k a _ ha hw ho).2,ha,(k a _ ha hw ho).1,RepL.stay k xs vs hl,hz⟩
  | .tuple xs,v,x=>by
    obtain ⟨a,vs,n,rfl,hw,ha,ho,hl⟩:=x
    exact ⟨a,vs,n,rfl,(k a _ ha hw ho).2,ha,(k a _ ha hw ho).1,RepL.stay k xs vs hl⟩
  | .dict kvs,v,x=>by
    obtain ⟨a,es,rfl,hw,ha,⟨o,e1,e2,ho,hr⟩,hl⟩:=x
    exact ⟨a,es,rfl,(k a _ ha hw ho).2,ha,⟨o,e1,e2,(k a _ ha hw ho).1,hr⟩,RepD.stay k kvs _ hl⟩
  | .range ..,v,x=>by
    obtain ⟨a,rfl,hw,ha,⟨t1,t2,t3,ho⟩,r⟩:=x
    exact ⟨a,rfl,(k a _ ha hw ho).2,ha,⟨t1,t2,t3,(k a _ ha hw ho).1⟩,r⟩
  | .fn _,_,x=>x
  | .ty _,_,x=>x
  | .bi _,_,x=>x
  | .b1,_,x=>x
  | .b3,_,x=>x
theorem RepL.stay {C: CX} {h h': Heap} {W W': Addr -> Prop} (k: Stay C h h' W W'): ∀ (p: List PV) (v: List Value),RepL C h W p v -> RepL C h' W' p v
  | [],_,x=>x
  | y :: ys,v,x=>by
    obtain ⟨a,r,rfl,h1,h2⟩:=x
    exact ⟨a,r,rfl,Rep.stay k y a h1,RepL.stay k ys r h2⟩
theorem RepD.stay {C: CX} {h h': Heap} {W W': Addr -> Prop} (k: Stay C h h' W W'): ∀ (p: List (Str × PV)) (v: List (Str × Value)),RepD C h W p v -> RepD C h' W' p v
  | [],_,x=>x
  | (q,y) :: ys,v,x=>by
    obtain ⟨a,r,rfl,h1,h2⟩:=x
    exact ⟨a,r,rfl,Rep.stay k y a h1,RepD.stay k ys r h2⟩
end
theorem Ext0.stay {C: CX} {s s': Shared} (x: Ext0 C s s') (W: Addr -> Prop): Stay C s.heap s'.heap W W:=fun b o h hw e=>⟨x.new b o h e,hw⟩
theorem Rep.ext {C: CX} {s s': Shared} {W: Addr -> Prop} {p: PV} {v: Value} (x: Ext0 C s s') (r: Rep C s.heap W p v): Rep C s'.heap W p v:=Rep.stay (x.stay W) p v r
theorem RepL.ext {C: CX} {s s': Shared} {W: Addr -> Prop} {p: List PV} {v: List Value} (x: Ext0 C s s') (r: RepL C s.heap W p v): RepL C s'.heap W p v:=RepL.stay (x.stay W) p v r
theorem RepL.length {C: CX} {h: Heap} {W: Addr -> Prop}: ∀ {p: List PV} {v: List Value},RepL C h W p v -> v.length=p.length
  | [],_,x=>by obtain rfl: _=_:=x; rfl
  | y :: ys,v,x=>by
    obtain ⟨a,r,rfl,_,h2⟩:=x
    simp [RepL.length h2]
theorem RepL.append {C: CX} {h: Heap} {W: Addr -> Prop}: ∀ {p q: List PV} {v u: List Value},RepL C h W p v -> RepL C h W q u -> RepL C h W (p ++ q) (v ++ u)
  | [],_,_,_,x,y=>by obtain rfl: _=_:=x; exact y
  | z :: zs,_,_,_,x,y=>by
    obtain ⟨a,r,rfl,h1,h2⟩:=x
    exact ⟨a,_,rfl,h1,RepL.append h2 y⟩
theorem RepL.get {C: CX} {h: Heap} {W: Addr -> Prop}: ∀ {p: List PV} {v: List Value} (i: Nat) {x: PV},RepL C h W p v -> p[i]? = some x -> ∃ y,v[i]? = some y/\Rep C h W x y
  | [],_,i,x,_,e=>by simp at e
  | z :: zs,_,i,x,r,e=>by
    obtain ⟨a,r,rfl,h1,h2⟩:=r
    cases i with
    | zero=>simp at e; subst e; exact ⟨a,rfl,h1⟩
    | succ i=>simpa using RepL.get i h2 (by simpa using e)
theorem RepL.cons {C: CX} {h: Heap} {W: Addr -> Prop} {x: PV} {xs: List PV} {v: Value} {vs: List Value} (a: Rep C h W x v) (b: RepL C h W xs vs): RepL C h W (x :: xs) (v :: vs):=by
  exact ⟨v,vs,rfl,a,b⟩
inductive zbl (h: Heap) (env: Env) (n₀: Nat) (x: Str) (v: Value): Prop
  | loc {m: Str -> Option Value} (k: env.kindOf x=some .local) (n: h.Ns env.locals m) (e: m x=some v)
  | cell {c: Addr} (k: env.kindOf x=some .cell \/ env.kindOf x=some .free) (l: env.cells.lookup x=some c) (lo: n₀<=c) (i: h.IsCell c (some v))
inductive RepS (C: CX) (h: Heap) (W O: Addr -> Prop): Slot -> Value -> Prop
  | val {p: PV} {v: Value} (r: Rep C h W p v): RepS C h W O (.val p) v
  | own {xs: List PV} {a: Addr} {vs: List Value} {n: Nat} (w: O a) (lo: C.n₀<=a) (l: h.get? a=some (za5 vs n)) (r: RepL C h W xs vs) (z: xs.length<=sizeLine): RepS C h W O (.own xs) (.ref a)
  | ownD {kvs: List (Str × PV)} {a: Addr} {l: List (Str × Value)} (w: O a) (lo: C.n₀<=a) (g: h.DictOf (strKind C.prog C.w) a l)
      (r: RepD C h W kvs l): RepS C h W O (.ownD kvs) (.ref a)
noncomputable def Slot.isOwn: Slot -> Bool
  | .val _=>false
  | _=>true
structure zam (C: CX) (c: CE) (env: Env) (W O: Addr -> Prop) (h: Heap) (ρ: Rho): Prop where
  glob: env.globals=mainGlobals
  bui: env.builtins=builtinsNs
  kind: env.scope.kind = .function
  ow: ∀ b,O b -> W b
  lo: ∀ b,O b -> C.n₀<=b
  loc: O env.locals
  ns: ∃ m,h.Ns env.locals m
  names: ∀ x,env.kindOf x=c.sc.names.lookup x \/ (c.sc.names.lookup x=some .free/\env.kindOf x=some .cell) \/ c.sc.names.lookup x=none
  cells: ∀ x,(c.sc.names.lookup x=some .cell \/ c.sc.names.lookup x=some .free) -> ∃ a v,env.cells.lookup x=some a/\O a/\h.IsCell a v
  cinj: ∀ x y a,env.cells.lookup x=some a -> env.cells.lookup y=some a -> x=y
  top: ∀ i s,ρ[i]? = some (some s) -> i < c.σ.length
  vars: ∀ x i s,idx c.σ x=some i -> visK c.base i (c.sc.names.lookup x)=true -> ρ[i]? = some (some s) -> ∃ v,zbl h env C.n₀ x v/\RepS C h W (fun b=>O b/\b ≠ env.locals) s v
  apart: ∀ x y i j s t v,idx c.σ x=some i -> idx c.σ y=some j -> visK c.base i (c.sc.names.lookup x)=true -> visK c.base j (c.sc.names.lookup y)=true -> ρ[i]? = some (some s) -> ρ[j]? = some (some t) -> s.isOwn=true -> t.isOwn=true ->
    zbl h env C.n₀ x v -> zbl h env C.n₀ y v -> i=j
theorem zbl.keep {h h': Heap} {env: Env} {n₀: Nat} {x: Str} {v: Value} (k: ∀ b o,n₀<=b -> h.get? b=some o -> h'.get? b=some o) (hl: n₀<=env.locals) (y: zbl h env n₀ x v): zbl h' env n₀ x v:=by
  induction y with
  | loc hk n e=>
    obtain ⟨o,es,ep,ho,r⟩:=n
    exact .loc hk ⟨o,es,ep,k _ _ hl ho,r⟩ e
  | cell hk l lo i=>
    obtain ⟨o,ho,r⟩:=i
    exact .cell hk l lo ⟨o,k _ _ lo ho,r⟩
theorem zzt {h: Heap} {a: Addr} {m m': Str -> Option Value} (x: h.Ns a m) (y: h.Ns a m'): m=m':=by
  obtain ⟨o,es,ep,ho,hd,hk,hm⟩:=x
  obtain ⟨o',es',ep',ho',hd',hk',hm'⟩:=y
  rw [ho] at ho'; replace ho':=oj ho'; subst ho'
  rw [hd] at hd'; cases hd'
  funext k
  rw [<- hm k,<- hm' k]
theorem zr5 {h: Heap} {a: Addr} {v v': Option Value} (x: h.IsCell a v) (y: h.IsCell a v'): v=v':=by
  obtain ⟨o,ho,hd⟩:=x
  obtain ⟨o',ho',hd'⟩:=y
  rw [ho] at ho'; replace ho':=oj ho'; subst ho'
  rw [hd] at hd'; cases hd'; rfl
theorem zbl.fn {h: Heap} {env: Env} {n₀: Nat} {x: Str} {v u: Value} (a: zbl h env n₀ x v) (b: zbl h env n₀ x u): v=u:=by
  induction a with
  | loc k n e=>
    cases b with
    | loc k' n' e'=>have:=zzt n n'; subst this; rw [e] at e'; replace e':=oj e'; subst e'; rfl
    | cell k' l' lo' i'=>rw [k] at k'; rcases k' with h | h <;> cases h
  | cell k l lo i=>
    induction b with
    | loc k' n' e'=>rw [k'] at k; rcases k with h | h <;> cases h
    | cell k' l' lo' i'=>rw [l] at l'; replace l':=oj l'; subst l'; have:=zr5 i i'; replace this:=oj this; subst this; rfl
theorem RepS.ext {C: CX} {s s': Shared} {W O: Addr -> Prop} {p: Slot} {v: Value} (x: Ext0 C s s') (r: RepS C s.heap W O p v): RepS C s'.heap W O p v:=by
  induction r with
  | val r=>exact .val (r.ext x)
  | own w lo l r z=>exact .own w lo (x.new _ _ lo l) (r.ext x) z
  | ownD w lo g r=>
    obtain ⟨o,e1,e2,ho,hr⟩:=g
    exact .ownD w lo ⟨o,e1,e2,x.new _ _ lo ho,hr⟩ (RepD.stay (x.stay W) _ _ r)
theorem zam.ext {C: CX} {c: CE} {env: Env} {W O: Addr -> Prop} {s s': Shared} {ρ: Rho} (e: zam C c env W O s.heap ρ) (x: Ext0 C s s'): zam C c env W O s'.heap ρ where
  glob:=e.glob
  bui:=e.bui
  kind:=e.kind
  ow:=e.ow
  lo:=e.lo
  loc:=e.loc
  ns:=by obtain ⟨m,o,es,ep,ho,r⟩:=e.ns; exact ⟨m,o,es,ep,x.new _ _ (e.lo _ e.loc) ho,r⟩
  names:=e.names
  cells:=fun y hy=>by obtain ⟨a,v,h1,h2,o,ho,hd⟩:=e.cells y hy; exact ⟨a,v,h1,h2,o,x.new _ _ (e.lo _ h2) ho,hd⟩
  cinj:=e.cinj
  top:=e.top
  vars:=fun y i sl h1 h2 h3=>by obtain ⟨v,a,b⟩:=e.vars y i sl h1 h2 h3; exact ⟨v,a.keep x.new (e.lo _ e.loc),b.ext x⟩
  apart:=fun y z i j sl tl v h1 h2 k1 k2 h3 h4 h5 h6 h7 h8=>by
    obtain ⟨u,a,_⟩:=e.vars y i sl h1 k1 h3
    obtain ⟨u',a',_⟩:=e.vars z j tl h2 k2 h4
    have e1:=h7.fn (a.keep x.new (e.lo _ e.loc))
    have e2:=h8.fn (a'.keep x.new (e.lo _ e.loc))
    subst e1 e2
    exact e.apart y z i j sl tl _ h1 h2 k1 k2 h3 h4 h5 h6 a a'
noncomputable abbrev Room (A: Around) (K: Nat): Prop:=A.handled=none/\A.depth + 2 * K + 110 < recursionLimit/\A.units + 16 * K + 200 < cLine
noncomputable def Snd0 (C: CX) (A: Around) (s: Shared) (W: Addr -> Prop) (t: Sem Value) (p: PV): Prop:=
  ∀ (Q E: Value -> Shared -> Prop),(∀ v s',Ext0 C s s' -> Rep C s'.heap W p v -> Q v s') -> wpAny (model C.prog C.w) A t Q E s
structure Ext (C: CX) (s s': Shared): Prop extends Ext0 C s s' where
  toks: s.toks<=s'.toks
theorem Ext.refl {C: CX} (s: Shared): Ext C s s:=⟨.refl s,Nat.le_refl _⟩
theorem Ext.trans {C: CX} {a b c: Shared} (x: Ext C a b) (y: Ext C b c): Ext C a c:=⟨x.toExt0.trans y.toExt0,Nat.le_trans x.toks y.toks⟩
noncomputable def Snd (C: CX) (A: Around) (s: Shared) (W: Addr -> Prop) (t: Sem Value) (p: PV): Prop:=
  ∀ (Q E: Value -> Shared -> Prop),(∀ v s',Ext C s s' -> Rep C s'.heap W p v -> Q v s') -> wpAny (model C.prog C.w) A t Q E s
theorem Snd0.up {C: CX} {A: Around} {s: Shared} {W: Addr -> Prop} {t: Sem Value} {p: PV} (x: Snd0 C A s W t p): Snd C A s W t p:=fun Q E q=>
  wpAny_with_toks (Nat.le_refl s.toks) (x _ _ fun v s' e r ht=>q v s' ⟨e,ht⟩ r)
section
variable {C: CX} {c: CE} {env: Env} {W O: Addr -> Prop} {s: Shared} {ρ: Rho} {A: Around}
end
theorem zhs {x y: Int} (h: zc0 x y=true): IntMulOk x y:=by
  unfold zc0 at h
  simp only [Bool.or_eq_true,decide_eq_true_eq] at h
  rcases h with (h | h) | h
  · exact .of_left h
  · exact .of_right h
  · unfold IntMulOk Builtin.Int.intTooBig
    intro k
    simp only [Bool.and_eq_true,decide_eq_true_eq] at k
    have:=k.2
    simp only [bitsLine] at this
    lia
theorem Ext0.tok1 {C: CX} {s: Shared}: Ext0 C s { s with toks:=s.toks + 1 }:=.toks _
theorem zkc {α: Type} (n: Nat) (a: Array α) (b: Array α): (List.replicate n a).foldl (· ++ ·) b=b ++ (List.replicate n a.toList).flatten.toArray:=by
  induction n generalizing b with
  | zero=>simp
  | succ n ih=>rw [List.replicate_succ,List.foldl_cons,ih,List.replicate_succ,List.flatten_cons]; apply Array.ext'; simp
section
variable {C: CX} {W: Addr -> Prop} {s: Shared} {A: Around}
theorem zah {h: Heap} {i: Int} {v: Value} (r: Rep C h W (.int i) v): ∃ t,v = .int i t:=r
theorem za4 {h: Heap} {x: Str} {v: Value} (r: Rep C h W (.str x) v): ∃ t,v = .str x t/\x.length<=sizeLine:=r
theorem zbg {h: Heap} {xs: List PV} {v: Value} (r: Rep C h W (.list xs) v): ∃ a vs n,v = .ref a /\ ¬ W a/\C.n₀<=a/\h.get? a=some (za5 vs n)/\RepL C h W xs vs/\xs.length<=sizeLine:=r
theorem zdz {h: Heap} {xs: List PV} {v: Value} (r: Rep C h W (.tuple xs) v): ∃ a vs n,v = .ref a /\ ¬ W a/\C.n₀<=a/\h.get? a=some (tupO vs n)/\RepL C h W xs vs:=r
theorem zbf {h: Heap} {i: Int} {t: Tok}: Rep C h W (.int i) (.int i t):=⟨_,rfl⟩
theorem zco {h: Heap} {x: Str} {t: Tok} (l: x.length<=sizeLine): Rep C h W (.str x) (.str x t):=⟨_,rfl,l⟩
theorem za1 {h: Heap} {b: Bool}: Rep C h W (.bool b) (.bool b):=rfl
structure At (C: CX) (W: Addr -> Prop) (s: Shared): Prop where
  inv: C.Inv s.heap
  wocc: ∀ b,W b -> C.n₀<=b /\ ∃ o,s.heap.get? b=some o
  tok: 0 < s.toks
theorem At.ext {s': Shared} (a: At C W s) (x: Ext C s s'): At C W s':=
  ⟨x.inv a.inv,fun b h=>by obtain ⟨lo,o,e⟩:=a.wocc b h; exact ⟨lo,o,x.new b o lo e⟩,Nat.lt_of_lt_of_le a.tok x.toks⟩
theorem At.low (a: At C W s): C.n₀<=s.heap.objs.size:=C.low a.inv
theorem At.nw (a: At C W s): ¬ W s.heap.objs.size:=fun h=>by obtain ⟨_,_,e⟩:=a.wocc _ h; exact Nat.lt_irrefl _ (Heap.lt_size e)
theorem zht {Q: Value -> Shared -> Prop} {xs: List PV} {vs: List Value} {n k: Nat} (a: At C W s) (r: RepL C s.heap W xs vs) (z: xs.length<=sizeLine)
    (q: ∀ v s',Ext0 C s s' -> Rep C s'.heap W (.list xs) v -> Q v s'): Q (.ref s.heap.objs.size) { s with heap:=s.heap.push (za5 vs n),toks:=k }:=by
  have e: Ext0 C s { s with heap:=s.heap.push (za5 vs n),toks:=k }:=.push _ _
  refine q _ _ e ?_
  exact ⟨_,vs,n,rfl,a.nw,a.low,Heap.get?_push_size _ rfl,r.ext e,z⟩
theorem zn1 {Q: Value -> Shared -> Prop} {xs: List PV} {vs: List Value} {n k: Nat} (a: At C W s) (r: RepL C s.heap W xs vs)
    (q: ∀ v s',Ext0 C s s' -> Rep C s'.heap W (.tuple xs) v -> Q v s'): Q (.ref s.heap.objs.size) { s with heap:=s.heap.push (tupO vs n),toks:=k }:=by
  have e: Ext0 C s { s with heap:=s.heap.push (tupO vs n),toks:=k }:=.push _ _
  refine q _ _ e ?_
  exact ⟨_,vs,n,rfl,a.nw,a.low,Heap.get?_push_size _ rfl,r.ext e⟩
theorem zmu {op: Operator} {x y z: PV} {v u: Value} (e: binP op x y=some z) (a: At C W s) (rx: Rep C s.heap W x v) (ry: Rep C s.heap W y u): Snd0 C A s W (binaryOp op v u) z:=by
  induction op with
  | Add=>
   cases x with
   | int x=>
    obtain ⟨b,rfl,g⟩:=mapI e
    obtain ⟨t,rfl⟩:=zah rx; obtain ⟨t',rfl⟩:=zah ry; induction g
    intro Q E q
    exact PySem.P.add_int (q _ _ .tok1 zbf)
   | str xs=>
    obtain ⟨ys,rfl,g⟩:=zr4 e
    obtain ⟨t,rfl,hx⟩:=za4 rx; obtain ⟨t',rfl,hy⟩:=za4 ry
    obtain ⟨hz,rfl⟩:=zau g
    have hz': xs.length + ys.length<=16777216:=by simpa [zak] using hz
    have hl: (xs ++ ys).length<=sizeLine:=by rw [Str.length_append,sizeLine_eq]; exact hz'
    intro Q E q
    refine PySem.P.add_str ?_
    by_cases h1: (xs.length == 0)=true
    · rw [if_pos h1]
      have e: xs ++ ys=ys:=by
        have: xs = ⟨#[]⟩:=by obtain ⟨c⟩:=xs; simp [Str.length] at h1; rw [h1]
        rw [this]; exact Str.empty_append ys
      rw [e] at q; exact q _ _ (.refl _) ry
    · rw [if_neg h1]
      by_cases h2: (ys.length == 0)=true
      · rw [if_pos h2]
        have e: xs ++ ys=xs:=by
          have: ys = ⟨#[]⟩:=by obtain ⟨c⟩:=ys; simp [Str.length] at h2; rw [h2]
          rw [this]; obtain ⟨c⟩:=xs; show Str.mk (c ++ #[])=_; simp
        rw [e] at q; exact q _ _ (.refl _) rx
      · rw [if_neg h2]
        exact ⟨hl,q _ _ .tok1 (zco hl)⟩
   | list xs=>
    obtain ⟨ys,rfl,g⟩:=zho e
    obtain ⟨l,vs,n,rfl,_,_,ho,hl,_⟩:=zbg rx
    obtain ⟨l',vs',n',rfl,_,_,ho',hl',_⟩:=zbg ry
    obtain ⟨hz,rfl⟩:=zau g
    have hz': xs.length + ys.length<=16777216:=by simpa [zak] using hz
    have e: vs.toArray ++ vs'.toArray=(vs ++ vs').toArray:=by simp
    intro Q E q
    refine concat_meets ⟨_,ho,rfl⟩ ⟨_,ho',rfl⟩ noFill_list_add seq_list_add PySem.F.slot_list_add PySem.F.entry_list_add (PySem.F.args_list_add_2 _ _)
      (list_addW l l' vs.toArray vs'.toArray n n' none none #[] #[] (by simp only [List.size_toArray,hl.length,hl'.length,sizeLine_eq]; exact hz')) ⟨ho,ho',?_⟩
    rw [e]
    exact zht (n:=0) a (hl.append hl') (by rw [List.length_append,sizeLine_eq]; exact hz') q
   | _=>exact zae e
  | Sub=>
    obtain ⟨a,b,rfl,rfl,g⟩:=zcx e
    obtain ⟨t,rfl⟩:=zah rx; obtain ⟨t',rfl⟩:=zah ry; replace g:=oj g; subst g
    intro Q E q
    exact PySem.P.sub_int (q _ _ .tok1 zbf)
  | Mult=>
   cases x with
   | int x=>
    obtain ⟨b,rfl,g⟩:=zgz e
    obtain ⟨t,rfl⟩:=zah rx; obtain ⟨t',rfl⟩:=zah ry
    obtain ⟨hm,rfl⟩:=zau g
    intro Q E q
    exact PySem.P.mul_int (q _ _ .tok1 zbf) (zhs hm)
   | str xs=>
    obtain ⟨n,rfl,g⟩:=zgz e
    obtain ⟨t,rfl,hx⟩:=za4 rx; obtain ⟨t',rfl⟩:=zah ry
    obtain ⟨hz,rfl⟩:=zau g
    simp only [zak,Bool.and_eq_true,decide_eq_true_eq] at hz
    obtain ⟨hz1,hz2,hz3⟩:=hz
    have hlen: (Str.mk (List.replicate n.toNat xs.cps.toList).flatten.toArray).length<=sizeLine:=by
      have: (List.replicate n.toNat xs.cps.toList).flatten.length=n.toNat * xs.length:=by simp [Str.length]
      simp only [Str.length,List.size_toArray]
      rw [this,sizeLine_eq,Nat.mul_comm]; exact hz1
    have hbig: ∀ k: Int,1<=k -> k < 1000000 -> ¬ ((xs.length: Int) > (2 ^ 63 - 1) / k):=fun k h1 h2=>by
      rw [sizeLine_eq] at hx
      have: (xs.length: Int)<=16777216:=by lia
      have h3: (16777216: Int)<=(2 ^ 63 - 1) / k:=by
        refine Int.le_ediv_of_mul_le ‹_› ?_
        have: (16777216: Int) * k<=16777216 * 1000000:=Int.mul_le_mul_of_nonneg_left (Int.le_of_lt ‹_›) (by decide)
        lia
      lia
    intro Q E q
    refine PySem.P.mul_str (by
      simp only [Bool.or_eq_false_iff,decide_eq_false_iff_not]; lia) (fun h1 _=>hbig n (by lia) hz2) (fun h1 _=>by simp only [Builtin.Str.tooLong,decide_eq_false_iff_not,Nat.not_lt,sizeLine_eq]; exact hz1) ?_
    by_cases h1: n < 1
    · rw [if_pos h1]
      have e0: n.toNat=0:=by lia
      rw [e0] at q
      exact ⟨Nat.zero_le _,q _ _ .tok1 (zco (Nat.zero_le _))⟩
    · rw [if_neg h1]
      by_cases h2: (n == 1 || xs.length == 0)=true
      · rw [if_pos h2]
        have e0: Str.mk (List.replicate n.toNat xs.cps.toList).flatten.toArray=xs:=by
          simp only [Bool.or_eq_true,beq_iff_eq] at h2
          rcases h2 with h2 | h2
          · subst h2; obtain ⟨c⟩:=xs; simp
          · obtain ⟨c⟩:=xs; simp only [Str.length,Array.size_eq_zero_iff] at h2; subst h2; simp
        rw [e0] at q
        exact q _ _ (.refl _) rx
      · rw [if_neg h2,zkc,Array.empty_append]
        exact ⟨hlen,q _ _ .tok1 (zco hlen)⟩
   | list xs=>
    obtain ⟨n,rfl,g⟩:=zgz e
    obtain ⟨l,vs,k,rfl,_,_,ho,hl,hxl⟩:=zbg rx; obtain ⟨t',rfl⟩:=zah ry
    obtain ⟨hz,rfl⟩:=zau g
    simp only [zak,Bool.and_eq_true,decide_eq_true_eq] at hz
    obtain ⟨hz1,hz2,hz3⟩:=hz
    have hvl:=hl.length
    have hz1': vs.toArray.size * n.toNat<=2 ^ 24:=by simp only [List.size_toArray,hvl]; exact hz1
    have hrep: RepL C s.heap W (List.replicate n.toNat xs).flatten (List.replicate n.toNat vs).flatten:=by
      generalize n.toNat=j
      induction j with
      | zero=>rfl
      | succ j ih=>simp only [List.replicate_succ,List.flatten_cons]; exact hl.append ih
    have hzz: (List.replicate n.toNat xs).flatten.length<=sizeLine:=by
      have: (List.replicate n.toNat xs).flatten.length=n.toNat * xs.length:=by simp
      rw [this,sizeLine_eq,Nat.mul_comm]; exact hz1
    intro Q E q
    refine wpAny_binaryOp_repeat_ref (T:="list") (U:="int") (by decide) ⟨_,ho,rfl⟩ (fun s'=>typeIs_int s' n t') noFill_list_mul F.fills_int_mul F.slot_int_rmul repeat_list F.slot_int_index.lookup
      (call_meets F.slot_int_rmul (typeIs_int s n t') F.entry_int_rmul (F.args_int_rmul_2 _ _) (int___rmul___int_list n t' l vs.toArray k)
        ⟨ho,rfl,⟨_,ho,rfl⟩,call_meets F.slot_list_mul ⟨_,ho,rfl⟩ F.entry_list_mul (F.args_list_mul_2 _ _)
          (AutoListH.list___mul___list_int_3 l vs.toArray k n t' (by simp [Builtin.List.listFitsIndex]; lia) (by lia) (by simp [Builtin.List.listTooLong,sizeLine,hvl]; exact hz1))
          ⟨ho,?_⟩⟩)
    have e1: List.foldl (fun x1 x2=>x1 ++ x2) #[] (List.replicate (if vs.toArray.isEmpty=true then 0 else n.toNat) vs.toArray)=(List.replicate n.toNat vs).flatten.toArray:=by
      rw [zkc,Array.empty_append]
      by_cases he: vs.toArray.isEmpty=true
      · rw [if_pos he]
        have: vs=[]:=by simpa using he
        subst this; simp
      · rw [if_neg he]
    rw [e1]
    exact zht (n:=0) a hrep hzz q
   | _=>exact zae e
  | FloorDiv=>
    obtain ⟨a,b,rfl,rfl,g⟩:=zcx e
    obtain ⟨t,rfl⟩:=zah rx; obtain ⟨t',rfl⟩:=zah ry
    obtain ⟨h0,g⟩:=zey g
    obtain ⟨hp,k⟩:=zey g
    replace k:=oj k; subst k
    intro Q E q
    exact floordiv_int h0 (q _ _ .tok1 zbf) (.inl (by simpa using hp))
  | Mod=>
    obtain ⟨a,b,rfl,rfl,g⟩:=zcx e
    obtain ⟨t,rfl⟩:=zah rx; obtain ⟨t',rfl⟩:=zah ry
    obtain ⟨h0,k⟩:=zey g
    replace k:=oj k; subst k
    intro Q E q
    exact mod_int' h0 (q _ _ .tok1 zbf)
  | Pow=>
    obtain ⟨a,b,rfl,rfl,g⟩:=zcx e
    obtain ⟨t,rfl⟩:=zah rx; obtain ⟨t',rfl⟩:=zah ry
    obtain ⟨h0,rfl⟩:=zau g
    simp only [zd5,Bool.and_eq_true,decide_eq_true_eq] at h0
    intro Q E q
    exact pow_int h0.1 h0.2 (q _ _ .tok1 zbf)
  | LShift=>
    obtain ⟨a,b,rfl,rfl,g⟩:=zcx e
    obtain ⟨t,rfl⟩:=zah rx; obtain ⟨t',rfl⟩:=zah ry
    obtain ⟨h0,rfl⟩:=zau g
    simp only [zd5,Bool.and_eq_true,decide_eq_true_eq] at h0
    intro Q E q
    exact lshift_int h0.1 h0.2 (q _ _ .tok1 zbf)
  | RShift=>
    obtain ⟨a,b,rfl,rfl,g⟩:=zcx e
    obtain ⟨t,rfl⟩:=zah rx; obtain ⟨t',rfl⟩:=zah ry
    obtain ⟨h0,rfl⟩:=zau g
    intro Q E q
    exact rshift_int h0 (q _ _ .tok1 zbf)
  | BitAnd=>
    obtain ⟨a,b,rfl,rfl,g⟩:=zcx e
    obtain ⟨t,rfl⟩:=zah rx; obtain ⟨t',rfl⟩:=zah ry; replace g:=oj g; subst g
    intro Q E q
    exact and_int (q _ _ .tok1 zbf)
  | BitOr=>
    obtain ⟨a,b,rfl,rfl,g⟩:=zcx e
    obtain ⟨t,rfl⟩:=zah rx; obtain ⟨t',rfl⟩:=zah ry; replace g:=oj g; subst g
    intro Q E q
    exact or_int (q _ _ .tok1 zbf)
  | BitXor=>
    obtain ⟨a,b,rfl,rfl,g⟩:=zcx e
    obtain ⟨t,rfl⟩:=zah rx; obtain ⟨t',rfl⟩:=zah ry; replace g:=oj g; subst g
    intro Q E q
    exact xor_int (q _ _ .tok1 zbf)
  | _=>exact zae e
end
section
variable {C: CX} {W: Addr -> Prop} {s: Shared} {A: Around}
theorem zhu {h: Heap} {v: Value} (r: Rep C h W .none v): v = .none:=r
theorem ze4 {h: Heap} {b: Bool} {v: Value} (r: Rep C h W (.bool b) v): v = .bool b:=r
theorem zts {h: Heap} {b: String} {v: Value} (r: Rep C h W (.ty b) v): v = .type b:=r
theorem zkd {h: Heap} {x: Str} {v: Value} (r: Rep C h W (.lit x) v): ∃ t,v = .str x t/\x.length<=sizeLine/\C.lit x t:=r
theorem zn2 {h: Heap} {lo hi st: Int} {v: Value} (r: Rep C h W (.range lo hi st) v): ∃ a,v = .ref a /\ ¬ W a/\C.n₀<=a/\Heap.IsRangeAt h a lo hi st/\zbk lo hi st=true:=r
theorem zxa {h: Heap} {kvs: List (Str × PV)} {v: Value} (r: Rep C h W (.dict kvs) v): ∃ a l,v = .ref a /\ ¬ W a/\C.n₀<=a/\h.DictOf (strKind C.prog C.w) a l/\RepD C h W kvs l:=r
theorem z3e {h: Heap} {v: Value} (r: Rep C h W .b1 v): C.mg "b1_set" = some v:=r
theorem z3f {h: Heap} {v: Value} (r: Rep C h W .b3 v): C.mg "b3_exceptions" = some v:=r
theorem z0l {i: Int} {v: Value} (r: Rep C s.heap W (.int i) v): Snd0 C A s W (unaryOp .USub v) (.int (-i)):=fun Q E q=>by
  obtain ⟨t,rfl⟩:=zah r
  exact PySem.P.neg_int (q _ _ .tok1 zbf)
theorem z0m {i: Int} {v: Value} (r: Rep C s.heap W (.int i) v): Snd0 C A s W (unaryOp .Invert v) (.int (Builtin.bitNot i)):=fun Q E q=>by
  obtain ⟨t,rfl⟩:=zah r
  exact invert_int (q _ _ .tok1 zbf)
theorem zhv {α β: Type} {f: α -> Option β} {x: α} {xs: List α} {r: List β} (h: (x :: xs).mapM f=some r): ∃ a l,f x=some a/\xs.mapM f=some l/\a :: l=r:=by
  rw [List.mapM_cons] at h
  obtain ⟨a,h1,h⟩:=Option.bind_eq_some_iff.mp h
  obtain ⟨l,h2,h⟩:=Option.bind_eq_some_iff.mp h
  exact ⟨a,l,h1,h2,Option.some.inj h⟩
theorem zga {h: Heap} {xs: List PV}: ∀ {ds: List PyData} {vs: List Value},xs.mapM zj4=some ds -> RepL C h W xs vs -> ReadsAll h vs ds []/\PyData.canLayAll0 ds=true/\PyData.depthAll ds=0:=by
  induction xs with
  | nil=>
    intro ds vs e r
    obtain rfl: vs=[]:=r
    obtain rfl: []=ds:=Option.some.inj e
    exact ⟨.nil,rfl,rfl⟩
  | cons x xs ih=>
    intro ds vs e r
    obtain ⟨v,u,rfl,hx,hr⟩: ∃ v u,vs=v :: u/\Rep C h W x v/\RepL C h W xs u:=r
    obtain ⟨d,l,hx',hxs,rfl⟩:=zhv e
    obtain ⟨h1,h2,h3⟩:=ih hxs hr
    cases x with
    | int i=>
      obtain rfl:=Option.some.inj hx'; obtain ⟨t,rfl⟩:=zah hx
      exact ⟨ReadsAll.cons (as:=[]) (bs:=[]) (.int _ t) h1,by rw [PyData.canLayAll0,h2]; rfl,by rw [PyData.depthAll,h3]; rfl⟩
    | bool b=>
      obtain rfl:=Option.some.inj hx'; obtain rfl:=ze4 hx
      exact ⟨ReadsAll.cons (as:=[]) (bs:=[]) (.bool _) h1,by rw [PyData.canLayAll0,h2]; rfl,by rw [PyData.depthAll,h3]; rfl⟩
    | _=>exact zae hx'
theorem zhw {h: Heap} {a: Addr} {vs: List Value} {n: Nat} {ds: List PyData} (ho: h.get? a=some (za5 vs n)) (r: ReadsAll h vs ds []): Reads h (.ref a) (.list ds) [a]:=
  Reads.list (o:=za5 vs n) (vs:=vs.toArray) ho rfl rfl r
theorem zhx {h: Heap} {a: Addr} {vs: List Value} {n: Nat} {ds: List PyData} (ho: h.get? a=some (tupO vs n)) (r: ReadsAll h vs ds []): Reads h (.ref a) (.tuple ds) []:=
  Reads.tuple (o:=tupO vs n) (vs:=vs.toArray) ho rfl rfl r
theorem z0n {h: Heap} {y: PV} {b: Str} {u: Value} (e: z27 y=some b) (r: Rep C h W y u): ∃ t,u = .str b t:=by
  cases y with
  | str y=>replace e:=oj e; subst e; obtain ⟨t,h,_⟩:=za4 r; exact ⟨t,h⟩
  | lit y=>replace e:=oj e; subst e; obtain ⟨t,h,_⟩:=zkd r; exact ⟨t,h⟩
  | _=>exact zae e
theorem ztt {x y: PV} {z: Bool} {v u: Value} (e: eqP x y=some z) (rx: Rep C s.heap W x v) (ry: Rep C s.heap W y u) (hu: A.units + 200 < cLine) :
    Snd0 C A s W (compareOp .Eq v u) (.bool z)/\Snd0 C A s W (compareOp .NotEq v u) (.bool (!z)):=by
  cases x with
  | bool a=>
    obtain ⟨b,rfl,g⟩:=mapB e
    obtain rfl:=ze4 rx; obtain rfl:=ze4 ry; induction g
    refine ⟨fun Q E q=>SeqAt.compareEq_reads (.bool a) (.bool b) rfl rfl (by show A.units + min 0 0 < _; lia) ?_,fun Q E q=>SeqAt.compareNe_reads (.bool a) (.bool b) rfl rfl (by show A.units + min 0 0 < _; lia) ?_⟩
    · have: PyData.eqv (.bool a) (.bool b)=(a == b):=by simp [PyData.eqv]
      rw [this]; exact q _ _ (.refl _) za1
    · have: PyData.eqv (.bool a) (.bool b)=(a == b):=by simp [PyData.eqv]
      rw [this]; exact q _ _ (.refl _) za1
  | int a=>
    obtain ⟨b,rfl,g⟩:=mapI e
    obtain ⟨t,rfl⟩:=zah rx; obtain ⟨t',rfl⟩:=zah ry; induction g
    exact ⟨fun Q E q=>PySem.P.eq_int (q _ _ (.refl _) za1),fun Q E q=>PySem.P.ne_int (q _ _ (.refl _) za1)⟩
  | str a=>
    obtain ⟨b,h,g⟩:=Option.map_eq_some_iff.mp e
    obtain ⟨t,rfl,_⟩:=za4 rx
    obtain ⟨t',rfl⟩:=z0n h ry
    induction g
    exact ⟨fun Q E q=>PyProof.Rows.eq_str (q _ _ (.refl _) za1),fun Q E q=>PyProof.Rows.ne_str (q _ _ (.refl _) za1)⟩
  | list xs=>
    obtain ⟨ys,rfl,g⟩:=zho e
    obtain ⟨l,vs,n,rfl,_,_,ho,hl,_⟩:=zbg rx
    obtain ⟨l',vs',n',rfl,_,_,ho',hl',_⟩:=zbg ry
    obtain ⟨dx,hx,g⟩:=Option.bind_eq_some_iff.mp g
    obtain ⟨dy,hy,g⟩:=Option.map_eq_some_iff.mp g
    cases g
    obtain ⟨a1,a2,a3⟩:=zga hx hl
    obtain ⟨b1,b2,b3⟩:=zga hy hl'
    have hd: A.units + min (PyData.depth (.list dx)) (PyData.depth (.list dy)) < cLine:=by
      rw [PyData.depth,PyData.depth,a3,b3]; lia
    have ev: PyData.eqv (.list dx) (.list dy)=PyData.eqvAll dx dy:=by simp only [PyData.eqv]
    have c1: PyData.canLay0 (.list dx)=true:=by simpa only [PyData.canLay0] using a2
    have c2: PyData.canLay0 (.list dy)=true:=by simpa only [PyData.canLay0] using b2
    exact ⟨fun Q E q=>SeqAt.compareEq_reads (zhw ho a1) (zhw ho' b1) c1 c2 hd (by rw [ev]; exact q _ _ (.refl _) za1),
      fun Q E q=>SeqAt.compareNe_reads (zhw ho a1) (zhw ho' b1) c1 c2 hd (by rw [ev]; exact q _ _ (.refl _) za1)⟩
  | tuple xs=>
    obtain ⟨ys,rfl,g⟩:=z26 e
    obtain ⟨l,vs,n,rfl,_,_,ho,hl⟩:=zdz rx
    obtain ⟨l',vs',n',rfl,_,_,ho',hl'⟩:=zdz ry
    obtain ⟨dx,hx,g⟩:=Option.bind_eq_some_iff.mp g
    obtain ⟨dy,hy,g⟩:=Option.map_eq_some_iff.mp g
    cases g
    obtain ⟨a1,a2,a3⟩:=zga hx hl
    obtain ⟨b1,b2,b3⟩:=zga hy hl'
    have hd: A.units + min (PyData.depth (.tuple dx)) (PyData.depth (.tuple dy)) < cLine:=by
      rw [PyData.depth,PyData.depth,a3,b3]; lia
    have ev: PyData.eqv (.tuple dx) (.tuple dy)=PyData.eqvAll dx dy:=by simp only [PyData.eqv]
    have c1: PyData.canLay0 (.tuple dx)=true:=by simpa only [PyData.canLay0] using a2
    have c2: PyData.canLay0 (.tuple dy)=true:=by simpa only [PyData.canLay0] using b2
    exact ⟨fun Q E q=>SeqAt.compareEq_reads (zhx ho a1) (zhx ho' b1) c1 c2 hd (by rw [ev]; exact q _ _ (.refl _) za1),
      fun Q E q=>SeqAt.compareNe_reads (zhx ho a1) (zhx ho' b1) c1 c2 hd (by rw [ev]; exact q _ _ (.refl _) za1)⟩
  | _=>exact zae e
theorem ztu {x y: PV} {z: Bool} {v u: Value} (e: isP x y=some z) (rx: Rep C s.heap W x v) (ry: Rep C s.heap W y u) :
    Snd0 C A s W (compareOp .Is v u) (.bool z)/\Snd0 C A s W (compareOp .IsNot v u) (.bool (!z)):=by
  cases x with
  | bool a=>
    obtain ⟨b,rfl,g⟩:=mapB e
    obtain rfl:=ze4 rx; obtain rfl:=ze4 ry; induction g
    have h: (Value.bool a == Value.bool b)=(a == b):=by induction a <;> induction b <;> decide
    exact ⟨fun Q E q=>wpAny_is_plain rfl (by rw [h]; exact q _ _ (.refl _) za1),fun Q E q=>wpAny_isNot_plain rfl (by rw [h]; exact q _ _ (.refl _) za1)⟩
  | none=>
   cases y with
   | none=>
    obtain rfl:=zhu rx; obtain rfl:=zhu ry; replace e:=oj e; subst e
    exact ⟨fun Q E q=>wpAny_is_self rfl (q _ _ (.refl _) za1),fun Q E q=>wpAny_isNot_self rfl (q _ _ (.refl _) za1)⟩
   | str y=>
    obtain rfl:=zhu rx; obtain ⟨t,rfl,_⟩:=za4 ry; replace e:=oj e; subst e
    exact ⟨fun Q E q=>wpAny_is_other rfl (by intro h; cases h) (q _ _ (.refl _) za1),fun Q E q=>wpAny_isNot_other rfl (by intro h; cases h) (q _ _ (.refl _) za1)⟩
   | _=>exact zae e
  | str x=>
   cases y with
   | none=>
    obtain ⟨t,rfl,_⟩:=za4 rx; obtain rfl:=zhu ry; replace e:=oj e; subst e
    exact ⟨fun Q E q=>wpAny_is_other rfl (by intro h; cases h) (q _ _ (.refl _) za1),fun Q E q=>wpAny_isNot_other rfl (by intro h; cases h) (q _ _ (.refl _) za1)⟩
   | _=>exact zae e
  | ty a=>
    obtain ⟨b,rfl,g⟩:=z5e e
    obtain rfl:=zts rx; obtain rfl:=zts ry; induction g
    have h: (Value.type a == Value.type b)=(a == b):=by
      rw [Bool.eq_iff_iff]; simp
    exact ⟨fun Q E q=>wpAny_is_plain rfl (by rw [h]; exact q _ _ (.refl _) za1),fun Q E q=>wpAny_isNot_plain rfl (by rw [h]; exact q _ _ (.refl _) za1)⟩
  | _=>exact zae e
theorem zmv {h: Heap} {xs: List PV}: ∀ {ns: List Int} {vs: List Value},zgk xs=some ns -> RepL C h W xs vs -> IntsAre vs ns:=by
  induction xs with
  | nil=>
    intro ns vs e r
    obtain rfl: vs=[]:=r
    obtain rfl: []=ns:=Option.some.inj e
    exact .nil
  | cons x xs ih=>
    intro ns vs e r
    obtain ⟨v,u,rfl,hx,hr⟩: ∃ v u,vs=v :: u/\Rep C h W x v/\RepL C h W xs u:=r
    obtain ⟨d,l,hx',hxs,rfl⟩:=zhv e
    obtain rfl:=zel hx'
    obtain ⟨t,rfl⟩:=zah hx
    exact .cons _ t (ih hxs hr)
theorem zxb {h: Heap} {xs: List PV}: ∀ {ns: List Str} {vs: List Value},zhp xs=some ns -> RepL C h W xs vs -> StrsAre vs ns:=by
  induction xs with
  | nil=>
    intro ns vs e r
    obtain rfl: vs=[]:=r
    obtain rfl: []=ns:=Option.some.inj e
    exact .nil
  | cons x xs ih=>
    intro ns vs e r
    obtain ⟨v,u,rfl,hx,hr⟩: ∃ v u,vs=v :: u/\Rep C h W x v/\RepL C h W xs u:=r
    obtain ⟨d,l,hx',hxs,rfl⟩:=zhv e
    obtain rfl:=zhn hx'
    obtain ⟨t,rfl,_⟩:=za4 hx
    exact .cons _ t (ih hxs hr)
theorem zn3 (k: Int): ∀ {vs: List Value} {ns: List Int},IntsAre vs ns -> vs.any (isInt k)=ns.contains k
  | _,_,.nil=>rfl
  | _,_,.cons n t r=>by
    rw [List.any_cons,List.contains_cons,zn3 k r]
    have: isInt k (.int n t)=(k == n):=by
      show (n == k)=_
      by_cases h: n=k
      · subst h; rfl
      · rw [beq_eq_false_iff_ne.mpr h,beq_eq_false_iff_ne.mpr (Ne.symm h)]
    rw [this]
theorem ztv {x y: PV} {z: Bool} {v u: Value} (e: inP x y=some z) (rx: Rep C s.heap W x v) (ry: Rep C s.heap W y u) :
    Snd0 C A s W (compareOp .In v u) (.bool z)/\Snd0 C A s W (compareOp .NotIn v u) (.bool (!z)):=by
  cases x with
  | int k=>
    obtain ⟨ys,rfl,g⟩:=zho e
    obtain ⟨t,rfl⟩:=zah rx
    obtain ⟨l,vs,n,rfl,_,_,ho,hl,_⟩:=zbg ry
    obtain ⟨ns,hi,g⟩:=Option.map_eq_some_iff.mp g
    induction g
    have hA:=zmv hi hl
    have he: vs.toArray.any (isInt k)=ns.contains k:=by rw [List.any_toArray]; exact zn3 k hA
    have hq: ∀ y,y ∈ vs.toArray -> MeetsSeq.EqGives y (.int k t) (isInt k y):=fun y hy=>eq_isInt k t hA y (by simpa using hy)
    exact ⟨fun Q E q=>SeqRoads2.in_list (isInt k) hq ho (by rw [he]; exact q _ _ (.refl _) za1),
        fun Q E q=>SeqRoads2.notIn_list (isInt k) hq ho (by rw [he]; exact q _ _ (.refl _) za1)⟩
  | str x=>
    obtain ⟨y,rfl,g⟩:=mapS e
    obtain ⟨t,rfl,_⟩:=za4 rx; obtain ⟨t',rfl,_⟩:=za4 ry; induction g
    exact ⟨fun Q E q=>PyProof.Rows.in_str (q _ _ (.refl _) za1),fun Q E q=>PyProof.Rows.notIn_str (q _ _ (.refl _) za1)⟩
  | _=>exact zae e
theorem z0o {op: CmpOp} {x y: PV} {z: Bool} {v u: Value} (e: cmpP op x y=some z) (rx: Rep C s.heap W x v) (ry: Rep C s.heap W y u) (hu: A.units + 200 < cLine) :
    Snd0 C A s W (compareOp op v u) (.bool z):=by
  induction op with
  | Eq=>exact (ztt e rx ry hu).1
  | NotEq=>
    obtain ⟨b,h,g⟩:=Option.map_eq_some_iff.mp e
    induction g; exact (ztt h rx ry hu).2
  | Is=>exact (ztu e rx ry).1
  | IsNot=>
    obtain ⟨b,h,g⟩:=Option.map_eq_some_iff.mp e
    induction g; exact (ztu h rx ry).2
  | In=>exact (ztv e rx ry).1
  | NotIn=>
    obtain ⟨b,h,g⟩:=Option.map_eq_some_iff.mp e
    induction g; exact (ztv h rx ry).2
  | Lt=>
    obtain ⟨a,b,rfl,rfl,g⟩:=zq0 e
    obtain ⟨t,rfl⟩:=zah rx; obtain ⟨t',rfl⟩:=zah ry; induction g
    exact fun Q E q=>PySem.P.lt_int (q _ _ (.refl _) za1)
  | LtE=>
    obtain ⟨a,b,rfl,rfl,g⟩:=zq0 e
    obtain ⟨t,rfl⟩:=zah rx; obtain ⟨t',rfl⟩:=zah ry; induction g
    exact fun Q E q=>PySem.P.le_int (q _ _ (.refl _) za1)
  | Gt=>
    obtain ⟨a,b,rfl,rfl,g⟩:=zq0 e
    obtain ⟨t,rfl⟩:=zah rx; obtain ⟨t',rfl⟩:=zah ry; induction g
    exact fun Q E q=>PySem.P.gt_int (q _ _ (.refl _) za1)
  | GtE=>
    obtain ⟨a,b,rfl,rfl,g⟩:=zq0 e
    obtain ⟨t,rfl⟩:=zah rx; obtain ⟨t',rfl⟩:=zah ry; induction g
    exact fun Q E q=>PySem.P.ge_int (q _ _ (.refl _) za1)
noncomputable def z0p (C: CX) (A: Around) (s: Shared) (t: Sem Bool) (b: Bool): Prop:=
  ∀ (Q: Bool -> Shared -> Prop) (E: Value -> Shared -> Prop),(∀ s',Ext0 C s s' -> Q b s') -> wpAny (model C.prog C.w) A t Q E s
noncomputable def SndB (C: CX) (A: Around) (s: Shared) (t: Sem Bool) (b: Bool): Prop:=
  ∀ (Q: Bool -> Shared -> Prop) (E: Value -> Shared -> Prop),(∀ s',Ext C s s' -> Q b s') -> wpAny (model C.prog C.w) A t Q E s
theorem z0p.up {t: Sem Bool} {b: Bool} (x: z0p C A s t b): SndB C A s t b:=fun Q E q=>
  wpAny_with_toks (Nat.le_refl s.toks) (x _ _ fun s' e ht=>q s' ⟨e,ht⟩)
theorem ztw {x: PV} {z: Bool} {v: Value} (e: zem x=some z) (rx: Rep C s.heap W x v): z0p C A s (truthy v) z:=fun Q E q=>by
  cases x with
  | bool x=>
    obtain rfl:=ze4 rx; replace e:=oj e; subst e
    exact wpAny_truthy_bool (q _ (.refl _))
  | int x=>
    obtain ⟨t,rfl⟩:=zah rx; replace e:=oj e; subst e
    exact PySem.P.truthy_int (q _ (.refl _))
  | list xs=>
    obtain ⟨l,vs,n,rfl,_,_,ho,hl,hz⟩:=zbg rx; replace e:=oj e; subst e
    have hv:=hl.length
    have hem: vs.toArray.isEmpty=xs.isEmpty:=by
      cases vs <;> induction xs <;> first | rfl | (simp at hv)
    refine wpAny_truthy_list (items:=vs.toArray) ⟨_,ho,rfl,_,rfl⟩ (by simp only [List.size_toArray,hv]; rw [sizeLine_eq] at hz; lia) ?_
    rw [hem]; exact q _ (.toks _)
  | str x=>
    obtain ⟨t,rfl,hz⟩:=za4 rx; replace e:=oj e; subst e
    refine PySem.P.truthy_str (by rw [sizeLine_eq] at hz; lia) ?_
    have: ((x.length: Int) != 0)=(x.length != 0):=by rw [Bool.eq_iff_iff]; simp
    rw [this]; exact q _ (.toks _)
  | none=>
    obtain rfl:=zhu rx; replace e:=oj e; subst e
    exact fun _ _ _=>q _ (.refl _)
  | _=>exact zae e
end
theorem zke (slice: Expr) (o i: Value): ∃ ops,subscripted slice false o i=operate ops (getItem o i):=by
  cases slice with
  | Slice a b c p=>induction c <;> exact ⟨_,rfl⟩
  | _=>exact ⟨_,rfl⟩
noncomputable def zhb (prog: Program) (w: World) (A: Around) (o i: Value) (Q E: Value -> Shared -> Prop) (s: Shared): Prop:=
  ∃ T id,typeLookup (.type T) "__getitem__" = pure (some (.builtin id))/\s.TypeIs o T/\wpAny (model prog w) A (getItem o i) Q E s
theorem zdl {prog: Program} {w: World} {A: Around} {s: Shared} {env: Env} {value slice: Expr} {pos: Pos} {Q E: Value -> Shared -> Prop}
    (h: wpAny (model prog w) A (eval value env) (fun o s₁=>wpAny (model prog w) A (eval slice env) (fun i s₂=>zhb prog w A o i Q E s₂) E s₁) E s) :
    wpAny (model prog w) A (eval (.Subscript value slice pos) env) Q E s:=by
  rw [arm_eval_Subscript]
  refine wpAny_bind (wpAny_mono h (fun o s₁ h₁=>wpAny_bind (wpAny_holding (wpAny_mono h₁ (fun i s₂ h₂=>wpAny_bind (wpAny_standAt ?_)) fun _ _ x=>x))) fun _ _ x=>x)
  obtain ⟨T,id,hl,hT,hg⟩:=h₂
  obtain ⟨ops,hs⟩:=zke slice o i
  exact tail_any hT hl hg hs
theorem zhc {k: Int} {n: Nat} (h0: 0<=k) (h: k.toNat < n): seqIndex? k n=some k.toNat:=by
  unfold seqIndex?
  have h1: ¬ k < 0:=by lia
  have h2: k < n:=by lia
  simp [h1,h0,h2]
section
variable {C: CX} {W: Addr -> Prop} {s: Shared} {A: Around}
theorem ziv {h: Heap}: ∀ {kvs: List (Str × PV)} {l: List (Str × Value)} {k: Str} {x: PV},RepD C h W kvs l -> kvs.lookup k=some x -> ∃ v,valueAt l k=some v/\Rep C h W x v:=by
  intro zz
  induction zz with
  | nil=>intro _ _ _ _ e; simp at e
  | cons zq r ih=>
    obtain ⟨q,y⟩:=zq
    intro l k x hr e
    obtain ⟨v,l',rfl,hx,hr⟩:=hr
    rw [List.lookup_cons] at e
    by_cases hq: k=q
    · subst hq
      rw [beq_self_eq_true] at e; replace e:=oj e; subst e
      exact ⟨v,by simp [valueAt],hx⟩
    · rw [beq_eq_false_iff_ne.mpr hq] at e
      obtain ⟨v',h1,h2⟩:=ih hr e
      refine ⟨v',?_,h2⟩
      unfold valueAt at h1 ⊢
      rw [List.find?_cons]
      simp only [decide_eq_false (Ne.symm hq)]
      exact h1
theorem zpj {h: Heap}: ∀ {kvs: List (Str × PV)} {l: List (Str × Value)} {k: Str},RepD C h W kvs l -> kvs.lookup k=none -> valueAt l k=none:=by
  intro zz
  induction zz with
  | nil=>intro _ _ hr _; obtain rfl: _=_:=hr; rfl
  | cons zq r ih=>
    obtain ⟨q,y⟩:=zq
    intro l k hr e
    obtain ⟨v,l',rfl,hx,hr⟩:=hr
    rw [List.lookup_cons] at e
    by_cases hq: k=q
    · subst hq
      rw [beq_self_eq_true] at e; cases e
    · rw [beq_eq_false_iff_ne.mpr hq] at e
      have h1:=ih hr e
      unfold valueAt at h1 ⊢
      rw [List.find?_cons]
      simp only [decide_eq_false (Ne.symm hq)]
      exact h1
theorem ztx {a: Addr} (h: C.n₀<=a): (a == sysModules)=false:=by
  have:=C.n4
  rw [beq_eq_false_iff_ne]
  intro e
  rw [e] at h
  have h1: sysModules < 4:=by decide
  exact Nat.not_le_of_lt h1 (Nat.le_trans this h)
theorem zty {x y z: PV} {v u: Value} {Q E: Value -> Shared -> Prop} (e: subP x y=some z) (rx: Rep C s.heap W x v) (ry: Rep C s.heap W y u)
    (q: ∀ v s',Ext0 C s s' -> Rep C s'.heap W z v -> Q v s'): zhb C.prog C.w A v u Q E s:=by
  cases x with
  | list xs=>
    obtain ⟨k,rfl,g⟩:=zgz e
    obtain ⟨l,vs,n,rfl,_,_,ho,hl,_⟩:=zbg rx; obtain ⟨t,rfl⟩:=zah ry
    · obtain ⟨hk,g⟩:=zck g
      simp only [Bool.and_eq_true,decide_eq_true_eq] at hk
      obtain ⟨y,h1,h2⟩:=hl.get _ g
      exact ⟨"list",_,slot_list_getitem.lookup,⟨_,ho,rfl⟩,wpAny_getItem_list (items:=vs.toArray) ⟨_,ho,rfl,_,rfl⟩ hk.1 (by lia) (by simpa using h1) (q _ _ (.refl _) h2)⟩
  | tuple xs=>
    obtain ⟨k,rfl,g⟩:=zgz e
    obtain ⟨l,vs,n,rfl,_,_,ho,hl⟩:=zdz rx; obtain ⟨t,rfl⟩:=zah ry
    · obtain ⟨hk,g⟩:=zck g
      simp only [Bool.and_eq_true,decide_eq_true_eq] at hk
      obtain ⟨y,h1,h2⟩:=hl.get _ g
      have hlt: k.toNat < vs.length:=(List.getElem?_eq_some_iff.mp h1).1
      refine ⟨"tuple",_,slot_tuple_getitem.lookup,⟨_,ho,rfl⟩,PyProof.Rows.getItem_tuple (j:=k.toNat) (items:=vs.toArray) ⟨_,ho,rfl,n,rfl⟩ (by lia) (by lia) ?_ (by simpa using h1) (q _ _ (.refl _) h2)⟩
      exact zhc hk.1 (by simpa using hlt)
  | str x=>
    obtain ⟨k,rfl,g⟩:=zgz e
    obtain ⟨t,rfl,hz⟩:=za4 rx; obtain ⟨t',rfl⟩:=zah ry
    · obtain ⟨hk,g⟩:=zck g
      simp only [Bool.and_eq_true,decide_eq_true_eq] at hk
      cases hc: x.cps[k.toNat]? with
      | none=>rw [hc] at g; exact zae g
      | some c=>
        rw [hc] at g; replace g:=oj g; subst g
        refine ⟨"str",_,F.slot_str_getitem.lookup,typeIs_str _ _ _,PySem.P.getItem_str (c:=c) (by simp; lia) ?_ (q _ _ .tok1 (zco (by show 1<=_; decide)))⟩
        have hlt: k.toNat < x.length:=(Array.getElem?_eq_some_iff.mp hc).1
        rw [zhc hk.1 hlt]; exact hc
  | lit x=>
    obtain ⟨k,rfl,g⟩:=zgz e
    obtain ⟨t,rfl,hz,_⟩:=zkd rx; obtain ⟨t',rfl⟩:=zah ry
    · obtain ⟨hk,g⟩:=zck g
      simp only [Bool.and_eq_true,decide_eq_true_eq] at hk
      cases hc: x.cps[k.toNat]? with
      | none=>rw [hc] at g; exact zae g
      | some c=>
        rw [hc] at g; replace g:=oj g; subst g
        refine ⟨"str",_,F.slot_str_getitem.lookup,typeIs_str _ _ _,PySem.P.getItem_str (c:=c) (by simp; lia) ?_ (q _ _ .tok1 (zco (by show 1<=_; decide)))⟩
        have hlt: k.toNat < x.length:=(Array.getElem?_eq_some_iff.mp hc).1
        rw [zhc hk.1 hlt]; exact hc
  | dict kvs=>
    obtain ⟨k,rfl,g⟩:=zr4 e
    obtain ⟨a,l,rfl,_,hn,hd,hl⟩:=zxa rx; obtain ⟨t,rfl,_⟩:=za4 ry
    obtain ⟨v,h1,h2⟩:=ziv hl g
    have hkey: (strKind C.prog C.w).is k (.str k t)=true:=by show (k == k)=true; simp
    exact ⟨"dict",_,slot_dict_getitem.lookup,hd.typeIs,wpAny_getItem_of hkey hd.mapOf h1 (q _ _ .tok1 h2)⟩
  | _=>exact zae e
end
section
variable {C: CX} {W: Addr -> Prop} {s: Shared} {A: Around}
theorem z5j {h: Heap} {b: String}: Rep C h W (.ty b) (.type b):=rfl
theorem ztz {x z: PV} {v vl vu: Value} {lo hi: Option Int} {sl: Addr} {Q E: Value -> Shared -> Prop} (e: zq1 x lo hi=some z) (a: At C W s) (rx: Rep C s.heap W x v)
    (hsl: s.heap.get? sl=some { cls:=.type "slice",data:=.fields #[vl,vu,.none] }) (pl: IsPart vl lo) (pu: IsPart vu hi)
    (q: ∀ v s',Ext0 C s s' -> Rep C s'.heap W z v -> Q v s'): zhb C.prog C.w A v (.ref sl) Q E s:=by
  cases x with
  | list xs=>
    obtain ⟨l,vs,n,rfl,_,_,ho,hl,hz⟩:=zbg rx
    obtain ⟨hz2,rfl⟩:=zau e
    have hv:=hl.length
    have hz2': (zdd xs lo hi none).length<=16777216:=by simpa [zak] using hz2
    refine ⟨"list",_,slot_list_getitem.lookup,⟨_,ho,rfl⟩,wpAny_getItem_list_slice (items:=vs.toArray) (lo:=lo) (hi:=hi) (st:=none) ⟨_,ho,rfl,_,rfl⟩ ⟨_,hsl,rfl,rfl⟩ pl pu .none (by simp) ?_ (by simpa [hv] using hz)⟩
    have hs: slicePick vs.toArray lo hi none=(zdd vs lo hi none).toArray:=by
      unfold slicePick zdd
      simp
    rw [hs]
    have hr: RepL C s.heap W (zdd xs lo hi none) (zdd vs lo hi none):=by
      unfold zdd
      rw [hv]
      generalize sliceRange _ _ _=idx
      clear hz2 hz2' hs
      induction idx with
      | nil=>rfl
      | cons j r ih=>
        cases hj: xs[j]? with
        | none=>
          have: vs[j]? = none:=by rw [List.getElem?_eq_none_iff] at hj ⊢; lia
          rw [List.filterMap_cons_none hj,List.filterMap_cons_none this]; exact ih
        | some y=>
          obtain ⟨w,h1,h2⟩:=hl.get j hj
          rw [List.filterMap_cons_some hj,List.filterMap_cons_some h1]; exact RepL.cons h2 ih
    exact zht (n:=0) (k:=s.toks) a hr hz2' q
  | str x=>
    obtain ⟨t,rfl,hz⟩:=za4 rx
    replace e:=oj e; subst e
    have hpart: ∀ {v o},IsPart v o -> ∃ p: Option (Int × Tok),v=partValue p/\p.map (·.1)=o:=fun h=>by
      cases h with
      | none=>exact ⟨none,rfl,rfl⟩
      | int i t=>exact ⟨some (i,t),rfl,rfl⟩
    obtain ⟨l,rfl,hlo⟩:=hpart pl
    obtain ⟨u,rfl,hhi⟩:=hpart pu
    subst hlo hhi
    refine ⟨"str",_,F.slot_str_getitem.lookup,typeIs_str _ _ _,wpAny_getItem_str_slice (l:=l) (u:=u) (st:=none) ⟨_,hsl,rfl,rfl⟩ rfl ?_⟩
    exact post_val_or_str ⟨Nat.le_trans (Txt.slice_le x _ _) hz,fun t' k=>q _ _ (.toks _) (zco (Nat.le_trans (Txt.slice_le x _ _) hz))⟩
  | _=>exact zae e
theorem z0q {xs: List PV} {v vs': Value} {sl: Addr} {Q E: Value -> Shared -> Prop} (hz2: zak (zdd xs none none (some (-1))).length=true) (a: At C W s) (rx: Rep C s.heap W (.list xs) v)
    (hsl: s.heap.get? sl=some { cls:=.type "slice",data:=.fields #[.none,.none,vs'] }) (hs: ∃ t,vs' = .int (-1) t)
    (q: ∀ v s',Ext0 C s s' -> Rep C s'.heap W (.list (zdd xs none none (some (-1)))) v -> Q v s'): zhb C.prog C.w A v (.ref sl) Q E s:=by
  obtain ⟨l,vs,n,rfl,_,_,ho,hl,hz⟩:=zbg rx
  obtain ⟨t,rfl⟩:=hs
  have hv:=hl.length
  have hz2': (zdd xs none none (some (-1))).length<=16777216:=by simpa [zak] using hz2
  refine ⟨"list",_,slot_list_getitem.lookup,⟨_,ho,rfl⟩,wpAny_getItem_list_slice (items:=vs.toArray) (lo:=none) (hi:=none) (st:=some (-1)) ⟨_,ho,rfl,_,rfl⟩ ⟨_,hsl,rfl,rfl⟩ .none .none (.int _ _) (by simp) ?_ (by simpa [hv] using hz)⟩
  have hs: slicePick vs.toArray none none (some (-1))=(zdd vs none none (some (-1))).toArray:=by
    unfold slicePick zdd
    simp
  rw [hs]
  have hr: RepL C s.heap W (zdd xs none none (some (-1))) (zdd vs none none (some (-1))):=by
    unfold zdd
    rw [hv]
    generalize sliceRange _ _ _=idx
    clear hz2 hz2' hs
    induction idx with
    | nil=>rfl
    | cons j r ih=>
      simp only [List.filterMap_cons]
      cases hj: xs[j]? with
      | none=>
        have: vs[j]? = none:=by rw [List.getElem?_eq_none_iff] at hj ⊢; lia
        rw [this]; exact ih
      | some y=>
        obtain ⟨w,h1,h2⟩:=hl.get j hj
        rw [h1]; exact RepL.cons h2 ih
  exact zht (n:=0) (k:=s.toks) a hr hz2' q
theorem za6 {h: Heap} {vs: List Value} (r: RepL C h W [] vs): vs=[]:=r
theorem zat {h: Heap} {x: PV} {xs: List PV} {vs: List Value} (r: RepL C h W (x :: xs) vs): ∃ v u,vs=v :: u/\Rep C h W x v/\RepL C h W xs u:=r
theorem zt0: ∀ {vs: List Value} {ns: List Int} {i: Nat} {v: Value},IntsAre vs ns -> vs[i]? = some v -> ∃ t,v = .int (ns.getD i 0) t
  | _,_,i,v,.nil,e=>by simp at e
  | _,_,0,v,.cons n t r,e=>by simp at e; subst e; exact ⟨t,rfl⟩
  | _,_,i + 1,v,.cons n t r,e=>by simpa using zt0 r (by simpa using e)
theorem zt1 {ns: List Int} {n: Nat}: preSum (fun j=>ns.getD j 0) n=(ns.take n).sum:=by
  induction n with
  | zero=>simp [preSum]
  | succ n ih=>rw [preSum,ih,PySem.sum_take_succ]
inductive BI: String -> List PV -> PV -> Prop
  | len (xs: List PV): BI "len" [.list xs] (.int xs.length)
  | lenS (x: Str): BI "len" [.str x] (.int x.length)
  | ord (k: Nat): BI "ord" [.str ⟨#[k]⟩] (.int k)
  | chr (n: Int) (h: (decide (0<=n) && decide (n < 0x110000))=true): BI "chr" [.int n] (.str ⟨#[n.toNat]⟩)
  | sum (xs: List PV) (ns: List Int) (h: zgk xs=some ns): BI "sum" [.list xs] (.int ns.sum)
  | dm (a b: Int) (h0: ¬ b=0) (hp: ¬ Builtin.divisionGoesByPylong a b=true): BI "divmod" [.int a,.int b] (.tuple [.int (a.fdiv b),.int (a.fmod b)])
theorem bE1 (a: List PV): zcb "len" a=(one a).bind lenP:=if_pos rfl
theorem bE2 (a: List PV): zcb "ord" a=bOrd a:=(if_neg (by decide)).trans (if_pos rfl)
theorem bE3 (a: List PV): zcb "chr" a=bChr a:=(if_neg (by decide)).trans ((if_neg (by decide)).trans (if_pos rfl))
theorem bE4 (a: List PV): zcb "sum" a=bSum a:=(if_neg (by decide)).trans ((if_neg (by decide)).trans ((if_neg (by decide)).trans (if_pos rfl)))
theorem bE5 (a: List PV): zcb "divmod" a=bDm a:=(if_neg (by decide)).trans ((if_neg (by decide)).trans ((if_neg (by decide)).trans ((if_neg (by decide)).trans (if_pos rfl))))
theorem bE6 {id: String} (h1: ¬ id = "len") (h2: ¬ id = "ord") (h3: ¬ id = "chr") (h4: ¬ id = "sum") (h5: ¬ id = "divmod") (a: List PV): zcb id a=none:=(if_neg h1).trans ((if_neg h2).trans ((if_neg h3).trans ((if_neg h4).trans (if_neg h5))))
theorem z3g {id: String} {args: List PV} {z: PV} (e: zcb id args=some z): BI id args z:=by
  by_cases h1: id = "len"
  · subst h1
    obtain ⟨x,rfl,g⟩:=zez ((bE1 args).symm.trans e)
    clear e
    cases x with
    | list xs=>obtain rfl:=oj g; exact .len xs
    | str x=>obtain rfl:=oj g; exact .lenS x
    | _=>exact zae g
  by_cases h2: id = "ord"
  · subst h2
    obtain ⟨x,rfl,g⟩:=zez ((bE2 args).symm.trans e)
    clear e
    obtain ⟨⟨⟨c⟩⟩,rfl,g⟩:=zr4 g
    obtain ⟨h1,g⟩:=zck g
    match c,h1,g with
    | [k],_,g=>obtain rfl:=oj g; exact .ord k
  by_cases h3: id = "chr"
  · subst h3
    obtain ⟨x,rfl,g⟩:=zez ((bE3 args).symm.trans e)
    clear e
    obtain ⟨n,rfl,g⟩:=zgz g
    obtain ⟨h1,rfl⟩:=zau g
    exact .chr n h1
  by_cases h4: id = "sum"
  · subst h4
    obtain ⟨x,rfl,g⟩:=zez ((bE4 args).symm.trans e)
    clear e
    obtain ⟨xs,rfl,g'⟩:=zho g
    obtain ⟨ns,hi,rfl⟩:=Option.map_eq_some_iff.mp g'
    exact .sum xs ns hi
  by_cases h5: id = "divmod"
  · subst h5
    obtain ⟨x,y,rfl,g⟩:=zms ((bE5 args).symm.trans e)
    clear e
    obtain ⟨a',b',hx,hy,g'⟩:=zcx g
    obtain rfl: x = .int a':=hx; obtain rfl: y = .int b':=hy
    obtain ⟨h0,g'⟩:=zey g'
    obtain ⟨hp,k⟩:=zey g'
    obtain rfl:=oj k
    exact .dm a' b' h0 hp
  · exact zae ((bE6 h1 h2 h3 h4 h5 args).symm.trans e)
theorem zpk {id: String} {args: List PV} {z: PV} {vs: List Value} (e: zcb id args=some z) (a: At C W s) (hh: A.handled=none) (r: RepL C s.heap W args vs): Snd0 C A s W (call (.builtin id) vs) z:=by
  have b:=z3g e
  clear e
  induction b with
  | len xs=>
    obtain ⟨v,u,rfl,rx,r⟩:=zat r; obtain rfl:=za6 r
    obtain ⟨l,vs,n,rfl,_,_,ho,hl,hz⟩:=zbg rx
    have hv:=hl.length
    intro Q E q
    refine call_len_list (items:=vs.toArray) ⟨_,ho,rfl,_,rfl⟩ (by simp only [List.size_toArray,hv]; rw [sizeLine_eq] at hz; lia) ?_
    simp only [List.size_toArray,hv]
    exact q _ _ (.toks _) zbf
  | lenS x=>
    obtain ⟨v,u,rfl,rx,r⟩:=zat r; obtain rfl:=za6 r
    obtain ⟨t,rfl,hz⟩:=za4 rx
    exact fun Q E q=>PyProof.Rows.len_str (by rw [sizeLine_eq] at hz; lia) (q _ _ (.toks _) zbf)
  | ord k=>
    obtain ⟨v,u,rfl,rx,r⟩:=zat r; obtain rfl:=za6 r
    obtain ⟨t,rfl,hz⟩:=za4 rx
    exact fun Q E q=>PySem.P.ord_of_char (q _ _ .tok1 zbf)
  | chr n h1=>
    obtain ⟨v,u,rfl,rx,r⟩:=zat r; obtain rfl:=za6 r
    obtain ⟨t,rfl⟩:=zah rx
    simp only [Bool.and_eq_true,decide_eq_true_eq] at h1
    exact fun Q E q=>PySem.P.chr_of_int (by simp; lia) (q _ _ .tok1 (zco (by show 1<=_; decide)))
  | sum xs ns hi=>
    obtain ⟨v,u,rfl,rx,r⟩:=zat r; obtain rfl:=za6 r
    obtain ⟨l,vs,n,rfl,_,_,ho,hl,hz⟩:=zbg rx
    have hA:=zmv hi hl
    have hL: s.heap.IsList l vs.toArray:=⟨_,ho,rfl,_,rfl⟩
    have hlt: l < s.heap.objs.size:=Heap.lt_size ho
    intro Q E q
    refine call_sum_walkG (wpAny_pyIter_list hL ?_)
    refine ⟨s.heap.objs.size,[s.heap.objs.size,l],[s.heap.objs.size],_,_,_,fun j=>ns.getD j 0,rfl,Walks.list (A:=A.in1) hh _ l (Nat.ne_of_lt hlt) vs.toArray,
      ⟨⟨_,Heap.get?_push_size _ rfl,rfl,rfl⟩,hL.push _⟩,fun b hb=>?_,fun i v hi=>zt0 hA (by simpa using hi),fun h' tk t' hk=>?_⟩
    · show b < (s.heap.push _).objs.size
      rw [Heap.size_push]
      simp only [List.mem_cons,List.not_mem_nil,or_false] at hb
      rcases hb with rfl | rfl
      · exact Nat.lt_succ_self _
      · exact Nat.lt_succ_of_lt hlt
    · have hn: (ns.take vs.toArray.size)=ns:=List.take_of_length_le (by simp only [List.size_toArray]; rw [hA.length]; exact Nat.le_refl _)
      rw [zt1,hn]
      exact q _ _ (.grow fun b o e=>hk b o (fun hb=>by simp only [List.mem_singleton] at hb; exact Nat.ne_of_lt (Heap.lt_size e) hb) (Heap.get?_push_of_some _ e)) zbf
  | dm a' b' h0 hp=>
    obtain ⟨v,u,rfl,rx,r⟩:=zat r
    obtain ⟨v',u,rfl,ry,r⟩:=zat r; obtain rfl:=za6 r
    obtain ⟨t,rfl⟩:=zah rx; obtain ⟨t',rfl⟩:=zah ry
    intro Q E q
    refine PyProof.Rows.divmod_int h0 ?_ (.inl (by simpa using hp))
    exact zn1 (xs:=[.int _,.int _]) (vs:=[.int _ s.toks,.int _ (s.toks + 1)]) (n:=0) (k:=s.toks + 1 + 1) a (RepL.cons zbf (RepL.cons zbf rfl)) q
end
section
variable {C: CX} {W: Addr -> Prop} {s: Shared} {A: Around}
theorem zt2 {h: Heap}: ∀ {xs: List PV} {vs: List Value},vs.length=xs.length -> (∀ (j: Nat) (v: Value),vs[j]? = some v -> ∃ x,xs[j]? = some x/\Rep C h W x v) -> RepL C h W xs vs
  | [],vs,e,_=>List.length_eq_zero_iff.mp e
  | x :: xs,[],e,_=>by simp at e
  | x :: xs,v :: vs,e,hp=>by
    obtain ⟨y,h1,h2⟩:=hp 0 v rfl
    simp at h1; subst h1
    exact RepL.cons h2 (zt2 (by simpa using e) fun j u hj=>by simpa using hp (j + 1) u (by simpa using hj))
theorem zkf {Q: Value -> Shared -> Prop} {lo hi st: Int} {t1 t2 t3: Tok} {k: Nat} (a: At C W s) (ok: zbk lo hi st=true)
    (q: ∀ v s',Ext0 C s s' -> Rep C s'.heap W (.range lo hi st) v -> Q v s') :
    Q (.ref s.heap.objs.size) { s with heap:=s.heap.push { cls:=.type "range",data:=.fields #[.int lo t1,.int hi t2,.int st t3] },toks:=k }:=by
  have e: Ext0 C s { s with heap:=s.heap.push { cls:=.type "range",data:=.fields #[.int lo t1,.int hi t2,.int st t3] },toks:=k }:=.push _ _
  refine q _ _ e ?_
  exact ⟨_,rfl,a.nw,a.low,⟨t1,t2,t3,Heap.get?_push_size _ rfl⟩,ok⟩
theorem zpl {n: String} {args: List PV} {z: PV} {vs: List Value} (e: ztp n args=some z) (a: At C W s) (hh: A.handled=none) (r: RepL C s.heap W args vs): Snd0 C A s W (call (.type n) vs) z:=by
  rcases zji e with ⟨rfl,e⟩ | ⟨-,e⟩
  · match args,e with
    | [x],e=>
    obtain ⟨n,rfl,g⟩:=zgz e
    obtain ⟨v,u,rfl,rx,r⟩:=zat r; obtain rfl:=za6 r
    obtain ⟨t,rfl⟩:=zah rx
    obtain ⟨h,rfl⟩:=zau g
    intro Q E q
    exact call_range_1 (zkf a h q)
    | [x,y],e=>
    obtain ⟨lo,hi,rfl,rfl,g⟩:=zcx e
    obtain ⟨v,u,rfl,rx,r⟩:=zat r
    obtain ⟨v',u,rfl,ry,r⟩:=zat r; obtain rfl:=za6 r
    obtain ⟨t,rfl⟩:=zah rx; obtain ⟨t',rfl⟩:=zah ry
    obtain ⟨h,rfl⟩:=zau g
    intro Q E q
    exact call_range_2 (zkf a h q)
    | [x,y,z],e=>
    obtain ⟨st,rfl,g⟩:=zgz e
    obtain ⟨lo,hi,rfl,rfl,g'⟩:=zcx g
    obtain ⟨v,u,rfl,rx,r⟩:=zat r
    obtain ⟨v',u,rfl,ry,r⟩:=zat r
    obtain ⟨v'',u,rfl,rz,r⟩:=zat r; obtain rfl:=za6 r
    obtain ⟨t,rfl⟩:=zah rx; obtain ⟨t',rfl⟩:=zah ry; obtain ⟨t'',rfl⟩:=zah rz
    obtain ⟨h,rfl⟩:=zau g'
    have h':=h
    simp only [zbk,Bool.and_eq_true,decide_eq_true_eq] at h'
    intro Q E q
    exact call_range_3 (by lia) (zkf (k:=s.toks) a h q) (.inl (by simpa using h'.2))
  rcases zji e with ⟨rfl,e⟩ | ⟨-,e⟩
  · obtain ⟨x,rfl,g⟩:=zez e
    cases x with
    | range lo hi st=>
    obtain ⟨v,u,rfl,rx,r⟩:=zat r; obtain rfl:=za6 r
    obtain ⟨l,rfl,_,_,⟨t1,t2,t3,hr⟩,ok⟩:=zn2 rx
    replace g:=oj g; subst g
    have ok':=ok
    simp only [zbk,Bool.and_eq_true,decide_eq_true_eq] at ok'
    have h0: 0<=Builtin.Range.rangeSize lo hi st:=by
      unfold Builtin.Range.rangeSize
      rw [if_pos (by lia)]
      split
      · have: 0<=(hi - lo - 1) / st:=Int.ediv_nonneg (by lia) (by lia)
        lia
      · exact Int.le_refl _
    have hn: Builtin.Range.rangeSize lo hi st=((Builtin.Range.rangeSize lo hi st).toNat: Nat):=(Int.toNat_of_nonneg h0).symm
    intro Q E q
    refine call_list_range hh hr ok'.1.1.2 hn (by have:=ok'.1.2; lia) fun h' tk acc' c' hk hL hI=>?_
    have ex: Ext0 C s { s with heap:=h',toks:=tk }:=.grow hk
    refine q _ _ ex ?_
    refine ⟨_,acc'.toList,c',rfl,a.nw,a.low,by simpa using hL,?_,?_⟩
    · refine zt2 (by simp [zan,hI.1]) fun j v hj=>?_
      have hlt: j < acc'.size:=by
        have:=(List.getElem?_eq_some_iff.mp hj).1
        simpa using this
      obtain ⟨t,rfl⟩:=hI.2 j v (by simpa using hj)
      refine ⟨.int (lo + (j: Int) * st),?_,zbf⟩
      rw [hI.1] at hlt
      simp [zan,hlt]
    · simp only [zan,List.length_map,List.length_range]
      rw [sizeLine_eq]; have:=ok'.1.2; lia
    | _=>exact zae g
  rcases zji e with ⟨rfl,e⟩ | ⟨-,e⟩
  · obtain ⟨x,rfl,g⟩:=zez e
    obtain ⟨n,rfl,g'⟩:=mapI g
    obtain ⟨v,u,rfl,rx,r⟩:=zat r; obtain rfl:=za6 r
    obtain ⟨t,rfl⟩:=zah rx; induction g'
    intro Q E q
    exact call_type_of (typeIs_int s _ t) (by decide) (q _ _ (.refl _) z5j)
  · exact zae e
noncomputable def SndL (C: CX) (A: Around) (s: Shared) (W: Addr -> Prop) (t: Sem (List Value)) (ps: List PV): Prop:=
  ∀ (Q: List Value -> Shared -> Prop) (E: Value -> Shared -> Prop),(∀ vs s',Ext C s s' -> RepL C s'.heap W ps vs -> Q vs s') -> wpAny (model C.prog C.w) A t Q E s
theorem zjx: SndL C A s W (spliced []) []:=fun Q E q=>spliced_nil (q [] s (.refl s) rfl)
theorem zhy {x: Sem Value} {rest: List (Bool × Sem Value)} {p: PV} {ps: List PV} (h: Snd C A s W x p) (hr: ∀ s',Ext C s s' -> SndL C A s' W (spliced rest) ps) :
    SndL C A s W (spliced ((false,x) :: rest)) (p :: ps):=fun Q E q=>
  spliced_cons (h _ _ fun v s₁ e₁ r₁=>hr s₁ e₁ _ _ fun vs s₂ e₂ r₂=>q _ s₂ (e₁.trans e₂) (RepL.cons (r₁.ext e₂.toExt0) r₂))
theorem za3 {f: Value} {args: List (Bool × Sem Value)} {Q: Args -> Shared -> Prop} {E: Value -> Shared -> Prop} {M: Model} (hp: args.any (·.1)=false)
    (h: wpAny M A (spliced args) (fun vs s'=>Q ⟨vs,[]⟩ s') E s): wpAny M A (evalArgs f true args []) Q E s:=by
  induction args with
  | nil=>
    unfold evalArgs
    show wpAny M A (spliced [] >>= _) Q E s
    refine wpAny_bind (wpAny_mono h (fun vs s' h'=>?_) fun _ _ x=>x)
    refine wpAny_holding ?_
    exact wpAny_bind (wpAny_pure (wpAny_bind (wpAny_pure (wpAny_pure h'))))
  | cons a r=>
    obtain ⟨b,x⟩:=a
    have hb: b=false:=by simp at hp; exact hp.1
    subst hb
    exact evalArgs_plain h
theorem zn4 {pos: Pos} {id: String} {first: List Value} {args: List (Bool × Sem Value)} {ps: List PV} {z: PV} (hp: args.any (·.1)=false) (hl: SndL C A s W (spliced args) ps)
    (k: ∀ vs s',Ext C s s' -> RepL C s'.heap W ps vs -> Snd0 C A s' W (call (.builtin id) (first ++ vs)) z): Snd C A s W (callWith pos (.builtin id) first args []) z:=fun Q E q=>
  callWith_builtin hp (za3 hp (hl _ _ fun vs s₁ e₁ r₁=>(k vs s₁ e₁ r₁).up _ _ fun v s₂ e₂ r₂=>q v s₂ (e₁.trans e₂) r₂))
theorem zmw {x y: Str} {v u: Value} (rx: Rep C s.heap W (.str x) v) (ry: Rep C s.heap W (.str y) u): Snd0 C A s W (call (.builtin "str.count") [v,u]) (.int (Txt.count x y)):=fun Q E q=>by
  obtain ⟨t,rfl,_⟩:=za4 rx; obtain ⟨t',rfl,_⟩:=za4 ry
  exact SC.count (q _ _ .tok1 zbf)
theorem zmx {x: Str} {v: Value} (hz: zak (Txt.lower x).length=true) (rx: Rep C s.heap W (.str x) v): Snd0 C A s W (call (.builtin "str.lower") [v]) (.str (Txt.lower x)):=fun Q E q=>by
  obtain ⟨t,rfl,_⟩:=za4 rx
  have hz':=of_decide_eq_true hz
  exact SC.lower (by simp only [Builtin.Str.tooLong,sizeLine_eq]; exact decide_eq_false (by lia)) (q _ _ .tok1 (zco (by rw [sizeLine_eq]; exact hz')))
theorem zn5 {x: Str} {xs: List PV} {ys: List Str} {v u: Value} (e: zhp xs=some ys) (hz: zak ((ys.map (·.length)).sum + ys.length * x.length)=true) (rx: Rep C s.heap W (.str x) v) (ry: Rep C s.heap W (.list xs) u) :
    Snd0 C A s W (call (.builtin "str.join") [v,u]) (.str (Txt.join x ys)):=fun Q E q=>by
  obtain ⟨t,rfl,_⟩:=za4 rx
  obtain ⟨l,vs,n,rfl,_,_,ho,hl,_⟩:=zbg ry
  have hz':=of_decide_eq_true hz
  refine PyProof.Rows.join_list (items:=vs.toArray) ⟨_,ho,rfl,_,rfl⟩ (by simpa using zxb e hl) hz' fun t' k=>q _ _ (.toks _) (zco ?_)
  show (Builtin.Str.glued x ys).length<=sizeLine
  rw [StrLaws.glued_eq_join,sizeLine_eq]
  exact Nat.le_trans (StrLaws.join_length_le x ys) hz'
theorem zfq {x y z: Str} {u u': Tok} {v: Value} (hu: u ≠ 0) (hv: u' ≠ 0) (huv: u ≠ u') (hyz: (y != z)=true) (hz: zak (x.length + (x.length + 1) * z.length)=true) (rx: Rep C s.heap W (.str x) v) :
    Snd0 C A s W (call (.builtin "str.replace") [v,.str y u,.str z u']) (.str (Txt.replace x y z)):=fun Q E q=>by
  obtain ⟨t,rfl,_⟩:=za4 rx
  have hz':=of_decide_eq_true hz
  refine SC.replace hu hv huv (by simpa [bne] using hyz) hz' fun t' k=>q _ _ (.toks _) (zco ?_)
  unfold Txt.replace
  split
  · rw [sizeLine_eq]; assumption
  · exact fits_replaced y hz'
theorem zll {i: Int} {v: Value} (rx: Rep C s.heap W (.int i) v): Snd0 C A s W (call (.builtin "int.bit_length") [v]) (.int (Builtin.Int.intBits i)):=fun Q E q=>by
  obtain ⟨t,rfl⟩:=zah rx
  exact call_int_bit_length (q _ _ .tok1 zbf)
end
structure FnOk (C: CX) (G: GT) (K: Nat): Prop where
  enum: C.mg "enumerate" = none/\C.mb "enumerate" = some (.type "enumerate")
  revd: C.mg "reversed" = none/\C.mb "reversed" = some (.type "reversed")
  gv: ∀ x p,G.gv x=some p -> ∃ v,(C.mg x=some v \/ (C.mg x=none/\C.mb x=some v)) /\ ∀ h W,Rep C h W p v
  fn: ∀ f args p,G.fns f args=some p -> ∃ a o fd,C.mg f=some (.ref a)/\o.data = .func fd/\(∀ h,C.Inv h -> h.get? a=some o) /\
    ∀ A W s vs,Room A K -> At C W s -> RepL C s.heap W args vs -> Snd C A s W (call (.ref a) vs) p
  b1: ∀ v,C.mg "b1_set" = some v -> ∀ A W s (k: Int) t,At C W s -> Snd C A s W (compareOp .In (.int k t) v) (.bool (zdv.contains k))
  b3: ∀ v,C.mg "b3_exceptions" = some v -> ∃ d f,v = .ref d/\(d == sysModules)=false/\(∀ h,C.Inv h -> h.MapOf (intKind C.prog C.w) d f) /\
    ∀ k r,G.b3get k=some r -> ∃ t,(f k).getD .none=(match r with | some x=>.str x t | none=>.none) /\ ∀ x,r=some x -> x.length<=sizeLine
noncomputable def z0r (c: CE) (e: Expr) (x: PE): Prop:=∀ (C: CX) (G: GT) (K: Nat) (_: FnOk C G K) (env: Env) (W O: Addr -> Prop) (s: Shared) (ρ: Rho) (A: Around) (p: PV),zam C c env W O s.heap ρ -> At C W s -> Room A K ->
    zag G x ρ=some p -> Snd C A s W (eval e env) p
noncomputable def z5k (c: CE) (e: Expr) (x: PE): Prop:=∀ (C: CX) (G: GT) (K: Nat) (_: FnOk C G K) (env: Env) (W O: Addr -> Prop) (s: Shared) (ρ: Rho) (A: Around) (b: Bool),zam C c env W O s.heap ρ -> At C W s -> Room A K ->
    za2 G x ρ=some b -> SndB C A s (isTrue e env (eval e env)) b
structure SE (c: CE) (e: Expr) (x: PE): Prop where
  v: z0r c e x
  t: z5k c e x
  ns: ∀ r env,starEach (e :: r) env=(false,eval e env) :: starEach r env
theorem SE.val {c: CE} {e: Expr} {x: PE} (h: SE c e x) {C: CX} {G: GT} {K: Nat} (ok: FnOk C G K) {env: Env} {W O: Addr -> Prop} {s: Shared} {ρ: Rho} {A: Around} {p: PV} (ev: zam C c env W O s.heap ρ) (a: At C W s) (rm: Room A K)
    (hp: zag G x ρ=some p): Snd C A s W (eval e env) p:=h.v C G K ok env W O s ρ A p ev a rm hp
theorem SE.tst {c: CE} {e: Expr} {x: PE} (h: SE c e x) {C: CX} {G: GT} {K: Nat} (ok: FnOk C G K) {env: Env} {W O: Addr -> Prop} {s: Shared} {ρ: Rho} {A: Around} {b: Bool} (ev: zam C c env W O s.heap ρ) (a: At C W s) (rm: Room A K)
    (hp: za2 G x ρ=some b): SndB C A s (isTrue e env (eval e env)) b:=h.t C G K ok env W O s ρ A b ev a rm hp
theorem SE.plain {c: CE} {e: Expr} {x: PE} (val: z0r c e x)
    (ht: ∀ G ρ,za2 G x ρ=(zag G x ρ).bind zem) (he: ∀ env whole,isTrue e env whole=(do let v <- whole; standAt e.pos; holding [v] (truthy v)))
    (ns: ∀ r env,starEach (e :: r) env=(false,eval e env) :: starEach r env): SE c e x where
  v:=val
  ns:=ns
  t:=fun C G K ok env W O s ρ A b ev a rm h Q E q=>by
    rw [ht] at h
    cases hp: zag _ x ρ with
    | none=>rw [hp] at h; exact zae h
    | some p=>
      rw [hp] at h
      exact isTrue_plain (val C G K ok env W O s ρ A p ev a rm hp _ _ fun v s₁ e₁ r₁=>(ztw h r₁).up _ _ fun s₂ e₂=>q s₂ (e₁.trans e₂)) (he _ _)
theorem SE.only {c: CE} {e: Expr} {x: PE} (val: z0r c e x) (ht: ∀ G ρ,za2 G x ρ=none) (ns: ∀ r env,starEach (e :: r) env=(false,eval e env) :: starEach r env): SE c e x where
  v:=val
  ns:=ns
  t:=fun C G K ok env W O s ρ A b ev a rm h=>by rw [ht] at h; exact zae h
theorem Ext.tok1 {C: CX} {s: Shared}: Ext C s { s with toks:=s.toks + 1 }:=⟨.toks _,Nat.le_succ _⟩
section
variable {c: CE} {pos p₁: Pos} {k: Nat}
theorem zb7 {C: CX} {c: CE} {env: Env} {W O: Addr -> Prop} {s: Shared} {ρ: Rho} {A: Around} {x: Str} {v: Value} {Q: Value -> Shared -> Prop} {E: Value -> Shared -> Prop} {M: Model} (ev: zam C c env W O s.heap ρ) (hcd: (x == ("__classdict__" : Str))=false) (hv: zbl s.heap env C.n₀ x v) (q: Q v s): wpAny M A (loadName env x) Q E s:=by
  induction hv with
  | loc k n e'=>exact wpAny_loadName_local ev.kind k n e' q
  | cell k l lo i=>
    rcases k with k | k
    · exact wpAny_loadName_cell ev.kind k l i q
    · exact wpAny_loadName_free ev.kind k l i q hcd
theorem z0s: SE c (.Constant .none k pos) .none:=.plain (fun C G K _ env W O s ρ A p _ _ _ h Q E q=>by
  simp only [eE] at h; replace h:=oj h; subst h
  exact wpAny_Constant_none (q _ _ (.refl _) rfl)) (fun G ρ=>by simp [eE,tE,vE]) (fun _ _=>rfl) (fun _ _=>rfl)
theorem z0t {b: Bool}: SE c (.Constant (.bool b) k pos) (.bool b):=.plain (fun C G K _ env W O s ρ A p _ _ _ h Q E q=>by
  simp only [eE] at h; replace h:=oj h; subst h
  exact wpAny_Constant_bool (q _ _ (.refl _) za1)) (fun G ρ=>by simp [eE,tE,vE]) (fun _ _=>rfl) (fun _ _=>rfl)
theorem z3h {i: Int}: SE c (.Constant (.int i) k pos) (.int i):=.plain (fun C G K _ env W O s ρ A p _ _ _ h Q E q=>by
  simp only [eE] at h; replace h:=oj h; subst h
  exact wpAny_Constant_int (q _ _ .tok1 zbf)) (fun G ρ=>by simp [eE,tE,vE]) (fun _ _=>rfl) (fun _ _=>rfl)
theorem z3i {x: Str} (hx: zak x.length=true): SE c (.Constant (.str x) k pos) (.str x):=.plain (fun C G K _ env W O s ρ A p _ _ _ h Q E q=>by
  simp only [eE] at h; replace h:=oj h; subst h
  exact Constant_str (q _ _ .tok1 (zco (by rw [sizeLine_eq]; exact of_decide_eq_true hx)))) (fun G ρ=>by simp [eE,tE,vE]) (fun _ _=>rfl) (fun _ _=>rfl)
theorem z3j {x: Str} {i: Nat} (hd: (x == ("__debug__" : Str))=false) (hcd: (x == ("__classdict__" : Str))=false) (hi: idx c.σ x=some i) (hk: visK c.base i (c.sc.names.lookup x)=true): SE c (.Name x pos) (.var i):=
  .plain (fun C G K _ env W O s ρ A p ev _ _ h=>by
    simp only [eE] at h
    have hr:=ztm h
    exact fun Q E q=>by
      obtain ⟨v,hv,r⟩:=ev.vars x i _ hi hk hr
      cases r with
      | val r=>exact wpAny_Name (zb7 ev hcd hv (q v s (.refl s) r)) hd) (fun G ρ=>by simp only [eE,tE]) (fun _ _=>rfl) (fun _ _=>rfl)
theorem z0u {x: Str} (hd: (x == ("__debug__" : Str))=false) (hk: c.sc.names.lookup x=some .globalImplicit): SE c (.Name x pos) (.glob x):=
  .plain (fun C G K ok env W O s ρ A p ev a _ h Q E q=>by
    simp only [eE] at h
    obtain ⟨v,hv,r⟩:=ok.gv _ _ h
    have k: env.kindOf x=some .globalImplicit:=by
      rcases ev.names x with h | ⟨h,_⟩ | h
      · exact h.trans hk
      · rw [hk] at h; cases h
      · rw [hk] at h; cases h
    refine Name_function_global ev.kind k ?_ hd
    have fin: Q v s:=q v s (.refl s) (r _ _)
    rcases hv with hv | ⟨h1,h2⟩
    · exact loadGlobal_global (ev.glob ▸ _root_.Mine.CX.g _ a.inv) hv fin
    · exact loadGlobal_builtin (ev.glob ▸ _root_.Mine.CX.g _ a.inv) h1 (ev.bui ▸ _root_.Mine.CX.b _ a.inv) h2 fin) (fun G ρ=>by simp only [eE,tE]) (fun _ _=>rfl) (fun _ _=>rfl)
theorem bind_some {α β: Type} {o: Option α} {f: α -> Option β} {y: β} (h: o.bind f=some y): ∃ x,o=some x/\f x=some y:=by
  cases o with
  | none=>exact zae h
  | some x=>exact ⟨x,rfl,h⟩
theorem zaj {α β: Type} {o: Option α} {f: α -> β} {y: β} (h: o.map f=some y): ∃ x,o=some x/\f x=y:=by
  cases o with
  | none=>exact zae h
  | some x=>exact ⟨x,rfl,by simpa using h⟩
theorem z3k {op: Operator} {a b: Expr} {x y: PE} (ha: SE c a x) (hb: SE c b y): SE c (.BinOp a op b pos) (.bin op x y):=.only (fun C G K ok env W O s ρ A p ev at' rm h Q E q=>by
  simp only [eE] at h
  obtain ⟨u,h1,h⟩:=bind_some h
  obtain ⟨v,h2,h⟩:=bind_some h
  exact wpAny_BinOp (ha.val ok ev at' rm h1 _ _ fun u' s₁ e₁ r₁=>hb.val ok (ev.ext e₁.toExt0) (at'.ext e₁) rm h2 _ _ fun v' s₂ e₂ r₂=>
    (zmu h ((at'.ext e₁).ext e₂) (r₁.ext e₂.toExt0) r₂).up _ _ fun z s₃ e₃ r₃=>q z s₃ ((e₁.trans e₂).trans e₃) r₃)) (fun G ρ=>by simp only [tE]) (fun _ _=>rfl)
theorem z3l {a: Expr} {x: PE} (ha: SE c a x): SE c (.UnaryOp .USub a pos) (.neg x):=.only (fun C G K ok env W O s ρ A p ev at' rm h Q E q=>by
  simp only [eE] at h
  obtain ⟨u,h1,h⟩:=bind_some h
  obtain ⟨k,rfl,g⟩:=mapI h
  induction g
  exact UnaryOp_ (ha.val ok ev at' rm h1 _ _ fun u' s₁ e₁ r₁=>(z0l r₁).up _ _ fun z s₃ e₃ r₃=>q z s₃ (e₁.trans e₃) r₃)) (fun G ρ=>by simp only [tE]) (fun _ _=>rfl)
theorem z3m {a: Expr} {x: PE} (ha: SE c a x): SE c (.UnaryOp .Invert a pos) (.inv x):=.only (fun C G K ok env W O s ρ A p ev at' rm h Q E q=>by
  simp only [eE] at h
  obtain ⟨u,h1,h⟩:=bind_some h
  obtain ⟨k,rfl,g⟩:=mapI h
  induction g
  exact UnaryOp_ (ha.val ok ev at' rm h1 _ _ fun u' s₁ e₁ r₁=>(z0m r₁).up _ _ fun z s₃ e₃ r₃=>q z s₃ (e₁.trans e₃) r₃)) (fun G ρ=>by simp only [tE]) (fun _ _=>rfl)
theorem z3n {a: Expr} {x: PE} (ha: SE c a x): SE c (.UnaryOp .Not a pos) (.not x) where
  v:=fun C G K ok env W O s ρ A p ev at' rm h=>by simp only [eE] at h; exact zae h
  ns:=fun _ _=>rfl
  t:=fun C G K ok env W O s ρ A b ev at' rm h Q E q=>by
    simp only [tE] at h
    obtain ⟨u,h1,h⟩:=zaj h
    subst h
    exact isTrue_not (ha.tst ok ev at' rm h1 _ _ fun s₁ e₁=>q s₁ e₁)
theorem z3o {t a b: Expr} {u x y: PE} (ht: SE c t u) (ha: SE c a x) (hb: SE c b y): SE c (.IfExp t a b pos) (.ifx u x y) where
  v:=fun C G K ok env W O s ρ A p ev at' rm h Q E q=>by
    simp only [eE] at h
    obtain ⟨w,h1,h⟩:=bind_some h
    refine IfExp_ (ht.tst ok ev at' rm h1 _ _ fun s₁ e₁=>?_)
    cases w with
    | true=>exact ha.val ok (ev.ext e₁.toExt0) (at'.ext e₁) rm h _ _ fun z s₃ e₃ r₃=>q z s₃ (e₁.trans e₃) r₃
    | false=>exact hb.val ok (ev.ext e₁.toExt0) (at'.ext e₁) rm h _ _ fun z s₃ e₃ r₃=>q z s₃ (e₁.trans e₃) r₃
  ns:=fun _ _=>rfl
  t:=fun C G K ok env W O s ρ A p ev at' rm h Q E q=>by
    simp only [tE] at h
    obtain ⟨w,h1,h⟩:=bind_some h
    refine isTrue_IfExp (ht.tst ok ev at' rm h1 _ _ fun s₁ e₁=>?_)
    cases w with
    | true=>exact ha.tst ok (ev.ext e₁.toExt0) (at'.ext e₁) rm h _ _ fun s₃ e₃=>q s₃ (e₁.trans e₃)
    | false=>exact hb.tst ok (ev.ext e₁.toExt0) (at'.ext e₁) rm h _ _ fun s₃ e₃=>q s₃ (e₁.trans e₃)
inductive SEs (c: CE): List Expr -> List PE -> Prop
  | nil: SEs c [] []
  | cons {e x es xs}: SE c e x -> SEs c es xs -> SEs c (e :: es) (x :: xs)
theorem SEs.length {es: List Expr} {xs: List PE} (h: SEs c es xs): es.length=xs.length:=by induction h <;> simp [*]
theorem SEs.star {es: List Expr} {xs: List PE} (h: SEs c es xs) (env: Env): (backTo pos (starEach es env)).any (·.1)=false:=by
  induction h with
  | nil=>rfl
  | cons h _ ih=>rw [h.ns]; simpa [backTo] using ih
theorem SEs.sndL {es: List Expr} {xs: List PE} (hs: SEs c es xs) {C: CX} {G: GT} {K: Nat} (ok: FnOk C G K) {env: Env} {W O: Addr -> Prop} {ρ: Rho} {A: Around} (rm: Room A K) :
    ∀ {s: Shared} {ps: List PV},zam C c env W O s.heap ρ -> At C W s -> zbe G xs ρ=some ps -> SndL C A s W (spliced (backTo pos (starEach es env))) ps:=by
  induction hs with
  | nil=>intro s ps ev at' h; simp only [pE] at h; replace h:=oj h; subst h; exact zjx
  | cons h _ ih=>
    intro s ps ev at' hp
    simp only [pE] at hp
    obtain ⟨p,h1,hp⟩:=bind_some hp
    obtain ⟨r,h2,hp⟩:=zaj hp
    subst hp
    rw [h.ns]
    exact zhy (h.val ok ev at' rm h1) fun s' e'=>ih (ev.ext e'.toExt0) (at'.ext e') h2
theorem zdm {G: GT} {ρ: Rho}: ∀ {xs: List PE} {ps: List PV},zbe G xs ρ=some ps -> ps.length=xs.length:=by
  intro zz
  induction zz with
  | nil=>intro ps h; simp only [pE] at h; replace h:=oj h; subst h; rfl
  | cons x xs ih=>
    intro ps h
    simp only [pE] at h
    obtain ⟨p,h1,h⟩:=bind_some h
    obtain ⟨r,h2,h⟩:=zaj h
    subst h
    simp [ih h2]
theorem zn6 {C: CX} {W: Addr -> Prop} {s: Shared} {Q: Value -> Shared -> Prop} {xs: List PV} {vs: List Value} {n k: Nat} (hk: s.toks<=k) (a: At C W s) (r: RepL C s.heap W xs vs) (z: xs.length<=sizeLine)
    (q: ∀ v s',Ext C s s' -> Rep C s'.heap W (.list xs) v -> Q v s'): Q (.ref s.heap.objs.size) { s with heap:=s.heap.push (za5 vs n),toks:=k }:=
  zht (Q:=fun v s'=>s.toks<=s'.toks -> Q v s') a r z (fun v s' e r ht=>q v s' ⟨e,ht⟩ r) hk
theorem zr6 {C: CX} {W: Addr -> Prop} {s: Shared} {Q: Value -> Shared -> Prop} {xs: List PV} {vs: List Value} {n k: Nat} (hk: s.toks<=k) (a: At C W s) (r: RepL C s.heap W xs vs)
    (q: ∀ v s',Ext C s s' -> Rep C s'.heap W (.tuple xs) v -> Q v s'): Q (.ref s.heap.objs.size) { s with heap:=s.heap.push (tupO vs n),toks:=k }:=
  zn1 (Q:=fun v s'=>s.toks<=s'.toks -> Q v s') a r (fun v s' e r ht=>q v s' ⟨e,ht⟩ r) hk
theorem zt3 {es: List Expr} {xs: List PE} (hs: SEs c es xs) (hz: zak es.length=true): SE c (.List es pos) (.list xs):=.only (fun C G K ok env W O s ρ A p ev at' rm h Q E q=>by
  simp only [eE] at h
  obtain ⟨ps,h1,h⟩:=zaj h
  subst h
  have hz':=of_decide_eq_true hz
  refine wpAny_List (hs.sndL ok rm ev at' h1 _ _ fun vs s₁ e₁ r₁=>?_)
  have hl: ps.length<=sizeLine:=by rw [zdm h1,<- hs.length,sizeLine_eq]; exact hz'
  exact ⟨by rw [r₁.length]; exact hl,zn6 (n:=0) (k:=s₁.toks) (Nat.le_refl _) (at'.ext e₁) r₁ hl fun v s' e' r'=>q v s' (e₁.trans e') r'⟩) (fun G ρ=>by simp only [tE]) (fun _ _=>rfl)
theorem zmy {es: List Expr} {xs: List PE} (hs: SEs c es xs) (hz: zak es.length=true): SE c (.Tuple es k pos) (.tuple xs):=.only (fun C G K ok env W O s ρ A p ev at' rm h Q E q=>by
  simp only [eE] at h
  obtain ⟨ps,h1,h⟩:=zaj h
  subst h
  have hz':=of_decide_eq_true hz
  refine wpAny_Tuple (hs.sndL ok rm ev at' h1 _ _ fun vs s₁ e₁ r₁=>?_)
  have hl: ps.length<=sizeLine:=by rw [zdm h1,<- hs.length,sizeLine_eq]; exact hz'
  exact ⟨by rw [r₁.length]; exact hl,zr6 (n:=0) (k:=s₁.toks) (Nat.le_refl _) (at'.ext e₁) r₁ fun v s' e' r'=>q v s' (e₁.trans e') r'⟩) (fun G ρ=>by simp only [tE]) (fun _ _=>rfl)
theorem z0v {C: CX} {G: GT} {K: Nat} (ok: FnOk C G K) {env: Env} {W O: Addr -> Prop} {ρ: Rho} {A: Around} (rm: Room A K) (whole: Sem Value) {es: List Expr} {xs: List PE} (hs: SEs c es xs) :
    ∀ {s: Shared} {b: Bool},zam C c env W O s.heap ρ -> At C W s -> allP G true xs ρ=some b -> SndB C A s (isTrue (.BoolOp .And es pos) env whole) b:=by
  induction hs with
  | nil=>intro s b ev at' h Q E q; simp only [pE] at h; replace h:=oj h; subst h; exact isTrue_and_nil (q s (.refl s))
  | cons h _ ih=>
    intro s b ev at' hp Q E q
    simp only [pE] at hp
    obtain ⟨w,h1,hp⟩:=bind_some hp
    refine isTrue_and (h.tst ok ev at' rm h1 _ _ fun s₁ e₁=>?_)
    cases w with
    | true=>exact ih (ev.ext e₁.toExt0) (at'.ext e₁) hp _ _ fun s₂ e₂=>q s₂ (e₁.trans e₂)
    | false=>replace hp:=oj hp; subst hp; exact q s₁ e₁
theorem z3p {C: CX} {G: GT} {K: Nat} (ok: FnOk C G K) {env: Env} {W O: Addr -> Prop} {ρ: Rho} {A: Around} (rm: Room A K) (whole: Sem Value) {es: List Expr} {xs: List PE} (hs: SEs c es xs) :
    ∀ {s: Shared} {b: Bool},zam C c env W O s.heap ρ -> At C W s -> allP G false xs ρ=some b -> SndB C A s (isTrue (.BoolOp .Or es pos) env whole) b:=by
  induction hs with
  | nil=>intro s b ev at' h Q E q; simp only [pE] at h; replace h:=oj h; subst h; exact isTrue_or_nil (q s (.refl s))
  | cons h _ ih=>
    intro s b ev at' hp Q E q
    simp only [pE] at hp
    obtain ⟨w,h1,hp⟩:=bind_some hp
    refine isTrue_or (h.tst ok ev at' rm h1 _ _ fun s₁ e₁=>?_)
    cases w with
    | false=>exact ih (ev.ext e₁.toExt0) (at'.ext e₁) hp _ _ fun s₂ e₂=>q s₂ (e₁.trans e₂)
    | true=>replace hp:=oj hp; subst hp; exact q s₁ e₁
theorem z3q {es: List Expr} {xs: List PE} (hs: SEs c es xs): SE c (.BoolOp .And es pos) (.and xs) where
  v:=fun C G K ok env W O s ρ A p ev at' rm h=>by simp only [eE] at h; exact zae h
  ns:=fun _ _=>rfl
  t:=fun C G K ok env W O s ρ A b ev at' rm h=>z0v ok rm _ hs ev at' (by simpa only [tE] using h)
theorem z5l {es: List Expr} {xs: List PE} (hs: SEs c es xs): SE c (.BoolOp .Or es pos) (.or xs) where
  v:=fun C G K ok env W O s ρ A p ev at' rm h=>by simp only [eE] at h; exact zae h
  ns:=fun _ _=>rfl
  t:=fun C G K ok env W O s ρ A b ev at' rm h=>z3p ok rm _ hs ev at' (by simpa only [tE] using h)
theorem zxc {C: CX} {G: GT} {K: Nat} (ok: FnOk C G K) {W: Addr -> Prop} {s: Shared} {A: Around} {op: CmpOp} {x y: PV} {z: Bool} {v u: Value} (e: cmpV op x y=some z) (a: At C W s) (rx: Rep C s.heap W x v) (ry: Rep C s.heap W y u) (rm: Room A K) :
    Snd C A s W (compareOp op v u) (.bool z):=by
  unfold cmpV at e
  split at e
  · rename_i hc
    obtain ⟨rfl,hb⟩:=hc
    obtain rfl:=zw7 hb
    obtain ⟨k,rfl,g⟩:=mapI e
    induction g
    obtain ⟨t,rfl⟩:=zah rx
    exact ok.b1 _ (z3e ry) A W s _ t a
  · exact (z0o e rx ry (by have:=rm.2.2; lia)).up
theorem zzu {op: CmpOp} {a b: Expr} {x y: PE} (ha: SE c a x) (hb: SE c b y) (hm: behindInMarks op b=false) :
    SE c (.Compare a [op] [b] pos) (.cmp op x y):=by
  have key: ∀ (C: CX) (G: GT) (K: Nat) (_: FnOk C G K) (env: Env) (W O: Addr -> Prop) (s: Shared) (ρ: Rho) (A: Around) (z: Bool),zam C c env W O s.heap ρ -> At C W s -> Room A K ->
      ((zag G x ρ).bind fun u=>(zag G y ρ).bind fun w=>cmpV op u w)=some z ->
      ∀ (Q E: Value -> Shared -> Prop),(∀ s',Ext C s s' -> Q (.bool z) s') ->
        wpAny (model C.prog C.w) A (eval a env) (fun a s₁=>wpAny (model C.prog C.w) A (eval b env) (fun b s₂=>wpAny (model C.prog C.w) A (compareOp op a b) Q E s₂) E s₁) E s:=by
    intro C G K ok env W O s ρ A z ev at' rm h Q E q
    obtain ⟨u,h1,h⟩:=bind_some h
    obtain ⟨w,h2,h⟩:=bind_some h
    refine ha.val ok ev at' rm h1 _ _ fun u' s₁ e₁ r₁=>hb.val ok (ev.ext e₁.toExt0) (at'.ext e₁) rm h2 _ _ fun v' s₂ e₂ r₂=>?_
    exact zxc ok h ((at'.ext e₁).ext e₂) (r₁.ext e₂.toExt0) r₂ rm _ _ fun v s₃ e₃ r₃=>by
      obtain rfl:=ze4 r₃
      exact q s₃ ((e₁.trans e₂).trans e₃)
  have e1: ∀ G ρ,zag G (.cmp op x y) ρ=(((zag G x ρ).bind fun u=>(zag G y ρ).bind fun w=>cmpV op u w)).map .bool:=fun G ρ=>by
    simp only [eE]
    cases zag G x ρ with
    | none=>rfl
    | some u=>cases zag G y ρ with
      | none=>rfl
      | some w=>rfl
  have e2: ∀ G ρ,za2 G (.cmp op x y) ρ=((zag G x ρ).bind fun u=>(zag G y ρ).bind fun w=>cmpV op u w):=fun G ρ=>by simp only [tE]
  exact {
    v:=fun C G K ok env W O s ρ A p ev at' rm h Q E q=>by
      rw [e1] at h
      obtain ⟨z,h1,h⟩:=zaj h
      subst h
      exact wpAny_Compare1 (key C G K ok env W O s ρ A z ev at' rm h1 _ _ fun s' e'=>q _ s' e' za1) hm
    ns:=fun _ _=>rfl
    t:=fun C G K ok env W O s ρ A p ev at' rm h Q E q=>by
      rw [e2] at h
      exact wpAny_isTrue_Compare1 (key C G K ok env W O s ρ A p ev at' rm h _ _ fun s' e'=>wpAny_truthy_bool (q s' e')) hm }
end
end Mine
namespace Mine
open PySem PySem.Calls PyProof.Rows
set_option backward.match.sparseCases false
section
variable {c: CE} {pos p₁: Pos} {k: Nat}
theorem zhb.mono {prog: Program} {w: World} {A: Around} {o i: Value} {Q Q' E: Value -> Shared -> Prop} {s: Shared} (h: zhb prog w A o i Q E s) (hq: ∀ v s',Q v s' -> Q' v s'): zhb prog w A o i Q' E s:=
  by obtain ⟨T,id,h1,h2,h3⟩:=h; exact ⟨T,id,h1,h2,wpAny_mono h3 hq fun _ _ e=>e⟩
theorem zhb.up {C: CX} {W: Addr -> Prop} {A: Around} {o i: Value} {Q E: Value -> Shared -> Prop} {s: Shared} {z: PV}
    (h: ∀ Q E: Value -> Shared -> Prop,(∀ v s',Ext0 C s s' -> Rep C s'.heap W z v -> Q v s') -> zhb C.prog C.w A o i Q E s) (q: ∀ v s',Ext C s s' -> Rep C s'.heap W z v -> Q v s'): zhb C.prog C.w A o i Q E s:=by
  obtain ⟨T,id,h1,h2,h3⟩:=h (fun v s'=>s.toks<=s'.toks -> Q v s') (fun v s'=>s.toks<=s'.toks -> E v s') fun v s' e r ht=>q v s' ⟨e,ht⟩ r
  exact ⟨T,id,h1,h2,wpAny_with_toks (Nat.le_refl _) h3⟩
theorem zzv {a i: Expr} {x y: PE} (ha: SE c a x) (hi: SE c i y): SE c (.Subscript a i pos) (.sub x y):=.only (fun C G K ok env W O s ρ A p ev at' rm h Q E q=>by
  simp only [eE] at h
  obtain ⟨u,h1,h⟩:=bind_some h
  obtain ⟨w,h2,h⟩:=bind_some h
  exact zdl (ha.val ok ev at' rm h1 _ _ fun u' s₁ e₁ r₁=>hi.val ok (ev.ext e₁.toExt0) (at'.ext e₁) rm h2 _ _ fun w' s₂ e₂ r₂=>
    zhb.up (fun Q E q=>zty h (r₁.ext e₂.toExt0) r₂ q) fun v s₃ e₃ r₃=>q v s₃ ((e₁.trans e₂).trans e₃) r₃)) (fun G ρ=>by simp only [tE]) (fun _ _=>rfl)
noncomputable def zq4 (c: CE): Option Expr -> Option PE -> Prop
  | none,none=>True
  | some e,some x=>SE c e x
  | _,_=>False
theorem zq5 {C: CX} {G: GT} {K: Nat} (ok: FnOk C G K) {env: Env} {W O: Addr -> Prop} {s: Shared} {ρ: Rho} {A: Around} {o: Option Int} {e: Option Expr} {x: Option PE} (hp: zq4 c e x) (ev: zam C c env W O s.heap ρ) (a: At C W s) (rm: Room A K)
    (h: zj7 G x ρ=some o) (Q E: Value -> Shared -> Prop) (q: ∀ v s',Ext C s s' -> IsPart v o -> Q v s'): wpAny (model C.prog C.w) A (evalPart e env) Q E s:=by
  cases e with
  | none=>
    cases x with
    | none=>simp only [pE] at h; replace h:=oj h; subst h; rw [evalPart_none]; exact wpAny_pure (q _ _ (.refl _) .none)
    | some x=>exact hp.elim
  | some e=>
    cases x with
    | none=>exact hp.elim
    | some x=>
      simp only [pE] at h
      obtain ⟨u,h1,h⟩:=bind_some h
      obtain ⟨k,rfl,g⟩:=mapI h
      induction g
      rw [evalPart_some]
      exact SE.val hp ok ev a rm h1 _ _ fun v s' e' r'=>by obtain ⟨t,rfl⟩:=zah r'; exact q _ _ e' (.int _ t)
theorem zxd {a: Expr} {lo hi: Option Expr} {x: PE} {l h': Option PE} (ha: SE c a x) (hl: zq4 c lo l) (hh: zq4 c hi h'): SE c (.Subscript a (.Slice lo hi none p₁) pos) (.slice x l h'):=.only (fun C G K ok env W O s ρ A p ev at' rm h Q E q=>by
  simp only [eE] at h
  obtain ⟨u,h1,h⟩:=bind_some h
  obtain ⟨w,h2,h⟩:=bind_some h
  obtain ⟨w',h3,h⟩:=bind_some h
  refine zdl (ha.val ok ev at' rm h1 _ _ fun u' s₁ e₁ r₁=>wpAny_Slice (zq5 ok hl (ev.ext e₁.toExt0) (at'.ext e₁) rm h2 _ _ fun vl s₂ e₂ r₂=>
    zq5 ok hh ((ev.ext e₁.toExt0).ext e₂.toExt0) ((at'.ext e₁).ext e₂) rm h3 _ _ fun vu s₃ e₃ r₃=>?_))
  rw [evalPart_none]
  refine wpAny_pure ?_
  have e4: Ext C s₃ { s₃ with heap:=s₃.heap.push { cls:=.type "slice",data:=.fields #[vl,vu,.none] } }:=⟨.push _ _,Nat.le_refl _⟩
  have e04:=((e₁.trans e₂).trans e₃).trans e4
  refine zhb.up (fun Q E q=>ztz h (at'.ext e04) (((r₁.ext e₂.toExt0).ext e₃.toExt0).ext e4.toExt0) (Heap.get?_push_size _ rfl) r₂ r₃ q) fun v s₅ e₅ r₅=>q v s₅ (e04.trans e₅) r₅) (fun G ρ=>by simp only [tE]) (fun _ _=>rfl)
theorem z3r {a: Expr} {x: PE} {k₁: Nat} {p₂ p₃: Pos} (ha: SE c a x): SE c (.Subscript a (.Slice none none (some (.UnaryOp .USub (.Constant (.int 1) k₁ p₂) p₃)) p₁) pos) (.rev x):=.only (fun C G K ok env W O s ρ A p ev at' rm h Q E q=>by
  simp only [eE] at h
  obtain ⟨u,h1,h⟩:=bind_some h
  obtain ⟨xs,rfl,g⟩:=zho h
  obtain ⟨hz,rfl⟩:=zau g
  refine zdl (ha.val ok ev at' rm h1 _ _ fun u' s₁ e₁ r₁=>wpAny_Slice ?_)
  rw [evalPart_none]
  refine wpAny_pure (wpAny_pure ?_)
  rw [evalPart_some]
  refine UnaryOp_ (wpAny_Constant_int (PySem.P.neg_int ?_))
  generalize hs': ({ s₁ with toks:=s₁.toks + 1 + 1 }: Shared)=s₂
  have e2: Ext C s₁ s₂:=by subst hs'; exact ⟨.toks _,by show s₁.toks<=s₁.toks + 1 + 1; lia⟩
  have e4: Ext C s₂ { s₂ with heap:=s₂.heap.push { cls:=.type "slice",data:=.fields #[.none,.none,.int (-1) (s₁.toks + 1)] } }:=⟨.push _ _,Nat.le_refl _⟩
  have e04:=(e₁.trans e2).trans e4
  have: zhb C.prog C.w A u' (.ref s₂.heap.objs.size) Q E { s₂ with heap:=s₂.heap.push { cls:=.type "slice",data:=.fields #[.none,.none,.int (-1) (s₁.toks + 1)] } }:=
    zhb.up (fun Q E q=>z0q hz (at'.ext e04) ((r₁.ext e2.toExt0).ext e4.toExt0) (Heap.get?_push_size _ rfl) ⟨_,rfl⟩ q) fun v s₅ e₅ r₅=>q v s₅ (e04.trans e₅) r₅
  subst hs'
  exact this) (fun G ρ=>by simp only [tE]) (fun _ _=>rfl)
theorem zt4 {x: Str} {i: Expr} {y: PE} {j: Nat} (hd: (x == ("__debug__" : Str))=false) (hcd: (x == ("__classdict__" : Str))=false) (hj: idx c.σ x=some j) (hk: visK c.base j (c.sc.names.lookup x)=true) (hi: SE c i y) :
    SE c (.Subscript (.Name x p₁) i pos) (.subOwn j y):=.only (fun C G K ok env W O s ρ A p ev at' rm h Q E q=>by
  simp only [eE] at h
  obtain ⟨w,h2,h⟩:=bind_some h
  obtain ⟨sl,hr,g⟩:=bind_some h
  obtain ⟨v,hv,r⟩:=ev.vars x j _ hj hk (zdp hr)
  refine zdl (wpAny_Name (zb7 ev hcd hv (hi.val ok ev at' rm h2 _ _ fun w' s₂ e₂ r₂=>?_)) hd)
  induction r with
  | val r=>exact zhb.up (fun Q E q=>zty g (r.ext e₂.toExt0) r₂ q) fun v s₃ e₃ r₃=>q v s₃ (e₂.trans e₃) r₃
  | own ho lo l r z=>
    rename_i xs a vs n
    obtain ⟨k',rfl,g'⟩:=zgz (y:=w) g
    obtain ⟨t,rfl⟩:=zah r₂
    obtain ⟨hk,g⟩:=zck g'
    simp only [Bool.and_eq_true,decide_eq_true_eq] at hk
    have ho:=e₂.new _ _ lo l
    obtain ⟨y,h1,h2'⟩:=(r.ext e₂.toExt0).get _ g
    exact ⟨"list",_,slot_list_getitem.lookup,⟨_,ho,rfl⟩,wpAny_getItem_list (items:=vs.toArray) ⟨_,ho,rfl,_,rfl⟩ hk.1 (by lia) (by simpa using h1) (q _ _ e₂ h2')⟩
  | ownD ho lo l r=>
    rename_i kvs a vs
    obtain ⟨k',rfl,g'⟩:=zr4 (y:=w) g
    obtain ⟨t,rfl,_⟩:=za4 r₂
    obtain ⟨o,e1,e2,ho',hr'⟩:=l
    have hd': s₂.heap.DictOf (strKind C.prog C.w) a vs:=⟨o,e1,e2,e₂.new _ _ lo ho',hr'⟩
    obtain ⟨v,h1,h2'⟩:=ziv (RepD.stay (e₂.toExt0.stay W) _ _ r) g'
    have hkey: (strKind C.prog C.w).is k' (.str k' t)=true:=strKind_is _ _ _ _
    exact ⟨"dict",_,slot_dict_getitem.lookup,hd'.typeIs,wpAny_getItem_of hkey hd'.mapOf h1 (q _ _ (e₂.trans .tok1) h2')⟩) (fun G ρ=>by simp only [tE]) (fun _ _=>rfl)
end
end Mine
namespace Mine
open PySem PySem.Calls PyProof.Rows
theorem zcc {M: Model} {A: Around} {E: Value -> Shared -> Prop} {s: Shared} {pos: Pos} {id: String} {first: List Value} {args: List (Bool × Sem Value)} {Q: Value -> Shared -> Prop} (hplain: args.any (·.1)=false)
    (h: wpAny M A (evalArgs (.type id) true args []) (fun a s₁=>wpAny M A (call (.type id) (first ++ a.pos) a.kw) Q E s₁) E s) :
    wpAny M A (callWith pos (.type id) first args []) Q E s:=by
  refine wpAny_bind (wpAny_holding (wpAny_mono h (fun a s₁ h₁=>wpAny_bind (wpAny_standAt ?_)) fun _ _ x=>x))
  rw [hplain]
  refine wpAny_bind (wpAny_pure ?_)
  exact wpAny_bind (wpAny_mono h₁ (fun r s₂ hr=>wpAny_bind (wpAny_holding (wpAny_point (wpAny_pure hr)))) fun _ _ x=>x)
noncomputable def zep (e: Expr): Bool:=!Nat.beq e.ctorIdx 16
theorem zeq {o: Expr} {name: Str} {env: Env} {whole: Sem Value} (h: zep o=true): attributeBase o name env whole=whole:=by
  cases o <;> first | rfl | exact ft h
section
variable {c: CE} {pos p₁: Pos} {k: Nat}
theorem zxe {C: CX} {G: GT} {K: Nat} (ok: FnOk C G K) {env: Env} {W O: Addr -> Prop} {s: Shared} {ρ: Rho} {A: Around} {p f: PV} {ps: List PV} {x: Str} {args: List Expr} {fe: PE} {xs: List PE} (hf: SE c (.Name x p₁) fe) (hs: SEs c args xs)
    (ev: zam C c env W O s.heap ρ) (at': At C W s) (rm: Room A K) (h1: zag G fe ρ=some f) (h2: zbe G xs ρ=some ps) (h: zmt G f ps=some p): Snd C A s W (eval (.Call (.Name x p₁) args [] pos) env) p:=fun Q E q=>by
  refine wpAny_Call_NameR (hf.val ok ev at' rm h1 _ _ fun fv s₁ e₁ r₁=>?_)
  have hst:=hs.star (pos:=pos) env
  have hL: SndL C A s₁ W (spliced (backTo pos (starEach args env))) ps:=hs.sndL ok rm (ev.ext e₁.toExt0) (at'.ext e₁) h2
  cases f with
  | fn n=>
    obtain ⟨a,o,fd,g1,g2,g3,g4⟩:=ok.fn _ _ _ h
    have hv: fv = .ref a:=by
      have: C.mg n=some fv:=r₁
      rw [g1] at this; replace this:=oj this; subst this; rfl
    subst hv
    exact callWith_function (o:=o) (fd:=fd) (za3 hst (hL _ _ fun vs s₂ e₂ r₂=>⟨⟨g3 _ ((at'.ext e₁).ext e₂).inv,g2⟩,
      g4 A W s₂ vs rm ((at'.ext e₁).ext e₂) r₂ _ _ fun v s₃ e₃ r₃=>q v s₃ ((e₁.trans e₂).trans e₃) r₃⟩))
  | bi id=>
    have hv: fv = .builtin id:=r₁
    subst hv
    exact zn4 (first:=[]) hst hL (fun vs s' e' r'=>by rw [List.nil_append]; exact zpk h ((at'.ext e₁).ext e') rm.1 r') _ _ fun v s₃ e₃ r₃=>q v s₃ (e₁.trans e₃) r₃
  | ty n=>
    obtain rfl:=zts r₁
    exact zcc hst (za3 hst (hL _ _ fun vs s₂ e₂ r₂=>(zpl h ((at'.ext e₁).ext e₂) rm.1 r₂).up _ _ fun v s₃ e₃ r₃=>q v s₃ ((e₁.trans e₂).trans e₃) r₃))
  | _=>exact zae h
theorem zpm {x: Str} {args: List Expr} {fe: PE} {xs: List PE} (hf: SE c (.Name x p₁) fe) (hs: SEs c args xs): SE c (.Call (.Name x p₁) args [] pos) (.call fe xs):=.plain (fun C G K ok env W O s ρ A p ev at' rm h=>by
  simp only [eE] at h
  obtain ⟨f,h1,h⟩:=bind_some h
  obtain ⟨ps,h2,h⟩:=bind_some h
  exact zxe ok hf hs ev at' rm h1 h2 h) (fun G ρ=>by
    simp only [eE,tE]
    cases zag G fe ρ with
    | none=>rfl
    | some f=>cases zbe G xs ρ with
      | none=>rfl
      | some ps=>rfl) (fun _ _=>rfl) (fun _ _=>rfl)
noncomputable def MethAt (C: CX) (A: Around) (s: Shared) (W: Addr -> Prop) (m: Str) (ov: Value) (ps: List PV) (p: PV): Prop:=
  ∃ T id,PlainAttrs T/\PySem.Slot T m id/\typeOf (.builtin id)=pure (.type "method_descriptor")/\s.TypeIs ov T/\(∀ a,ov = .ref a -> ∃ ob,s.heap.get? a=some ob/\ob.dict=none) /\
    ∀ vs s',Ext C s s' -> RepL C s'.heap W ps vs -> Snd0 C A s' W (call (.builtin id) ([ov] ++ vs)) p
theorem z0w {C: CX} {A: Around} {s: Shared} {W: Addr -> Prop} {f: PV} {m: Str} {ps: List PV} {p: PV} {ov: Value} (g: methP f m ps=some p) (r₁: Rep C s.heap W f ov): MethAt C A s W m ov ps p:=by
  cases f with
  | str s'=>
    obtain ⟨t,rfl,hz⟩:=za4 r₁
    rcases zji g with ⟨hm,g⟩ | ⟨-,g⟩
    · have hm: m = "replace" := eq_of_beq hm
      subst hm
      obtain ⟨y,z,rfl,g1⟩:=zms g
      obtain ⟨y',hy,g2⟩:=zto g1
      obtain ⟨z',hz',g3⟩:=zto g2
      obtain rfl: y = .lit y':=hy
      obtain rfl: z = .lit z':=hz'
      obtain ⟨hm,rfl⟩:=zau g3
      simp only [Bool.and_eq_true] at hm
      refine ⟨"str","str.replace",F.plainAttrs_str,F.slot_str_replace,F.type_str_replace,typeIs_str _ _ _,(fun a e=>by cases e),fun vs s₂ e₂ r₂=>?_⟩
      obtain ⟨v,u,rfl,ry,r₂⟩:=zat r₂
      obtain ⟨v',u,rfl,rz,r₂⟩:=zat r₂
      obtain rfl:=za6 r₂
      obtain ⟨t1,rfl,_,l1⟩:=zkd ry
      obtain ⟨t2,rfl,_,l2⟩:=zkd rz
      exact zfq (C.litNz l1) (C.litNz l2) (fun e=>by subst e; have:=C.litNe l1 l2; simp [this] at hm) hm.1 hm.2 (zco hz)
    rcases zji g with ⟨hm,g⟩ | ⟨-,g⟩
    · have hm: m = "count" := eq_of_beq hm
      subst hm
      obtain ⟨y,rfl,g1⟩:=zez g
      obtain ⟨y',rfl,rfl⟩:=mapS g1
      refine ⟨"str","str.count",F.plainAttrs_str,F.slot_str_count,F.type_str_count,typeIs_str _ _ _,(fun a e=>by cases e),fun vs s₂ e₂ r₂=>?_⟩
      obtain ⟨v,u,rfl,ry,r₂⟩:=zat r₂
      obtain rfl:=za6 r₂
      exact zmw (zco hz) ry
    rcases zji g with ⟨hm,g⟩ | ⟨-,g⟩
    · have hm: m = "join" := eq_of_beq hm
      subst hm
      obtain ⟨y,rfl,g1⟩:=zez g
      obtain ⟨y',rfl,g2⟩:=zho g1
      obtain ⟨ys,h3,g3⟩:=bind_some g2
      obtain ⟨hz2,rfl⟩:=zau g3
      refine ⟨"str","str.join",F.plainAttrs_str,F.slot_str_join,F.type_str_join,typeIs_str _ _ _,(fun a e=>by cases e),fun vs s₂ e₂ r₂=>?_⟩
      obtain ⟨v,u,rfl,ry,r₂⟩:=zat r₂
      obtain rfl:=za6 r₂
      exact zn5 h3 hz2 (zco hz) ry
    rcases zji g with ⟨hm,g⟩ | ⟨-,g⟩
    · have hm: m = "lower" := eq_of_beq hm
      subst hm
      obtain ⟨h0,rfl⟩:=zau g
      rw [Bool.and_eq_true] at h0
      obtain rfl:=List.isEmpty_iff.mp h0.1
      refine ⟨"str","str.lower",F.plainAttrs_str,F.slot_str_lower,F.type_str_lower,typeIs_str _ _ _,(fun a e=>by cases e),fun vs s₂ e₂ r₂=>?_⟩
      obtain rfl:=za6 r₂
      exact zmx h0.2 (zco hz)
    · exact zae g
  | int i=>
    obtain ⟨t,rfl⟩:=zah r₁
    obtain ⟨h0,rfl⟩:=zau g
    rw [Bool.and_eq_true] at h0
    have hm: m = "bit_length" := eq_of_beq h0.1
    subst hm
    obtain rfl:=List.isEmpty_iff.mp h0.2
    refine ⟨"int","int.bit_length",F.plainAttrs_int,F.slot_int_bit_length,F.type_int_bit_length,typeIs_int _ _ _,(fun a e=>by cases e),fun vs s₂ e₂ r₂=>?_⟩
    obtain rfl:=za6 r₂
    exact zll zbf
  | _=>exact zae g
theorem z0x {o: Expr} {x: PE} {m: Str} {args: List Expr} {xs: List PE} (ho: SE c o x) (hs: SEs c args xs) (hb: zep o=true) (hlen: decide (args.length < 30)=true) (hline: (p₁.endLine == pos.line)=true) :
    SE c (.Call (.Attribute o m p₁) args [] pos) (.meth x m xs):=.only (fun C G K ok env W O s ρ A p ev at' rm h Q E q=>by
  simp only [eE] at h
  obtain ⟨f,h1,hA⟩:=bind_some h
  obtain ⟨ps,h2,hB⟩:=bind_some hA
  clear h hA
  have h:=hB
  clear hB
  have hst:=hs.star (pos:=pos) env
  refine wpAny_Call_method_late (zeq hb) (by
    have e1: ((backTo pos (starEach args env)).all fun x=>!x.fst)=true:=by
      rw [List.all_eq_not_any_not]
      simpa using hst
    rw [e1]
    exact decide_eq_true (show args.length + 0 + 0 < 30 from of_decide_eq_true hlen)) hline rfl (ho.val ok ev at' rm h1 _ _ fun ov s₁ e₁ r₁=>?_)
  have hL: SndL C A s₁ W (spliced (backTo pos (starEach args env))) ps:=hs.sndL ok rm (ev.ext e₁.toExt0) (at'.ext e₁) h2
  have fin: ∀ {id: String},(∀ vs s',Ext C s₁ s' -> RepL C s'.heap W ps vs -> Snd0 C A s' W (call (.builtin id) ([ov] ++ vs)) p) -> wpAny (model C.prog C.w) A (callWith pos (.builtin id) [ov] (backTo pos (starEach args env)) []) Q E s₁:=fun hk=>
    zn4 hst hL hk _ _ fun v s₃ e₃ r₃=>q v s₃ (e₁.trans e₃) r₃
  obtain ⟨g⟩ | ⟨g⟩: (isB3 f=true/\((one ps).bind fun a=>(intOf a).bind fun k=>if m == "get" then (G.b3get k).map optStr else none)=some p) \/ methP f m ps=some p:=by
    cases hb: isB3 f
    · rw [hb] at h; exact .inr h
    · rw [hb] at h; exact .inl ⟨rfl,h⟩
  · obtain ⟨hb3,g⟩:=g
    obtain rfl:=zw9 hb3
    obtain ⟨x1,rfl,g1⟩:=zez g
    obtain ⟨k,rfl,g2⟩:=zgz g1
    obtain ⟨hm,g3⟩:=zck g2
    obtain ⟨r,h3,rfl⟩:=zaj g3
    have hm: m = "get" := eq_of_beq hm
    subst hm
    obtain ⟨d,f,hd1,hd2,hd3,hd4⟩:=ok.b3 _ (z3f r₁)
    subst hd1
    obtain ⟨t,ht,hz⟩:=hd4 k r h3
    refine ⟨"dict","dict.get",F.plainAttrs_dict,F.slot_dict_get,F.type_dict_get,(hd3 _ (at'.ext e₁).inv).typeIs,(hd3 _ (at'.ext e₁).inv).noDict,?_⟩
    cases hs with
    | nil=>simp only [pE] at h2; cases h2
    | cons ha hr=>
      simp only [pE] at h2
      obtain ⟨u,h5,h6⟩:=bind_some h2
      obtain ⟨us,h7,h8⟩:=zaj h6
      cases h8
      induction hr with
      | cons _ _=>
        simp only [pE] at h7
        obtain ⟨_,_,h9⟩:=bind_some h7
        obtain ⟨_,_,h9⟩:=zaj h9
        cases h9
      | nil=>
        rw [ha.ns]
        refine wpAny_dict_get1 (knd:=intKind C.prog C.w) hd2 (ha.val ok (ev.ext e₁.toExt0) (at'.ext e₁) rm h5 _ _ fun v s₂ e₂ r₂=>?_)
        obtain ⟨t',rfl⟩:=zah r₂
        refine ⟨k,f,intKind_is _ _ _ _,hd3 _ ((at'.ext e₁).ext e₂).inv,?_⟩
        rw [ht]
        refine q _ _ ((e₁.trans e₂).trans .tok1) ?_
        cases r with
        | none=>rfl
        | some y=>exact zco (hz y rfl)
  · obtain ⟨T,id,k1,k2,k3,k4,k5,hk⟩:=z0w (A:=A) (s:=s₁) g r₁
    exact ⟨T,id,k1,k2,k3,k4,k5,fin hk⟩) (fun G ρ=>by simp only [tE]) (fun _ _=>rfl)
end
end Mine
namespace Mine
open PySem PySem.Calls PyProof.Rows
set_option backward.match.sparseCases false
theorem Stay.grow {C: CX} {h h': Heap} {W W': Addr -> Prop} (keep: ∀ b o,C.n₀<=b -> h.get? b=some o -> h'.get? b=some o) (fresh: ∀ b,W' b -> W b \/ h.get? b=none): Stay C h h' W W':=
  fun b o hb hw e=>⟨keep b o hb e,fun hw'=>by rcases fresh b hw' with h1 | h1; exact hw h1; rw [e] at h1; cases h1⟩
theorem RepS.grow {C: CX} {h h': Heap} {W W' O: Addr -> Prop} {p: Slot} {v: Value} (keep: ∀ b o,C.n₀<=b -> h.get? b=some o -> h'.get? b=some o) (fresh: ∀ b,W' b -> W b \/ h.get? b=none) (r: RepS C h W O p v): RepS C h' W' O p v:=by
  induction r with
  | val r=>exact .val (Rep.stay (Stay.grow keep fresh) _ _ r)
  | own w lo l r z=>exact .own w lo (keep _ _ lo l) (RepL.stay (Stay.grow keep fresh) _ _ r) z
  | ownD w lo g r=>
    obtain ⟨o,e1,e2,ho,hr⟩:=g
    exact .ownD w lo ⟨o,e1,e2,keep _ _ lo ho,hr⟩ (RepD.stay (Stay.grow keep fresh) _ _ r)
theorem zam.grow {C: CX} {c: CE} {env: Env} {W W' O: Addr -> Prop} {h h': Heap} {ρ: Rho} (e: zam C c env W O h ρ) (keep: ∀ b o,C.n₀<=b -> h.get? b=some o -> h'.get? b=some o) (sub: ∀ b,W b -> W' b)
    (fresh: ∀ b,W' b -> W b \/ h.get? b=none): zam C c env W' O h' ρ where
  glob:=e.glob
  bui:=e.bui
  kind:=e.kind
  ow:=fun b hb=>sub b (e.ow b hb)
  lo:=e.lo
  loc:=e.loc
  ns:=by obtain ⟨m,o,es,ep,ho,r⟩:=e.ns; exact ⟨m,o,es,ep,keep _ _ (e.lo _ e.loc) ho,r⟩
  names:=e.names
  cells:=fun y hy=>by obtain ⟨a,v,h1,h2,o,ho,hd⟩:=e.cells y hy; exact ⟨a,v,h1,h2,o,keep _ _ (e.lo _ h2) ho,hd⟩
  cinj:=e.cinj
  top:=e.top
  vars:=fun y i sl h1 h2 h3=>by obtain ⟨v,a,b⟩:=e.vars y i sl h1 h2 h3; exact ⟨v,a.keep keep (e.lo _ e.loc),b.grow keep fresh⟩
  apart:=fun y z i j sl tl v h1 h2 k1 k2 h3 h4 h5 h6 h7 h8=>by
    obtain ⟨u,a,_⟩:=e.vars y i sl h1 k1 h3
    obtain ⟨u',a',_⟩:=e.vars z j tl h2 k2 h4
    have e1:=h7.fn (a.keep keep (e.lo _ e.loc))
    have e2:=h8.fn (a'.keep keep (e.lo _ e.loc))
    subst e1 e2
    exact e.apart y z i j sl tl _ h1 h2 k1 k2 h3 h4 h5 h6 a a'
section
variable {c: CE} {pos p₁ p₂ p₃: Pos} {k₁ k₂: Nat}
theorem z0y {o: Expr} {x: PE} {y z: Str} (ho: SE c o x) (hb: zep o=true) (hline: (p₁.endLine == pos.line)=true) :
    SE c (.Call (.Attribute o (Str.ofString "replace") p₁) [.Constant (.str y) k₁ p₂,.Constant (.str z) k₂ p₃] [] pos) (.repl x y z):=.only (fun C G K ok env W O s ρ A p ev at' rm h Q E q=>by
  simp only [eE] at h
  obtain ⟨f,h1,h⟩:=bind_some h
  obtain ⟨x',rfl,g⟩:=zr4 h
  obtain ⟨hm,rfl⟩:=zau g
  simp only [Bool.and_eq_true] at hm
  refine wpAny_Call_method_late (zeq hb) (by rfl) hline rfl (ho.val ok ev at' rm h1 _ _ fun ov s₁ e₁ r₁=>?_)
  obtain ⟨t,rfl,hz⟩:=za4 r₁
  refine ⟨"str","str.replace",F.plainAttrs_str,F.slot_str_replace,F.type_str_replace,typeIs_str _ _ _,(fun a e=>by cases e),?_⟩
  refine callWith_builtin rfl (za3 rfl (spliced_cons (Constant_str (k:=k₁) (pos:=p₂) (spliced_cons (Constant_str (k:=k₂) (pos:=p₃) (spliced_nil ?_))))))
  have e2: Ext C s₁ { s₁ with toks:=s₁.toks + 1 + 1 }:=⟨.toks _,by show s₁.toks<=s₁.toks + 1 + 1; lia⟩
  have ht:=(at'.ext e₁).tok
  exact (zfq (W:=W) (u:=s₁.toks) (u':=s₁.toks + 1) (Nat.ne_of_gt ht) (Nat.succ_ne_zero _) (Nat.ne_of_lt (Nat.lt_succ_self _)) hm.1 hm.2 (zco hz)).up _ _ fun v s₃ e₃ r₃=>q v s₃ ((e₁.trans e2).trans e₃) r₃) (fun G ρ=>by simp only [tE]) (fun _ _=>rfl)
noncomputable def zc8 (env: Env) (pos: Pos): List Expr -> List Expr -> List (Sem Value × Sem Value)
  | k :: ks,v :: vs=>(eval k env,do let x <- eval v env; standAt pos; pure x) :: zc8 env pos ks vs
  | _,_=>[]
theorem zl7 (env: Env) (pos: Pos) (k: Expr) (ks: List Expr) (v: Expr) (vs: List Expr): zc8 env pos (k :: ks) (v :: vs)=(eval k env,do let x <- eval v env; standAt pos; pure x) :: zc8 env pos ks vs:=rfl
theorem zb0 (env: Env): ∀ {ks vs: List Expr},ks.length=vs.length -> (zc8 env pos ks vs).length=ks.length
  | [],[],_=>rfl
  | k :: ks,v :: vs,h=>by simp only [zl7,List.length_cons]; rw [zb0 env (by simpa using h)]
theorem zd0 (env: Env): ∀ {ks vs: List Expr},ks.length=vs.length ->
    (evalEachOpt (ks.map some) env).zip ((evalEach vs env).map fun v=>do let x <- v; standAt pos; pure x)=(zc8 env pos ks vs).map fun p=>(some p.1,p.2)
  | [],[],_=>rfl
  | k :: ks,v :: vs,h=>by
    have ih:=zd0 env (ks:=ks) (vs:=vs) (by simpa using h)
    simp only [List.map_cons,arm_evalEachOpt_cons,arm_evalEach_cons,arm_evalOpt_some,List.zip_cons_cons,zl7]
    rw [ih]
theorem zhz {C: CX} {G: GT} {K: Nat} (ok: FnOk C G K) {env: Env} {W O: Addr -> Prop} {ρ: Rho} {A: Around} (rm: Room A K): ∀ {ks vs: List Expr} {xs ys: List PE} {s: Shared} {kp vp: List PV} {kst: List Str},
    SEs c ks xs -> SEs c vs ys -> ks.length=vs.length -> zam C c env W O s.heap ρ -> At C W s -> zbe G xs ρ=some kp -> zhp kp=some kst -> zbe G ys ρ=some vp ->
    ∀ (Q: List (Value × Value) -> Shared -> Prop) (E: Value -> Shared -> Prop),(∀ l s',Ext C s s' -> l.length=ks.length -> (∃ kvs,Carries (strKind C.prog C.w) l kvs/\RepD C s'.heap W (kst.zip vp) kvs) -> Q l s') ->
      wpAny (model C.prog C.w) A (evalPairs (zc8 env pos ks vs)) Q E s:=by
  intro ks vs xs ys s kp vp kst hk
  induction hk generalizing vs ys s kp vp kst with
  | nil=>
    intro hv hl ev at' h1 h2 h3 Q E q
    induction hv with
    | cons _ _=>simp at hl
    | nil=>
      simp only [pE] at h1 h3; replace h1:=oj h1; subst h1; replace h3:=oj h3; subst h3
      simp [zhp] at h2; subst h2
      exact evalPairs_nil (q [] s (.refl s) rfl ⟨[],trivial,rfl⟩)
  | cons ha hr ih=>
    intro hv hl ev at' h1 h2 h3 Q E q
    induction hv with
    | nil=>simp at hl
    | cons hb hs=>
      simp only [pE] at h1 h3
      obtain ⟨p,g1,h1⟩:=bind_some h1
      obtain ⟨ps,g2,h1⟩:=zaj h1
      obtain ⟨w,g3,h3⟩:=bind_some h3
      obtain ⟨ws,g4,h3⟩:=zaj h3
      subst h1 h3
      obtain ⟨kx,kxs,hp,hps,rfl⟩:=zhv h2
      obtain rfl:=zhn hp
      refine evalPairs_cons (ha.val ok ev at' rm g1 _ _ fun kv s₁ e₁ r₁=>wpAny_bind (hb.val ok (ev.ext e₁.toExt0) (at'.ext e₁) rm g3 _ _ fun vv s₂ e₂ r₂=>wpAny_bind (wpAny_standAt (wpAny_pure ?_))))
      refine ih hs (by simpa using hl) ((ev.ext e₁.toExt0).ext e₂.toExt0) ((at'.ext e₁).ext e₂) g2 hps g4 _ _ fun l s₃ e₃ hlen ⟨kvs,hc,hd⟩=>?_
      obtain ⟨t,rfl,_⟩:=za4 r₁
      refine q _ s₃ ((e₁.trans e₂).trans e₃) (by simp [hlen]) ⟨(kx,vv) :: kvs,⟨strKind_is _ _ _ _,rfl,hc⟩,?_⟩
      exact ⟨vv,kvs,rfl,r₂.ext e₃.toExt0,hd⟩
theorem zr7 {C: CX} {h: Heap} {W: Addr -> Prop} {kvs: List (Str × PV)} {l: List (Str × Value)} {k: Str} {x: PV} {v: Value} (hd: RepD C h W kvs l) (hx: Rep C h W x v): RepD C h W (zj5 kvs k x) (stored l k v):=by
  have hany: ∀ {kvs: List (Str × PV)} {l: List (Str × Value)},RepD C h W kvs l -> kvs.any (fun kv=>kv.1=k)=l.any (fun kv=>kv.1=k):=fun {kvs}=>by
    induction kvs with
    | nil=>intro l hd; obtain rfl: _=_:=hd; rfl
    | cons p r ih=>
      intro l hd
      obtain ⟨q,y⟩:=p
      obtain ⟨u,l',rfl,_,hr⟩:=hd
      simp only [List.any_cons,ih hr]
  unfold zj5 stored
  rw [hany hd]
  split
  · rename_i hh; clear hany hh
    induction kvs generalizing l with
    | nil=>obtain rfl: _=_:=hd; rfl
    | cons p r ih=>
      obtain ⟨q,y⟩:=p
      obtain ⟨u,l',rfl,hu,hr⟩:=hd
      by_cases hq: q=k
      · subst hq
        rw [List.map_cons,List.map_cons,if_pos rfl,if_pos rfl]
        exact ⟨v,_,rfl,hx,ih hr⟩
      · rw [List.map_cons,List.map_cons,if_neg hq,if_neg hq]
        exact ⟨u,_,rfl,hu,ih hr⟩
  · rename_i hh; clear hany hh
    induction kvs generalizing l with
    | nil=>obtain rfl: _=_:=hd; exact ⟨v,[],rfl,hx,rfl⟩
    | cons p r ih=>
      obtain ⟨q,y⟩:=p
      obtain ⟨u,l',rfl,hu,hr⟩:=hd
      exact ⟨u,_,rfl,hu,ih hr⟩
theorem ziw {C: CX} {h: Heap} {W: Addr -> Prop}: ∀ {more: List (Str × PV)} {ml: List (Str × Value)} {kvs: List (Str × PV)} {l: List (Str × Value)},RepD C h W kvs l -> RepD C h W more ml -> RepD C h W (zfm kvs more) (merged l ml):=by
  intro zz
  induction zz with
  | nil=>intro _ _ _ h1 h2; obtain rfl: _=_:=h2; exact h1
  | cons zq r ih=>
    obtain ⟨k,x⟩:=zq
    intro ml kvs l h1 h2
    obtain ⟨u,l',rfl,hu,hr⟩:=h2
    have:=ih (zr7 (k:=k) h1 hu) hr
    exact this
theorem zq6 {C: CX} {W: Addr -> Prop} {s: Shared} {d: Addr} {kvs: List (Str × PV)} {l: List (Str × Value)} {h': Heap} {k: Nat} (a: At C W s) (hd: d=s.heap.objs.size) {s₂: Shared}
    (e: Ext C { s with heap:=s.heap.push { cls:=.type "dict",data:=.dict #[] } } s₂) (hD: h'.DictOf (strKind C.prog C.w) d l) (hs: Heap.SameBut d s₂.heap h') (hr: RepD C s₂.heap (fun b=>W b \/ b=d) kvs l) (hk: s₂.toks<=k) :
    Ext C s { s₂ with heap:=h',toks:=k } /\ Rep C h' W (.dict kvs) (.ref d):=by
  subst hd
  refine ⟨⟨⟨fun b o hb eb=>?_,fun hi=>?_,e.gens,e.drawn,e.os⟩,Nat.le_trans e.toks hk⟩,?_⟩
  · have hne: b ≠ s.heap.objs.size:=fun h=>by rw [h] at eb; exact Nat.lt_irrefl _ (Heap.lt_size eb)
    exact (hs.2 b hne).trans (e.new b o hb (Heap.get?_push_of_some _ eb))
  · have h2: C.Inv s₂.heap:=e.inv (C.keep (fun b o _ eb=>Heap.get?_push_of_some _ eb) hi)
    exact C.keepBut a.low (fun o eo=>by
      have:=e.new s.heap.objs.size { cls:=.type "dict",data:=.dict #[] } a.low (Heap.get?_push_size _ rfl)
      rw [this] at eo
      replace eo:=oj eo; subst eo
      exact zfl (a:="dict") rfl (by decide)) (fun b o hb eb=>(hs.2 b hb).trans eb) h2
  · refine ⟨_,l,rfl,a.nw,a.low,hD,RepD.stay (fun b o hb hw eb=>⟨?_,fun h=>hw (.inl h)⟩) _ _ hr⟩
    exact (hs.2 b (fun h=>hw (.inr h))).trans eb
theorem z0z {ks vs: List Expr} {xs ys: List PE} (hk: SEs c ks xs) (hv: SEs c vs ys) (hl: ks.length=vs.length) (h0: ks ≠ []) (h15: ks.length<=15): SE c (.Dict (ks.map some) vs pos) (.dict xs ys):=.only (fun C G K ok env W O s ρ A p ev at' rm h Q E q=>by
  simp only [eE] at h
  obtain ⟨kp,h1,h⟩:=bind_some h
  obtain ⟨vp,h2,h⟩:=bind_some h
  obtain ⟨kst,h3,h⟩:=bind_some h
  obtain ⟨_,rfl⟩:=zau h
  have hne: zc8 env pos ks vs ≠ []:=fun h=>h0 (List.length_eq_zero_iff.mp (by rw [<- zb0 (pos:=pos) env hl,h]; rfl))
  refine wpAny_Dict_pairs (knd:=strKind C.prog C.w) (zd0 env hl) hne (by rw [zb0 env hl]; exact h15) ?_
  have e1: Ext C s { s with heap:=s.heap.push { cls:=.type "dict",data:=.dict #[] } }:=⟨.push _ _,Nat.le_refl _⟩
  have hfr: s.heap.get? s.heap.objs.size=none:=by
    cases hh: s.heap.get? s.heap.objs.size with
    | none=>rfl
    | some o=>exact absurd (Heap.lt_size hh) (Nat.lt_irrefl _)
  have ev1: zam C c env (fun b=>W b \/ b=s.heap.objs.size) O (s.heap.push { cls:=.type "dict",data:=.dict #[] }) ρ:=
    ev.grow (fun b o _ eb=>Heap.get?_push_of_some _ eb) (fun b hb=>.inl hb) (fun b hb=>by rcases hb with hb | rfl; exact .inl hb; exact .inr hfr)
  have at1: At C (fun b=>W b \/ b=s.heap.objs.size) { s with heap:=s.heap.push { cls:=.type "dict",data:=.dict #[] } }:=
    ⟨(at'.ext e1).inv,fun b hb=>by rcases hb with hb | rfl; exact (at'.ext e1).wocc b hb; exact ⟨at'.low,_,Heap.get?_push_size _ rfl⟩,at'.tok⟩
  refine zhz ok rm hk hv hl ev1 at1 h1 h3 h2 _ _ fun l s₂ e₂ _ ⟨kvs,hc,hd⟩=>⟨kvs,hc,?_,fun h' hD hs=>?_⟩
  · obtain ⟨o,a1,a2,ho,hr⟩:=Heap.DictOf.new (knd:=strKind C.prog C.w) s.heap
    exact ⟨o,a1,a2,e₂.new _ _ at'.low ho,hr⟩
  · obtain ⟨x1,x2⟩:=zq6 (k:=s₂.toks + l.length) at' rfl e₂ hD hs (ziw (kvs:=[]) (l:=[]) rfl hd) (Nat.le_add_right _ _)
    exact q _ _ x1 x2) (fun G ρ=>by simp only [tE]) (fun _ _=>rfl)
theorem zxf: SE c (.Dict [] [] pos) (.dict [] []):=.only (fun C G K ok env W O s ρ A p ev at' rm h Q E q=>by
  simp [eE,pE,zhp,zfm] at h
  subst h
  rw [arm_eval_Dict]
  refine wpAny_bind (wpAny_standAt ?_)
  show wpAny _ A newDict Q E s
  refine wpAny_newObj_type (T:="dict") ?_
  refine q _ _ ⟨.push _ s.toks,Nat.le_refl _⟩ ?_
  exact ⟨_,[],rfl,at'.nw,at'.low,Heap.DictOf.new _,rfl⟩) (fun G ρ=>by simp only [tE]) (fun _ _=>rfl)
end
theorem zfr: ∀ {σ: List Str} {x: Str} {i: Nat},idx σ x=some i -> i < σ.length
  | y :: r,x,i,h=>by
    rw [idxE] at h
    split at h
    · replace h:=oj h; subst h; exact Nat.lt_succ_self _
    · exact Nat.lt_succ_of_lt (zfr h)
theorem zgb: ∀ {ns σ: List Str} {x: Str} {i: Nat},idx (ns ++ σ) x=some i -> i < σ.length -> idx σ x=some i
  | [],_,_,_,h,_=>h
  | y :: ns,σ,x,i,h,hi=>by
    rw [List.cons_append] at h
    rw [idxE] at h
    split at h
    · replace h:=oj h; subst h; simp at hi; lia
    · exact zgb h hi
theorem zgt: ∀ {ns σ: List Str} {x: Str},x ∉ ns -> idx (ns ++ σ) x=idx σ x
  | [],_,_,_=>rfl
  | y :: ns,σ,x,h=>by
    rw [List.cons_append]
    have h1: (x == y)=false:=beq_eq_false_iff_ne.mpr fun e=>h (by rw [e]; exact List.mem_cons_self)
    show (if (x == y)=true then some (ns ++ σ).length else idx (ns ++ σ) x)=_
    rw [h1]
    simp only [Bool.false_eq_true,if_false]
    exact zgt fun hm=>h (List.mem_cons_of_mem _ hm)
theorem zcq: ∀ {σ: List Str} {x y: Str} {i: Nat},idx σ x=some i -> idx σ y=some i -> x=y
  | z :: r,x,y,i,h1,h2=>by
    rw [idxE] at h1 h2
    split at h1
    · rename_i e1
      replace h1:=oj h1; subst h1
      split at h2
      · rename_i e2
        rw [eq_of_beq e1,eq_of_beq e2]
      · exact absurd (zfr h2) (Nat.lt_irrefl _)
    · split at h2
      · replace h2:=oj h2; subst h2; exact absurd (zfr h1) (Nat.lt_irrefl _)
      · exact zcq h1 h2
section
variable {C: CX} {c: CE} {env: Env} {W W' O: Addr -> Prop} {h h': Heap} {ρ: Rho}
theorem zkg {b i: Nat} {k: Option NameKind} (h: visK b i k=true): k ≠ none:=fun e=>by rw [e] at h; exact ft h
theorem zam.cellO (e: zam C c env W O h ρ) {x: Str} {a: Addr} (hx: c.sc.names.lookup x ≠ none) (k: env.kindOf x=some .cell \/ env.kindOf x=some .free) (l: env.cells.lookup x=some a): O a:=by
  have: c.sc.names.lookup x=some .cell \/ c.sc.names.lookup x=some .free:=by
    rcases e.names x with h1 | ⟨h1,_⟩ | h1
    · rw [<- h1]; exact k
    · exact .inr h1
    · exact absurd h1 hx
  obtain ⟨a',v,h1,h2,_⟩:=e.cells x this
  rw [l] at h1; replace h1:=oj h1; subst h1; exact h2
theorem zam.varKeep (e: zam C c env W O h ρ) (keep: ∀ b o,O b -> h.get? b=some o -> h'.get? b=some o) {x: Str} {v: Value} (hx: c.sc.names.lookup x ≠ none) (y: zbl h env C.n₀ x v): zbl h' env C.n₀ x v:=by
  induction y with
  | loc hk n ev=>
    obtain ⟨o,es,ep,ho,r⟩:=n
    exact .loc hk ⟨o,es,ep,keep _ _ e.loc ho,r⟩ ev
  | cell hk l lo i=>
    obtain ⟨o,ho,r⟩:=i
    exact .cell hk l lo ⟨o,keep _ _ (e.cellO hx hk l) ho,r⟩
theorem zam.move (e: zam C c env W O h ρ) (keep: ∀ b o,C.n₀<=b -> (¬ W b \/ O b) -> h.get? b=some o -> h'.get? b=some o) (sub: ∀ b,O b -> W' b)
    (fresh: ∀ b,W' b -> W b \/ h.get? b=none): zam C c env W' O h' ρ:=by
  have hO: ∀ b o,O b -> h.get? b=some o -> h'.get? b=some o:=fun b o hb=>keep b o (e.lo b hb) (.inr hb)
  have hS: Stay C h h' W W':=fun b o hb hw eb=>⟨keep b o hb (.inl hw) eb,fun hw'=>by rcases fresh b hw' with h1 | h1; exact hw h1; rw [eb] at h1; cases h1⟩
  exact {
    glob:=e.glob
    bui:=e.bui
    kind:=e.kind
    ow:=sub
    lo:=e.lo
    loc:=e.loc
    ns:=by obtain ⟨m,o,es,ep,ho,r⟩:=e.ns; exact ⟨m,o,es,ep,hO _ _ e.loc ho,r⟩
    names:=e.names
    cells:=fun y hy=>by obtain ⟨a,v,h1,h2,o,ho,hd⟩:=e.cells y hy; exact ⟨a,v,h1,h2,o,hO _ _ h2 ho,hd⟩
    cinj:=e.cinj
    top:=e.top
    vars:=fun y i sl h1 h2 h3=>by
      obtain ⟨v,a,b⟩:=e.vars y i sl h1 h2 h3
      refine ⟨v,e.varKeep hO (zkg h2) a,?_⟩
      induction b with
      | val r=>exact .val (Rep.stay hS _ _ r)
      | own w lo l r z=>exact .own w lo (hO _ _ w.1 l) (RepL.stay hS _ _ r) z
      | ownD w lo g r=>
        obtain ⟨o,e1,e2,ho,hr⟩:=g
        exact .ownD w lo ⟨o,e1,e2,hO _ _ w.1 ho,hr⟩ (RepD.stay hS _ _ r)
    apart:=fun y z i j sl tl v h1 h2 k1 k2 h3 h4 h5 h6 h7 h8=>by
      obtain ⟨u,a,_⟩:=e.vars y i sl h1 k1 h3
      obtain ⟨u',a',_⟩:=e.vars z j tl h2 k2 h4
      have e1:=h7.fn (e.varKeep hO (zkg k1) a)
      have e2:=h8.fn (e.varKeep hO (zkg k2) a')
      subst e1 e2
      exact e.apart y z i j sl tl _ h1 h2 k1 k2 h3 h4 h5 h6 a a' }
theorem zam.push (e: zam C c env W O h ρ) (ns: List Str): zam C { c with σ:=ns ++ c.σ } env W O h ρ where
  glob:=e.glob
  bui:=e.bui
  kind:=e.kind
  ow:=e.ow
  lo:=e.lo
  loc:=e.loc
  ns:=e.ns
  names:=e.names
  cells:=e.cells
  cinj:=e.cinj
  top:=fun i s hi=>by rw [List.length_append]; exact Nat.lt_of_lt_of_le (e.top i s hi) (Nat.le_add_left _ _)
  vars:=fun x i s h1 h2 h3=>e.vars x i s (zgb h1 (e.top i s h3)) h2 h3
  apart:=fun x y i j s t v h1 h2 k1 k2 h3 h4 h5 h6 h7 h8=>e.apart x y i j s t v (zgb h1 (e.top i s h3)) (zgb h2 (e.top j t h4)) k1 k2 h3 h4 h5 h6 h7 h8
theorem zam.forget {ρ': Rho} {ns: List Str} (e: zam C { c with σ:=ns ++ c.σ } env W O h ρ') (hns: ∀ x ∈ ns,zq2 (c.sc.names.lookup x)=true/\c.sc.names.lookup x ≠ some .free /\ ∀ i,idx c.σ x=some i -> i < c.base)
    (hle: ∀ (i: Nat) (s: Slot),ρ[i]? = some (some s) -> ρ'[i]? = some (some s)) (ht: ∀ (i: Nat) (s: Slot),ρ[i]? = some (some s) -> i < c.σ.length): zam C c env W O h ρ:=by
  have key: ∀ x i,idx c.σ x=some i -> visK c.base i (c.sc.names.lookup x)=true -> idx (ns ++ c.σ) x=some i:=fun x i h1 h2=>by
    by_cases hx: x ∈ ns
    · obtain ⟨g1,g2,g3⟩:=hns x hx
      have:=g3 i h1
      exfalso
      revert h2 g1 g2
      cases c.sc.names.lookup x with
      | none=>exact fun h _ _=>ft h
      | some k=>induction k <;> first | exact fun h _ _=>ft h | exact fun _ _ h=>h rfl | exact fun h _ _=>absurd (of_decide_eq_true h) (Nat.not_le_of_lt this)
    · rw [zgt hx]; exact h1
  exact {
    glob:=e.glob
    bui:=e.bui
    kind:=e.kind
    ow:=e.ow
    lo:=e.lo
    loc:=e.loc
    ns:=e.ns
    names:=e.names
    cells:=e.cells
    cinj:=e.cinj
    top:=ht
    vars:=fun x i s h1 h2 h3=>e.vars x i s (key x i h1 h2) h2 (hle i s h3)
    apart:=fun x y i j s t v h1 h2 k1 k2 h3 h4 h5 h6 h7 h8=>e.apart x y i j s t v (key x i h1 k1) (key y j h2 k2) k1 k2 (hle _ _ h3) (hle _ _ h4) h5 h6 h7 h8 }
theorem zbi {ρ: Rho} {i j: Nat} {s t: Slot} (h: (setR ρ i s)[j]? = some (some t)): (j=i/\t=s) \/ (j ≠ i/\ρ[j]? = some (some t)):=by
  unfold setR at h
  by_cases e: i=j
  · subst e
    rw [List.getElem?_set] at h
    simp at h
    exact .inl ⟨rfl,h.2.symm⟩
  · rw [List.getElem?_set_ne e] at h
    exact .inr ⟨fun e'=>e e'.symm,h⟩
theorem zam.stored {x: Str} {i: Nat} {sl: Slot} {v: Value} (e: zam C c env W O h ρ) (hi: idx c.σ x=some i)
    (other: ∀ y u,y ≠ x -> zbl h env C.n₀ y u -> zbl h' env C.n₀ y u) (own: zbl h' env C.n₀ x v)
    (keep: ∀ b o,C.n₀<=b -> ¬ W b -> h.get? b=some o -> h'.get? b=some o)
    (rest: ∀ y s u,y ≠ x -> zbl h env C.n₀ y u -> RepS C h W (fun b=>O b/\b ≠ env.locals) s u -> RepS C h' W (fun b=>O b/\b ≠ env.locals) s u)
    (ns: ∃ m,h'.Ns env.locals m) (cells: ∀ a u,O a -> h.IsCell a u -> ∃ u',h'.IsCell a u') (r: RepS C h' W (fun b=>O b/\b ≠ env.locals) sl v)
    (ap: sl.isOwn=true -> ∀ y j t,y ≠ x -> idx c.σ y=some j -> visK c.base j (c.sc.names.lookup y)=true -> ρ[j]? = some (some t) -> t.isOwn=true -> ¬ zbl h env C.n₀ y v): zam C c env W O h' (setR ρ i sl) where
  glob:=e.glob
  bui:=e.bui
  kind:=e.kind
  ow:=e.ow
  lo:=e.lo
  loc:=e.loc
  ns:=ns
  names:=e.names
  cells:=fun y hy=>by obtain ⟨a,u,h1,h2,h3⟩:=e.cells y hy; obtain ⟨u',h4⟩:=cells a u h2 h3; exact ⟨a,u',h1,h2,h4⟩
  cinj:=e.cinj
  top:=fun j t hj=>by
    rcases zbi hj with ⟨rfl,_⟩ | ⟨_,hj⟩
    · exact zfr hi
    · exact e.top j t hj
  vars:=fun y j t h1 h2 h3=>by
    rcases zbi h3 with ⟨rfl,rfl⟩ | ⟨hne,h3⟩
    · have:=zcq h1 hi; subst this
      exact ⟨v,own,r⟩
    · obtain ⟨u,a,b⟩:=e.vars y j t h1 h2 h3
      have hy: y ≠ x:=fun e'=>by subst e'; rw [hi] at h1; replace h1:=oj h1; subst h1; exact hne rfl
      exact ⟨u,other y u hy a,rest y t u hy a b⟩
  apart:=fun y z j k s t u h1 h2 k1 k2 h3 h4 h5 h6 h7 h8=>by
    rcases zbi h3 with ⟨rfl,rfl⟩ | ⟨hne,g3⟩
    · rcases zbi h4 with ⟨rfl,rfl⟩ | ⟨hne',h4⟩
      · rfl
      · have:=zcq h1 hi; subst this
        have hz: z ≠ y:=fun e'=>by subst e'; rw [h1] at h2; replace h2:=oj h2; subst h2; exact hne' rfl
        obtain ⟨w,a,_⟩:=e.vars z k t h2 k2 h4
        have e1:=h8.fn (other z w hz a)
        have e2:=h7.fn own
        subst e1
        subst e2
        exact absurd a (ap h5 z k t hz h2 k2 h4 h6)
    · have hy: y ≠ x:=fun e'=>by subst e'; rw [hi] at h1; replace h1:=oj h1; subst h1; exact hne rfl
      obtain ⟨w,a,_⟩:=e.vars y j s h1 k1 g3
      have e1:=h7.fn (other y w hy a)
      subst e1
      rcases zbi h4 with ⟨rfl,rfl⟩ | ⟨hne',h4⟩
      · have:=zcq h2 hi; subst this
        have e2:=h8.fn own
        subst e2
        exact absurd a (ap h6 y j s hy h1 k1 g3 h5)
      · have hz: z ≠ x:=fun e'=>by subst e'; rw [hi] at h2; replace h2:=oj h2; subst h2; exact hne' rfl
        obtain ⟨w',a',_⟩:=e.vars z k t h2 k2 h4
        have e2:=h8.fn (other z w' hz a')
        subst e2
        exact e.apart y z j k s t _ h1 h2 k1 k2 g3 h4 h5 h6 a a'
structure ExtO (C: CX) (O: Addr -> Prop) (s s': Shared): Prop where
  new: ∀ b o,C.n₀<=b -> ¬ O b -> s.heap.get? b=some o -> s'.heap.get? b=some o
  occ: ∀ b o,C.n₀<=b -> s.heap.get? b=some o -> ∃ o',s'.heap.get? b=some o'
  inv: C.Inv s.heap -> C.Inv s'.heap
  gens: s'.gens=s.gens
  drawn: s'.drawn=s.drawn
  os: s'.os=s.os
  toks: s.toks<=s'.toks
theorem Ext.toO {O: Addr -> Prop} {s s': Shared} (x: Ext C s s'): ExtO C O s s':=⟨fun b o hb _ e=>x.new b o hb e,fun b o hb e=>⟨o,x.new b o hb e⟩,x.inv,x.gens,x.drawn,x.os,x.toks⟩
theorem ExtO.trans {O: Addr -> Prop} {s s' s'': Shared} (x: ExtO C O s s') (y: ExtO C O s' s''): ExtO C O s s'':=
  ⟨fun b o hb ho e=>y.new b o hb ho (x.new b o hb ho e),fun b o hb e=>by obtain ⟨o',e'⟩:=x.occ b o hb e; exact y.occ b o' hb e',fun h=>y.inv (x.inv h),y.gens.trans x.gens,y.drawn.trans x.drawn,y.os.trans x.os,Nat.le_trans x.toks y.toks⟩
theorem ExtO.mono {O O': Addr -> Prop} {s s': Shared} (x: ExtO C O s s') (hO: ∀ b,O b -> O' b): ExtO C O' s s':=
  ⟨fun b o hb ho e=>x.new b o hb (fun h=>ho (hO b h)) e,x.occ,x.inv,x.gens,x.drawn,x.os,x.toks⟩
theorem At.extO {s s': Shared} (a: At C W s) (x: ExtO C O s s'): At C W s':=
  ⟨x.inv a.inv,fun b h=>by obtain ⟨lo,o,e⟩:=a.wocc b h; exact ⟨lo,x.occ b o lo e⟩,Nat.lt_of_lt_of_le a.tok x.toks⟩
theorem ExtO.sameBut {O: Addr -> Prop} {s: Shared} {a: Addr} {h': Heap} {k: Nat} (hs: Heap.SameBut a s.heap h') (hO: O a) (lo: C.n₀<=a) (occ: ∃ o',h'.get? a=some o') (nc: ∀ o,s.heap.get? a=some o -> ¬ zeo o) (hk: s.toks<=k): ExtO C O s { s with heap:=h',toks:=k } where
  new:=fun b o hb ho e=>(hs.2 b fun h=>ho (h ▸ hO)).trans e
  occ:=fun b o hb e=>by
    by_cases h: b=a
    · subst h; exact occ
    · exact ⟨o,(hs.2 b h).trans e⟩
  inv:=C.keepBut lo nc fun b o hb e=>(hs.2 b hb).trans e
  gens:=rfl
  drawn:=rfl
  os:=rfl
  toks:=hk
theorem zgc {h: Heap} {a b: Addr} {m: Str -> Option Value} {v: Option Value} (x: h.Ns a m) (y: h.IsCell b v): a ≠ b:=fun e=>by
  subst e
  obtain ⟨o,es,ep,ho,hd,_⟩:=x
  obtain ⟨o',ho',hd'⟩:=y
  rw [ho] at ho'; replace ho':=oj ho'; subst ho'
  rw [hd] at hd'; cases hd'
theorem zfs {h: Heap} {a b: Addr} {v: Option Value} {vs: List Value} {n: Nat} (x: h.get? a=some (za5 vs n)) (y: h.IsCell b v): a ≠ b:=fun e=>by
  subst e
  obtain ⟨o,ho,hd⟩:=y
  rw [x] at ho; replace ho:=oj ho; subst ho; cases hd
theorem zft {h: Heap} {a b: Addr} {v: Option Value} {l: List (Str × Value)} (x: h.DictOf (strKind C.prog C.w) a l) (y: h.IsCell b v): a ≠ b:=fun e=>by
  subst e
  obtain ⟨o,ho,hd⟩:=y
  obtain ⟨o',e1,e2,ho',_,hd',_⟩:=x
  rw [ho] at ho'; replace ho':=oj ho'; subst ho'
  rw [hd] at hd'; cases hd'
noncomputable def OWr (c: CE) (env: Env) (b: Addr): Prop:=b=env.locals \/ ∃ x,c.sc.names.lookup x=some .cell/\env.cells.lookup x=some b
theorem zam.owr (e: zam C c env W O h ρ) {b: Addr} (hb: OWr c env b): O b:=by
  rcases hb with rfl | ⟨x,h1,h2⟩
  · exact e.loc
  · obtain ⟨a,v,g1,g2,_⟩:=e.cells x (.inl h1)
    rw [h2] at g1; replace g1:=oj g1; subst g1; exact g2
theorem zjl {s: Shared} {A: Around} {M: Model} {x: Str} {i: Nat} {sl: Slot} {v: Value} {Q: Unit -> Shared -> Prop} {E: Value -> Shared -> Prop} (e: zam C c env W O s.heap ρ) (hi: idx c.σ x=some i)
    (hk: c.sc.names.lookup x=some .local \/ c.sc.names.lookup x=some .cell) (r: RepS C s.heap W (fun b=>O b/\b ≠ env.locals) sl v)
    (ap: sl.isOwn=true -> ∀ y j t,y ≠ x -> idx c.σ y=some j -> visK c.base j (c.sc.names.lookup y)=true -> ρ[j]? = some (some t) -> t.isOwn=true -> ¬ zbl s.heap env C.n₀ y v)
    (q: ∀ s',ExtO C (OWr c env) s s' -> zam C c env W O s'.heap (setR ρ i sl) -> zbl s'.heap env C.n₀ x v -> Q () s'): wpAny M A (storeName env x v) Q E s:=by
  obtain ⟨m,hn⟩:=e.ns
  have hp: (env.scope.kind == .class || (env.scope.kind == .module && env.locals != env.globals))=false:=by rw [e.kind]; rfl
  have repKeep: ∀ {h': Heap} {a₀: Addr} {y: Slot} {u: Value},Heap.SameBut a₀ s.heap h' -> O a₀ -> (∀ a vs n,s.heap.get? a=some (za5 vs n) -> a ≠ env.locals -> a ≠ a₀) ->
      (∀ a l,s.heap.DictOf (strKind C.prog C.w) a l -> a ≠ env.locals -> a ≠ a₀) -> RepS C s.heap W (fun b=>O b/\b ≠ env.locals) y u -> RepS C h' W (fun b=>O b/\b ≠ env.locals) y u:=fun {h' a₀ y u} hs hO h1 h2 hr=>by
    have hS: Stay C s.heap h' W W:=fun b o hb hw eb=>⟨(hs.2 b fun h=>hw (e.ow _ (h ▸ hO))).trans eb,hw⟩
    induction hr with
    | val r=>exact .val (Rep.stay hS _ _ r)
    | own w lo l r z=>exact .own w lo ((hs.2 _ (h1 _ _ _ l w.2)).trans l) (RepL.stay hS _ _ r) z
    | ownD w lo g r=>
      have hne:=h2 _ _ g w.2
      obtain ⟨o,e1,e2,ho,hr⟩:=g
      exact .ownD w lo ⟨o,e1,e2,(hs.2 _ hne).trans ho,hr⟩ (RepD.stay hS _ _ r)
  rcases hk with hk | hk
  · have k: env.kindOf x=some .local:=by
      rcases e.names x with h | ⟨h,_⟩ | h
      · exact h.trans hk
      · rw [hk] at h; cases h
      · rw [hk] at h; cases h
    refine wpAny_storeName_local k hn (fun h' hn' hs=>?_) hp
    have ex: ExtO C (OWr c env) s { s with heap:=h',toks:=s.toks + 1 }:=.sameBut hs (.inl rfl) (e.lo _ e.loc) (by obtain ⟨o,_,_,ho,_⟩:=hn'; exact ⟨o,ho⟩) (fun o eo=>z3d hn eo) (Nat.le_succ _)
    have rk: ∀ {y u},RepS C s.heap W (fun b=>O b/\b ≠ env.locals) y u -> RepS C h' W (fun b=>O b/\b ≠ env.locals) y u:=fun hr=>repKeep hs e.loc (fun _ _ _ _ h=>h) (fun _ _ _ h=>h) hr
    refine q _ ex (e.stored (v:=v) hi ?_ (.loc k hn' (by simp)) ?_ (fun y t u hy _ hr=>rk hr) ⟨_,hn'⟩ ?_ (rk r) ap) (.loc k hn' (by simp))
    · intro y u hy hv
      induction hv with
      | loc k' n' e'=>
        have:=zzt hn n'; subst this
        exact .loc k' hn' (by simp [hy,e'])
      | cell k' l lo i'=>
        obtain ⟨o,ho,hd⟩:=i'
        exact .cell k' l lo ⟨o,(hs.2 _ (Ne.symm (zgc hn ⟨o,ho,hd⟩))).trans ho,hd⟩
    · intro b o hb hw eb
      exact (hs.2 b fun h=>hw (e.ow _ (h ▸ e.loc))).trans eb
    · intro a u _ ⟨o,ho,hd⟩
      exact ⟨u,o,(hs.2 _ (Ne.symm (zgc hn ⟨o,ho,hd⟩))).trans ho,hd⟩
  · have k: env.kindOf x=some .cell:=by
      rcases e.names x with h | ⟨h,_⟩ | h
      · exact h.trans hk
      · rw [hk] at h; cases h
      · rw [hk] at h; cases h
    obtain ⟨a,u₀,g1,g2,g3⟩:=e.cells x (.inl hk)
    refine wpAny_storeName_cell e.kind k g1 g3 fun h' hc hs=>?_
    have ex: ExtO C (OWr c env) s { s with heap:=h',toks:=s.toks }:=.sameBut hs (.inr ⟨x,hk,g1⟩) (e.lo _ g2) (by obtain ⟨o,ho,_⟩:=hc; exact ⟨o,ho⟩) (fun o eo=>z0k g3 eo) (Nat.le_refl _)
    have rk: ∀ {y u},RepS C s.heap W (fun b=>O b/\b ≠ env.locals) y u -> RepS C h' W (fun b=>O b/\b ≠ env.locals) y u:=fun hr=>repKeep hs g2 (fun _ _ _ h _=>zfs h g3) (fun _ _ h _=>zft h g3) hr
    refine q _ ex (e.stored (v:=v) hi ?_ (.cell (.inl k) g1 (e.lo _ g2) hc) ?_ (fun y t u hy _ hr=>rk hr) ?_ ?_ (rk r) ap) (.cell (.inl k) g1 (e.lo _ g2) hc)
    · intro y u hy hv
      induction hv with
      | loc k' n' e'=>
        obtain ⟨o,es,ep,ho,rr⟩:=n'
        exact .loc k' ⟨o,es,ep,(hs.2 _ (zgc ⟨o,es,ep,ho,rr⟩ g3)).trans ho,rr⟩ e'
      | cell k' l lo i'=>
        obtain ⟨o,ho,hd⟩:=i'
        have hne: ∀ {b},env.cells.lookup y=some b -> b ≠ a:=fun hl h=>by subst h; exact hy (e.cinj _ _ _ hl g1)
        exact .cell k' l lo ⟨o,(hs.2 _ (hne l)).trans ho,hd⟩
    · intro b o hb hw eb
      exact (hs.2 b fun h=>hw (e.ow _ (h ▸ g2))).trans eb
    · obtain ⟨o,es,ep,ho,rr⟩:=hn
      exact ⟨m,o,es,ep,(hs.2 _ (zgc ⟨o,es,ep,ho,rr⟩ g3)).trans ho,rr⟩
    · intro b u _ ⟨o,ho,hd⟩
      by_cases hb: b=a
      · subst hb; exact ⟨_,hc⟩
      · exact ⟨u,o,(hs.2 _ hb).trans ho,hd⟩
theorem zbn {s: Shared} {A: Around} {M: Model} {x: Str} {i: Nat} {sl: Slot} {v: Value} {Q: Unit -> Shared -> Prop} {E: Value -> Shared -> Prop} (e: zam C c env W O s.heap ρ) (hi: idx c.σ x=some i)
    (hk: c.sc.names.lookup x=some .local \/ c.sc.names.lookup x=some .cell) (r: RepS C s.heap W (fun b=>O b/\b ≠ env.locals) sl v)
    (ap: sl.isOwn=true -> ∀ y j t,y ≠ x -> idx c.σ y=some j -> visK c.base j (c.sc.names.lookup y)=true -> ρ[j]? = some (some t) -> t.isOwn=true -> ¬ zbl s.heap env C.n₀ y v)
    (q: ∀ s',ExtO C (OWr c env) s s' -> zam C c env W O s'.heap (setR ρ i sl) -> Q () s'): wpAny M A (storeName env x v) Q E s:=zjl e hi hk r ap fun s' h1 h2 _=>q s' h1 h2
end
end Mine
namespace Mine
open PySem PySem.Calls PyProof.Rows
inductive Src (C: CX) (A: Around) (W: Addr -> Prop) (h: Heap) (I: Addr): Bool -> List Addr -> List Addr -> List PV -> (Nat -> Heap -> Prop) -> Prop
  | one {fp wr: List Addr} {n: Nat} {P: Nat -> Value -> Prop} {St: Nat -> Heap -> Prop} {items: List PV} (w: Walks C.prog C.w A I fp wr n P St) (hn: n=items.length) (live: ∀ i h,St i h -> ∀ b ∈ wr,∃ o,h.get? b=some o /\ ¬ zeo o)
      (rep: ∀ i v,i < n -> P i v -> ∃ x,items[i]? = some x/\Rep C h W x v): Src C A W h I true fp wr items St
  | many {fp wr: List Addr} {n: Nat} {Pt: Nat -> Array Value -> Prop} {St: Nat -> Heap -> Prop} {Mid: Nat -> Addr -> Heap -> Prop} {items: List PV} (w: WalksU C.prog C.w A I fp wr n Pt St Mid) (hn: n=items.length) (live: ∀ i h,St i h -> ∀ b ∈ wr,∃ o,h.get? b=some o /\ ¬ zeo o)
      (rep: ∀ i vals,i < n -> Pt i vals -> ∃ ps,items[i]? = some (.tuple ps)/\RepL C h W ps vals.toList): Src C A W h I false fp wr items St
section
variable {C: CX} {A: Around} {W W' O: Addr -> Prop} {h h': Heap} {I: Addr} {single: Bool} {fp wr: List Addr} {items: List PV} {St: Nat -> Heap -> Prop}
theorem Src.stay (x: Src C A W h I single fp wr items St) (k: Stay C h h' W W'): Src C A W' h' I single fp wr items St:=by
  induction x with
  | one w hn live rep=>exact .one w hn live fun i v hi hp=>by obtain ⟨y,h1,h2⟩:=rep i v hi hp; exact ⟨y,h1,Rep.stay k _ _ h2⟩
  | many w hn live rep=>exact .many w hn live fun i v hi hp=>by obtain ⟨y,h1,h2⟩:=rep i v hi hp; exact ⟨y,h1,RepL.stay k _ _ h2⟩
theorem Src.frame (x: Src C A W h I single fp wr items St) {i: Nat} {h₁ h₂: Heap} (st: St i h₁) (k: ∀ b ∈ fp,∀ o,h₁.get? b=some o -> h₂.get? b=some o): St i h₂:=by
  induction x with
  | one w hn live rep=>exact w.frame _ _ _ st k
  | many w hn live rep=>exact w.frame _ _ _ st k
theorem Src.sub (x: Src C A W h I single fp wr items St): ∀ b ∈ wr,b ∈ fp:=by
  induction x with
  | one w hn live rep=>exact w.sub
  | many w hn live rep=>exact w.sub
theorem Src.self (x: Src C A W h I single fp wr items St) {i: Nat} {s: Shared} {Q E: Value -> Shared -> Prop} (st: St i s.heap) (q: Q (.ref I) s): wpAny (model C.prog C.w) A (pyIter (.ref I)) Q E s:=by
  induction x with
  | one w hn live rep=>exact w.self i s Q E st q
  | many w hn live rep=>exact w.self i s Q E st q
theorem Src.live' (x: Src C A W h I single fp wr items St) {i: Nat} {h₁: Heap} (st: St i h₁): ∀ b ∈ wr,∃ o,h₁.get? b=some o /\ ¬ zeo o:=by
  induction x with
  | one w hn live rep=>exact live _ _ st
  | many w hn live rep=>exact live _ _ st
theorem Src.live (x: Src C A W h I single fp wr items St) {i: Nat} {h₁: Heap} (st: St i h₁): ∀ b ∈ wr,∃ o,h₁.get? b=some o:=fun b hb=>by obtain ⟨o,e,_⟩:=x.live' st b hb; exact ⟨o,e⟩
theorem Src.low (x: Src C A W h I single fp wr items St) {i: Nat} {h₁: Heap} (st: St i h₁) (lo: ∀ b ∈ fp,C.n₀<=b) {b: Addr} {o: Obj} (hb: b < C.n₀ \/ zeo o) (e: h₁.get? b=some o): b ∉ wr:=fun hm=>by
  rcases hb with hb | hb
  · exact Nat.lt_irrefl _ (Nat.lt_of_lt_of_le hb (lo b (x.sub b hm)))
  · obtain ⟨o',e',hc⟩:=x.live' st b hm
    rw [e] at e'; replace e':=oj e'; subst e'; exact hc hb
structure ExtN (C: CX) (O N: Addr -> Prop) (s s': Shared): Prop where
  new: ∀ b o,C.n₀<=b -> ¬ O b -> ¬ N b -> s.heap.get? b=some o -> s'.heap.get? b=some o
  occ: ∀ b o,C.n₀<=b -> ¬ N b -> s.heap.get? b=some o -> ∃ o',s'.heap.get? b=some o'
  inv: C.Inv s.heap -> C.Inv s'.heap
  gens: s'.gens=s.gens
  drawn: s'.drawn=s.drawn
  os: s'.os=s.os
  toks: s.toks<=s'.toks
theorem ExtO.toN {O N: Addr -> Prop} {s s': Shared} (x: ExtO C O s s'): ExtN C O N s s':=⟨fun b o h1 h2 _ e=>x.new b o h1 h2 e,fun b o h1 _ e=>x.occ b o h1 e,x.inv,x.gens,x.drawn,x.os,x.toks⟩
theorem ExtN.trans {O N: Addr -> Prop} {s s' s'': Shared} (x: ExtN C O N s s') (y: ExtN C O N s' s''): ExtN C O N s s'':=
  ⟨fun b o h1 h2 h3 e=>y.new b o h1 h2 h3 (x.new b o h1 h2 h3 e),fun b o h1 h3 e=>by obtain ⟨o',e'⟩:=x.occ b o h1 h3 e; exact y.occ b o' h1 h3 e',fun h=>y.inv (x.inv h),y.gens.trans x.gens,y.drawn.trans x.drawn,y.os.trans x.os,Nat.le_trans x.toks y.toks⟩
theorem ExtN.mono {O O' N N': Addr -> Prop} {s s': Shared} (x: ExtN C O N s s') (h1: ∀ b,O b -> O' b) (h2: ∀ b,N b -> N' b): ExtN C O' N' s s':=
  ⟨fun b o a1 a2 a3 e=>x.new b o a1 (fun h=>a2 (h1 b h)) (fun h=>a3 (h2 b h)) e,fun b o a1 a3 e=>x.occ b o a1 (fun h=>a3 (h2 b h)) e,x.inv,x.gens,x.drawn,x.os,x.toks⟩
theorem ExtN.drop {O N: Addr -> Prop} {s s₁ s₂: Shared} (x: ExtO C O s s₁) (y: ExtN C O N s₁ s₂) (hN: ∀ b,N b -> s.heap.get? b=none): ExtO C O s s₂:=
  ⟨fun b o h1 h2 e=>y.new b o h1 h2 (fun hn=>by rw [hN b hn] at e; exact zae e) (x.new b o h1 h2 e),
   fun b o h1 e=>by obtain ⟨o',e'⟩:=x.occ b o h1 e; exact y.occ b o' h1 (fun hn=>by rw [hN b hn] at e; exact zae e) e',fun h=>y.inv (x.inv h),y.gens.trans x.gens,y.drawn.trans x.drawn,y.os.trans x.os,Nat.le_trans x.toks y.toks⟩
structure SrcAt (C: CX) (W O: Addr -> Prop) (h: Heap) (fp wr: List Addr): Prop where
  w: ∀ b ∈ wr,W b /\ ¬ O b
  f: ∀ b ∈ fp,C.n₀<=b/\(b ∈ wr \/ ¬ W b)
inductive zbp: List Expr -> List Str -> Prop
  | nil: zbp [] []
  | cons {x: Str} {p: Pos} {es: List Expr} {xs: List Str}: zbp es xs -> zbp (.Name x p :: es) (x :: xs)
inductive zpn: Expr -> List Str -> Bool -> Prop
  | one {x: Str} {p: Pos}: zpn (.Name x p) [x] true
  | many {es: List Expr} {xs: List Str} {k: Nat} {p: Pos}: zbp es xs -> zpn (.Tuple es k p) xs false
inductive Places (c: CE): List Str -> List Nat -> Prop
  | nil: Places c [] []
  | cons {x: Str} {i: Nat} {xs: List Str} {is: List Nat}: idx c.σ x=some i -> (c.sc.names.lookup x=some .local \/ c.sc.names.lookup x=some .cell) -> Places c xs is -> Places c (x :: xs) (i :: is)
variable {c: CE} {env: Env} {ρ ρ': Rho} {s: Shared}
theorem ExtO.stay {O: Addr -> Prop} {s s': Shared} (x: ExtO C O s s') (hO: ∀ b,O b -> W b): Stay C s.heap s'.heap W W:=fun b o hb hw e=>⟨x.new b o hb (fun h=>hw (hO b h)) e,hw⟩
theorem zbp.star {es: List Expr} {xs: List Str} (h: zbp es xs) (env: Env): (assignEach es env).length=xs.length/\(assignEach es env).findIdx? (·.1)=none:=by
  induction h with
  | nil=>exact ⟨rfl,rfl⟩
  | cons _ ih=>
    refine ⟨?_,?_⟩
    · show ((false,_) :: assignEach _ env).length=_
      simp [ih.1]
    · show ((false,_) :: assignEach _ env).findIdx? (·.1)=none
      rw [List.findIdx?_cons]
      simp [ih.2]
theorem zix {E: Value -> Shared -> Prop} {es: List Expr} {xs: List Str} (hn: zbp es xs): ∀ {ts: List Nat} {ps: List PV} {vals: List Value} {s: Shared} {ρ ρ': Rho} {Q: Unit -> Shared -> Prop},Places c xs ts -> zam C c env W O s.heap ρ ->
    RepL C s.heap W ps vals -> zcw ts ps ρ=some ρ' -> (∀ s',ExtO C (OWr c env) s s' -> zam C c env W O s'.heap ρ' -> Q () s') -> wpAny (model C.prog C.w) A (assignInOrder ((assignEach es env).map (·.2)) vals) Q E s:=by
  induction hn with
  | nil=>
    intro ts ps vals s ρ ρ' Q hp ev hr hb q
    cases hp
    induction ps with
    | nil=>
      replace hb:=oj hb; subst hb
      obtain rfl:=za6 hr
      exact wpAny_pure (q s (Ext.refl s).toO ev)
    | cons _ _=>exact zae hb
  | cons h ih=>
    intro ts ps vals s ρ ρ' Q hp ev hr hb q
    cases hp with
    | cons hi hk hrest=>
      cases ps with
      | nil=>exact zae hb
      | cons p ps=>
        obtain ⟨v,u,rfl,hv,hu⟩:=zat hr
        show wpAny _ A (do holding u (assign _ env v); assignInOrder _ u) Q E s
        refine wpAny_bind (wpAny_holding (wpAny_assign_Name (zbn ev hi hk (.val hv) (fun h=>by exact ft h) fun s₁ e₁ ev₁=>?_)))
        exact ih hrest ev₁ (RepL.stay (e₁.stay fun b hb=>ev.ow b (ev.owr hb)) _ _ hu) hb fun s₂ e₂ ev₂=>q s₂ (e₁.trans e₂) ev₂
theorem zh0 {xs: List Str} {ts: List Nat} (hp: Places c xs ts): ∀ {ps: List PV} {ρ ρ': Rho},zcw ts ps ρ=some ρ' -> xs.length=ps.length:=by
  induction hp with
  | nil=>intro ps ρ ρ' h; induction ps with
    | nil=>rfl
    | cons _ _=>exact zae h
  | cons _ _ _ ih=>intro ps ρ ρ' h; induction ps with
    | nil=>exact zae h
    | cons p ps=>simp [ih h]
theorem zn7 {E: Value -> Shared -> Prop} {tgt: Expr} {xs: List Str} {ts: List Nat} {i: Nat} {x: PV} {Q: Shared -> Prop} (hh: A.handled=none) (src: Src C A W s.heap I single fp wr items St) (sa: SrcAt C W O s.heap fp wr) (ev: zam C c env W O s.heap ρ) (at': At C W s) (st: St i s.heap)
    (hx: items[i]? = some x) (ht: zpn tgt xs single) (hp: Places c xs ts) (hb: zbb ts single x ρ=some ρ')
    (q: ∀ s',ExtN C (OWr c env) (· ∈ wr) s s' -> zam C c env W O s'.heap ρ' -> St (i + 1) s'.heap -> Q s') :
    wpAny (model C.prog C.w) A (pyNext (.ref I)) (fun r s₁=>match r with
      | none=>False
      | some v=>wpAny (model C.prog C.w) A (letOwnedTupleGo tgt (.ref I) v) (fun _ s₂=>wpAny (model C.prog C.w) A (assign tgt env v) (fun _ s₃=>Q s₃) E s₂) E s₁) E s:=by
  have hi: i < items.length:=(List.getElem?_eq_some_iff.mp hx).1
  have moved: ∀ {h': Heap} {k: Nat},s.toks<=k -> (∀ b o,b ∉ wr -> s.heap.get? b=some o -> h'.get? b=some o) -> ExtN C (OWr c env) (· ∈ wr) s { s with heap:=h',toks:=k }:=fun {h' k} hk hkeep=>
    ⟨fun b o _ _ hn e=>hkeep b o hn e,fun b o _ hn e=>⟨o,hkeep b o hn e⟩,C.keep fun b o hb e=>hkeep b o (src.low st (fun b hb=>(sa.f b hb).1) hb e) e,rfl,rfl,rfl,hk⟩
  have evm: ∀ {h': Heap},(∀ b o,b ∉ wr -> s.heap.get? b=some o -> h'.get? b=some o) -> zam C c env W O h' ρ:=fun {h'} hkeep=>
    ev.move (fun b o _ hb e=>hkeep b o (fun hm=>by rcases hb with hb | hb; exact hb (sa.w b hm).1; exact (sa.w b hm).2 hb) e) ev.ow fun b hb=>.inl hb
  have stm: ∀ {h': Heap},(∀ b o,b ∉ wr -> s.heap.get? b=some o -> h'.get? b=some o) -> Stay C s.heap h' W W:=fun {h'} hkeep b o _ hw e=>⟨hkeep b o (fun hm=>hw (sa.w b hm).1) e,hw⟩
  have fpO: ∀ b ∈ fp,¬ O b:=fun b hb ho=>by
    rcases (sa.f b hb).2 with h1 | h1
    · exact (sa.w b h1).2 ho
    · exact h1 (ev.ow b ho)
  cases src with
  | one w hn live rep=>
    cases ht with
    | one=>
      rename_i y px
      cases hp with
      | cons hi' hk hrest=>
        cases hrest
        simp only [zbb,if_true,pE] at hb
        replace hb:=oj hb; subst hb
        refine wpAny_with_toks (Nat.le_refl s.toks) (w.item i s _ _ (hn ▸ hi) st fun v h' tk hPv st' hkeep htk=>?_)
        obtain ⟨x',hx',hr⟩:=rep i v (hn ▸ hi) hPv
        rw [hx] at hx'; replace hx':=oj hx'; subst hx'
        refine wpAny_pure (wpAny_assign_Name (zbn (evm hkeep) hi' hk (.val (Rep.stay (stm hkeep) _ _ hr)) (fun h=>by exact ft h) fun s₃ e₃ ev₃=>?_))
        refine q s₃ ((moved htk hkeep).trans e₃.toN) ev₃ (w.frame _ _ _ st' fun b hb' o e=>e₃.new b o (sa.f b hb').1 (fun h=>fpO b hb' (ev.owr h)) e)
  | many w hn live rep=>
    cases ht with
    | many hnames=>
      rename_i es k px
      refine wpAny_with_toks (Nat.le_refl s.toks) (w.item i s _ _ (hn ▸ hi) st fun T vals h' tk hPv hT hM hkeep htk=>?_)
      obtain ⟨ps,hx',hr⟩:=rep i vals (hn ▸ hi) hPv
      rw [hx] at hx'; replace hx':=oj hx'; subst hx'
      simp only [zbb,Bool.false_eq_true,if_false] at hb
      refine w.go es k px i T _ _ _ hM fun h'' st'' hkeep'=>?_
      have hT': h''.IsTuple T vals:=by
        obtain ⟨o,ho,r⟩:=hT
        exact ⟨o,hkeep' T o (w.apart _ _ _ hM) ho,r⟩
      have hlen: (assignEach es env).length=vals.size:=by
        rw [(hnames.star env).1]
        have h1:=hr.length
        have h2:=zh0 hp hb
        rw [h2,<- h1]; simp
      refine wpAny_assign_Tuple hh hT' hlen (hnames.star env).2 fun h₃ hx₃=>?_
      have hkeep3: ∀ b o,b ∉ wr -> s.heap.get? b=some o -> h₃.get? b=some o:=fun b o hb' e=>by
        have e2:=hkeep' b o hb' (hkeep b o hb' e)
        exact hx₃ b o (fun h=>by subst h; exact Nat.lt_irrefl _ (Heap.lt_size e2)) e2
      have st3: St (i + 1) h₃:=w.frame _ _ _ st'' fun b hb' o e=>hx₃ b o (fun h=>by subst h; exact Nat.lt_irrefl _ (Heap.lt_size e)) e
      refine zix hnames hp (evm hkeep3) (RepL.stay (stm hkeep3) _ _ hr) hb fun s₄ e₄ ev₄=>?_
      refine q s₄ ((moved htk hkeep3).trans e₄.toN) ev₄ (w.frame _ _ _ st3 fun b hb' o e=>e₄.new b o (sa.f b hb').1 (fun h=>fpO b hb' (ev.owr h)) e)
end
noncomputable def SIv (c: CE) (e: Expr) (x: PI) (single: Bool): Prop:=∀ (C: CX) (G: GT) (K: Nat) (_: FnOk C G K) (env: Env) (W O: Addr -> Prop) (s: Shared) (ρ: Rho) (A: Around) (items: List PV),zam C c env W O s.heap ρ -> At C W s -> Room A K ->
    zen G x ρ=some items -> (single || items.all isTup)=true -> ∀ (Q: Value -> Shared -> Prop) (E: Value -> Shared -> Prop),
    (∀ I s' fp wr St,Ext C s s' -> Src C A (fun b=>W b \/ b ∈ wr) s'.heap I single fp wr items St -> St 0 s'.heap -> (∀ b ∈ wr,C.n₀<=b/\s.heap.get? b=none) -> (∀ b ∈ fp,C.n₀<=b/\(b ∈ wr \/ ¬ W b)) -> (∀ b ∈ fp,∃ o,s'.heap.get? b=some o) -> Q (.ref I) s') ->
    wpAny (model C.prog C.w) A (eval e env) (fun v s₁=>wpAny (model C.prog C.w) A (pyIter v) Q E s₁) E s
structure SI (c: CE) (e: Expr) (x: PI) (single: Bool): Prop where
  v: SIv c e x single
  f: ∀ env y,foldedSetIterable e env y=pure y
noncomputable def zh1 (e: Expr): Bool:=!Nat.beq e.ctorIdx 7
theorem zd7 {e: Expr} (h: zh1 e=true) (env: Env) (y: Value): foldedSetIterable e env y=pure y:=by
  cases e <;> first | rfl | exact ft h
section
variable {C: CX} {A: Around} {W: Addr -> Prop} {s: Shared}
theorem zar {h: Heap}: h.get? h.objs.size=none:=by
  cases hh: h.get? h.objs.size with
  | none=>rfl
  | some o=>exact absurd (Heap.lt_size hh) (Nat.lt_irrefl _)
theorem zcd {o: Obj}: Ext C s { s with heap:=s.heap.push o }:=⟨.push _ _,Nat.le_refl _⟩
theorem zcy {P: Addr -> Prop} {a: Addr} (h: P a): ∀ x ∈ [a],P x:=fun _ hx=>List.mem_singleton.mp hx ▸ h
theorem zpo {P: Addr -> Prop} {a: Addr} {l: List Addr} (h: P a) (k: ∀ x ∈ l,P x): ∀ x ∈ a :: l,P x:=fun x hx=>by
  rcases List.mem_cons.mp hx with e | hx
  · rw [e]; exact h
  · exact k x hx
theorem zd8 {P: Addr -> Prop} {a b: Addr} (h: P a) (k: P b): ∀ x ∈ [a,b],P x:=zpo h (zcy k)
theorem zpp {o: Obj}: Stay C s.heap (s.heap.push o) W (fun b=>W b \/ b ∈ [s.heap.objs.size]):=
  Stay.grow (fun b o _ e=>Heap.get?_push_of_some _ e) fun b hb=>hb.imp_right (zcy (P:=fun b=>s.heap.get? b=none) zar b)
theorem z00 {o: Obj} {xs: List PV} {vs: List Value} (hl: RepL C s.heap W xs vs): RepL C (s.heap.push o) (fun b=>W b \/ b ∈ [s.heap.objs.size]) xs vs:=RepL.stay zpp _ _ hl
theorem zmz {h h': Heap} {W W': Addr -> Prop} {items: List PV} {vs: List Value} (hl: RepL C h W items vs) (k: Stay C h h' W W') (i: Nat) (v: Value) (_: i < vs.toArray.size) (hv: vs.toArray[i]? = some v): ∃ x,items[i]? = some x/\Rep C h' W' x v:=by
  have hv': vs[i]? = some v:=by simpa using hv
  have hi: i < items.length:=hl.length ▸ (List.getElem?_eq_some_iff.mp hv').1
  obtain ⟨w,h1,h2⟩:=hl.get i (List.getElem?_eq_getElem hi)
  rw [hv'] at h1
  exact ⟨_,List.getElem?_eq_getElem hi,Rep.stay k _ _ (oj h1 ▸ h2)⟩
theorem ziy {items: List PV} {vs: List Value} {h: Heap} (hl: RepL C h W items vs): vs.toArray.size=items.length:=hl.length
theorem zq7 {items: List PV} {vs: List Value} {l: Addr} {o lo: Obj} {st: Nat -> Heap -> Prop} (a: At C W s) (hl: RepL C s.heap W items vs) (hfr: o.isFreed=false) (ho: s.heap.get? l=some lo) (hn: C.n₀<=l) (hw: ¬ W l)
    (w: Walks C.prog C.w A s.heap.objs.size [s.heap.objs.size,l] [s.heap.objs.size] vs.toArray.size (fun i v=>vs.toArray[i]? = some v) st)
    (live: ∀ i h,st i h -> ∃ o,h.get? s.heap.objs.size=some o /\ ¬ zeo o) (h0: st 0 (s.heap.push o)) {Q: Value -> Shared -> Prop}
    (q: ∀ I s' fp wr St,Ext C s s' -> Src C A (fun b=>W b \/ b ∈ wr) s'.heap I true fp wr items St -> St 0 s'.heap -> (∀ b ∈ wr,C.n₀<=b/\s.heap.get? b=none) -> (∀ b ∈ fp,C.n₀<=b/\(b ∈ wr \/ ¬ W b)) -> (∀ b ∈ fp,∃ o,s'.heap.get? b=some o) -> Q (.ref I) s') :
    Q (.ref s.heap.objs.size) { s with heap:=s.heap.push o }:=
  q _ _ _ _ _ zcd (.one w (ziy hl) (fun i h k=>zcy (live i h k)) (zmz hl zpp)) h0 (zcy ⟨a.low,zar⟩)
    (zd8 ⟨a.low,.inl List.mem_cons_self⟩ ⟨hn,.inr hw⟩) (zd8 ⟨_,Heap.get?_push_size _ hfr⟩ ⟨_,Heap.get?_push_of_some _ ho⟩)
theorem zq8 {y: Str} {t: Tok} (hh: A.handled=none) (a: At C W s) {Q E: Value -> Shared -> Prop}
    (q: ∀ I s' fp wr St,Ext C s s' -> Src C A (fun b=>W b \/ b ∈ wr) s'.heap I true fp wr (zbt y) St -> St 0 s'.heap -> (∀ b ∈ wr,C.n₀<=b/\s.heap.get? b=none) -> (∀ b ∈ fp,C.n₀<=b/\(b ∈ wr \/ ¬ W b)) -> (∀ b ∈ fp,∃ o,s'.heap.get? b=some o) -> Q (.ref I) s') :
    wpAny (model C.prog C.w) A (pyIter (.str y t)) Q E s:=by
  have rep: ∀ {h: Heap} (i: Nat) (v: Value),i < y.cps.size -> SignAt y i v -> ∃ x,(zbt y)[i]? = some x/\Rep C h (fun b=>W b \/ b ∈ [s.heap.objs.size]) x v:=fun i v _ z=>by
    obtain ⟨c,u,hc,hv⟩:=z
    refine ⟨.str ⟨#[c]⟩,?_,by subst hv; exact zco (by show 1<=_; decide)⟩
    simp only [zbt,List.getElem?_map]
    have: y.cps.toList[i]? = some c:=by simpa using hc
    rw [this]; rfl
  have hz: y.cps.size=(zbt y).length:=by simp [zbt]
  have hw:=zcy (P:=fun b=>C.n₀<=b/\s.heap.get? b=none) ⟨a.low,zar⟩
  have hfp:=zcy (P:=fun b=>C.n₀<=b/\(b ∈ [s.heap.objs.size] \/ ¬ W b)) ⟨a.low,.inl List.mem_cons_self⟩
  cases ha: y.cps.all (· < 128)
  · exact wpAny_pyIter_wide ha (q _ _ _ _ _ zcd (.one (Walks.strWide hh _ y t) hz (fun i h st=>zcy (by obtain ⟨o,ho,hc,_⟩:=st; exact ⟨o,ho,zfl hc (by decide)⟩)) rep)
      ⟨_,Heap.get?_push_size _ rfl,rfl,rfl⟩ hw hfp (zcy ⟨_,Heap.get?_push_size _ rfl⟩))
  · exact wpAny_pyIter_ascii ha (q _ _ _ _ _ zcd (.one (Walks.strAscii hh _ y t) hz (fun i h st=>zcy (by obtain ⟨o,ho,hc,_⟩:=st; exact ⟨o,ho,zfl hc (by decide)⟩)) rep)
      ⟨_,Heap.get?_push_size _ rfl,rfl,rfl⟩ hw hfp (zcy ⟨_,Heap.get?_push_size _ rfl⟩))
theorem zxg {x: PV} {items: List PV} {v: Value} (hh: A.handled=none) (a: At C W s) (e: zj6 x=some items) (rx: Rep C s.heap W x v) {Q E: Value -> Shared -> Prop}
    (q: ∀ I s' fp wr St,Ext C s s' -> Src C A (fun b=>W b \/ b ∈ wr) s'.heap I true fp wr items St -> St 0 s'.heap -> (∀ b ∈ wr,C.n₀<=b/\s.heap.get? b=none) -> (∀ b ∈ fp,C.n₀<=b/\(b ∈ wr \/ ¬ W b)) -> (∀ b ∈ fp,∃ o,s'.heap.get? b=some o) -> Q (.ref I) s') :
    wpAny (model C.prog C.w) A (pyIter v) Q E s:=by
  cases x with
  | list xs=>
    obtain ⟨l,vs,n,rfl,hw,hn,ho,hl,hz⟩:=zbg rx; replace e:=oj e; subst e
    have hL: s.heap.IsList l vs.toArray:=⟨_,ho,rfl,_,rfl⟩
    exact wpAny_pyIter_list hL (zq7 a hl rfl ho hn hw (Walks.list hh _ l (Nat.ne_of_lt (Heap.lt_size ho)) vs.toArray) (fun i h st=>by obtain ⟨o,ho,hc,_⟩:=st.1; exact ⟨o,ho,zfl hc (by decide)⟩)
      ⟨⟨_,Heap.get?_push_size _ rfl,rfl,rfl⟩,hL.push _⟩ q)
  | tuple xs=>
    obtain ⟨l,vs,n,rfl,hw,hn,ho,hl⟩:=zdz rx; replace e:=oj e; subst e
    have hL: s.heap.IsTuple l vs.toArray:=⟨_,ho,rfl,_,rfl⟩
    exact wpAny_pyIter_tuple hL (zq7 a hl rfl ho hn hw (Walks.tuple hh _ l (Nat.ne_of_lt (Heap.lt_size ho)) vs.toArray) (fun i h st=>by obtain ⟨o,ho,hc,_⟩:=st.1; exact ⟨o,ho,zfl hc (by decide)⟩)
      ⟨⟨_,Heap.get?_push_size _ rfl,rfl,rfl⟩,hL.push _⟩ q)
  | str y=>
    obtain ⟨t,rfl,_⟩:=za4 rx; replace e:=oj e; subst e
    exact zq8 hh a q
  | lit y=>
    obtain ⟨t,rfl,_⟩:=zkd rx; replace e:=oj e; subst e
    exact zq8 hh a q
  | range lo hi st=>
    obtain ⟨l,rfl,hw,hn,⟨t1,t2,t3,hr⟩,ok⟩:=zn2 rx; replace e:=oj e; subst e
    have ok':=ok
    simp only [zbk,Bool.and_eq_true,decide_eq_true_eq] at ok'
    refine wpAny_pyIter_range hr ok'.1.1.2 ?_
    have h0: 0<=Builtin.Range.rangeSize lo hi st:=by
      unfold Builtin.Range.rangeSize
      rw [if_pos (by lia)]
      split
      · have: 0<=(hi - lo - 1) / st:=Int.ediv_nonneg (by lia) (by lia)
        lia
      · exact Int.le_refl _
    refine q _ _ [s.heap.objs.size] [s.heap.objs.size] _ zcd (.one (Walks.range hh _ lo st (Builtin.Range.rangeSize lo hi st).toNat) (by simp [zan]) (fun i h st'=>zcy ⟨_,st',zfl rfl (by decide)⟩) fun i v hi' ⟨t,hv⟩=>?_) ?_ (zcy ⟨a.low,zar⟩)
      (zcy ⟨a.low,.inl List.mem_cons_self⟩) (zcy ⟨_,Heap.get?_push_size _ rfl⟩)
    · refine ⟨.int (lo + (i: Int) * st),?_,by subst hv; exact zbf⟩
      simp [zan,hi']
    · show IsRangeIter _ _ _ _ _
      have e1: lo + ((0: Nat): Int) * st=lo:=by simp
      have e2: (((Builtin.Range.rangeSize lo hi st).toNat: Nat): Int) - ((0: Nat): Int)=Builtin.Range.rangeSize lo hi st:=by simp [Int.toNat_of_nonneg h0]
      rw [e1,e2]
      exact Heap.get?_push_size _ rfl
  | _=>exact zae e
theorem zm0 {c: CE} {e: Expr} {x: PE} (h: SE c e x) (hp: zh1 e=true): SI c e (.plain x) true where
  f:=zd7 hp
  v:=fun C G K ok env W O s ρ A items ev a rm hi _ Q E q=>by
    simp only [pE] at hi
    obtain ⟨p,h1,h2⟩:=bind_some hi
    refine h.val ok ev a rm h1 _ _ fun v s₁ e₁ r₁=>zxg rm.1 (a.ext e₁) h2 r₁ fun I s' fp wr St e' src st hw hf hz=>?_
    refine q I s' fp wr St (e₁.trans e') src st (fun b hb=>⟨(hw b hb).1,?_⟩) hf hz
    cases hh: s.heap.get? b with
    | none=>rfl
    | some o=>have:=e₁.new b o (hw b hb).1 hh; rw [(hw b hb).2] at this; exact zae this
theorem WalksU.ofWalks {prog: Program} {w: World} {A: Around} {I: Addr} {fp wr: List Addr} {n: Nat} {P: Nat -> Value -> Prop} {St: Nat -> Heap -> Prop} (W: Walks prog w A I fp wr n P St) (Ts: Nat -> Addr) (vals: Nat -> Array Value)
    (hP: ∀ i v,i < n -> P i v -> v = .ref (Ts i)) (hTw: ∀ j,j < n -> Ts j ∉ wr)
    (go: ∀ (elts: List Expr) (k: Nat) (pos: Pos) i T (s: Shared) (Q: Unit -> Shared -> Prop) (E: Value -> Shared -> Prop),St i s.heap -> Q () s -> wpAny (model prog w) A (letOwnedTupleGo (.Tuple elts k pos) (.ref I) (.ref T)) Q E s) :
    WalksU prog w A I (fp ++ (List.range n).map Ts) wr n (fun j v=>j < n/\v=vals j) (fun j h=>St j h /\ ∀ k,k < n -> h.IsTuple (Ts k) (vals k))
      (fun j T h=>(j < n/\T=Ts j)/\St (j + 1) h /\ ∀ k,k < n -> h.IsTuple (Ts k) (vals k)) where
  sub:=fun b hb=>List.mem_append_left _ (W.sub b hb)
  frame:=fun i h h' st hk=>⟨W.frame _ _ _ st.1 fun b hb o e=>hk b (List.mem_append_left _ hb) o e,
    fun k hk'=>(st.2 k hk').at fun o e=>hk (Ts k) (List.mem_append_right _ (List.mem_map.mpr ⟨k,List.mem_range.mpr hk',rfl⟩)) o e⟩
  item:=fun i s Q E hi st hQ=>W.item i s Q E hi st.1 fun v h' tk hPv st' hk=>by
    obtain rfl:=hP i v hi hPv
    have tup: ∀ k,k < n -> h'.IsTuple (Ts k) (vals k):=fun k hk'=>(st.2 k hk').at fun o e=>hk _ o (hTw k hk') e
    exact hQ (Ts i) (vals i) h' tk ⟨hi,rfl⟩ (tup i hi) ⟨⟨hi,rfl⟩,st',tup⟩ hk
  go:=fun elts k pos i T s Q E hm hQ=>go elts k pos (i + 1) T s Q E hm.2.1 (hQ s.heap ⟨hm.2.1,hm.2.2⟩ fun _ _ _ e=>e)
  apart:=fun j T h hm=>hm.1.2 ▸ hTw j hm.1.1
  done:=fun s Q E st hQ=>W.done s Q E st.1 hQ
  self:=fun i s Q E st hQ=>W.self i s Q E st.1 hQ
theorem zkh {prog: Program} {w: World} {A: Around} {E: Value -> Shared -> Prop} {s: Shared} {elts: List Expr} {x1} {pos: Pos} {I l T: Addr} {i: Nat} {Q: Unit -> Shared -> Prop} (hit: s.heap.IsTupleIter I l i) (hQ: Q () s) :
    wpAny (model prog w) A (letOwnedTupleGo (.Tuple elts x1 pos) (.ref I) (.ref T)) Q E s:=by
  obtain ⟨o,ho,hc,hd⟩:=hit
  unfold letOwnedTupleGo
  refine wpAny_bind (wpAny_load ho ?_)
  rw [hc,hd]
  show wpAny _ A (if (["enumerate","zip","dict_itemiterator","dict_reverseitemiterator","odict_iterator","itertools.zip_longest","itertools.pairwise"].contains "tuple_iterator" &&
      (#[.ref l,.int i 0]: Array Value)[0]? == some (rawInt T))=true then _ else _) Q E s
  rw [if_neg (by
    intro h
    rw [show (["enumerate","zip","dict_itemiterator","dict_reverseitemiterator","odict_iterator","itertools.zip_longest","itertools.pairwise"].contains "tuple_iterator")=false from by decide,Bool.false_and] at h
    exact ft h)]
  exact wpAny_pure hQ
theorem zt5 {y: PV} (h: isTup y=true): ∃ ps,y = .tuple ps:=by
  cases y <;> first | exact ft h | exact ⟨_,rfl⟩
inductive TupAt (C: CX) (W: Addr -> Prop) (h: Heap) (vs: List Value) (items: List PV) (i: Nat) (T: Addr) (us: Array Value): Prop where
  | mk {l: List Value} {k: Nat} {ps: List PV} (r: vs[i]? = some (.ref T)) (lo: C.n₀<=T) (nw: ¬ W T) (o: h.get? T=some (tupO l k)) (e: us=l.toArray) (it: items[i]? = some (.tuple ps)) (rep: RepL C h W ps l)
theorem tups {items: List PV} {vs: List Value} {h: Heap} (hl: RepL C h W items vs) (hall: items.all isTup=true): ∃ f: Nat -> Addr × Array Value,∀ i,i < items.length -> TupAt C W h vs items i (f i).1 (f i).2:=by
  refine Classical.axiomOfChoice (r:=fun i (p: Addr × Array Value)=>i < items.length -> TupAt C W h vs items i p.1 p.2) fun i=>?_
  by_cases hi: i < items.length
  · have hx: items[i]? = some items[i]:=List.getElem?_eq_getElem hi
    obtain ⟨w,g1,g2⟩:=hl.get i hx
    obtain ⟨ps,e⟩:=zt5 (List.all_eq_true.mp hall _ (List.getElem_mem hi))
    rw [e] at g2 hx
    obtain ⟨T,us,k,rfl,a1,a2,a3,a4⟩:=zdz g2
    exact ⟨(T,us.toArray),fun _=>⟨g1,a2,a1,a3,rfl,hx,a4⟩⟩
  · exact ⟨(0,#[]),fun h=>absurd h hi⟩
theorem zt6 {c: CE} {e: Expr} {x: PE} (h: SE c e x) (hp: zh1 e=true) (htup: ∀ G ρ p,zag G x ρ=some p -> ∃ l,p = .tuple l): SI c e (.plain x) false where
  f:=zd7 hp
  v:=fun C G K ok env W O s ρ A items ev a rm hi hall Q E q=>by
    simp only [pE] at hi
    obtain ⟨p,h1,h2⟩:=bind_some hi
    obtain ⟨ps,rfl⟩:=htup _ _ _ h1
    obtain rfl: ps=items:=oj h2.symm
    refine h.val ok ev a rm h1 _ _ fun v s₁ e₁ r₁=>?_
    obtain ⟨ad,vs,n,rfl,hw,hn,ho,hl⟩:=zdz r₁
    obtain ⟨f,hf⟩:=tups hl hall
    have hL: s₁.heap.IsTuple ad vs.toArray:=⟨_,ho,rfl,_,rfl⟩
    have hsz:=ziy hl
    have hf': ∀ i,i < vs.toArray.size -> TupAt C W s₁.heap vs ps i (f i).1 (f i).2:=fun i hi=>hf i (hsz ▸ hi)
    have hne: ∀ i,i < vs.toArray.size -> (f i).1 ∉ [s₁.heap.objs.size]:=fun i hi hm=>by
      obtain ⟨_,_,_,o,_,_,_⟩:=hf' i hi
      exact absurd (List.mem_singleton.mp hm) (Nat.ne_of_lt (Heap.lt_size o))
    have hfresh: s.heap.get? s₁.heap.objs.size=none:=by
      cases hh: s.heap.get? s₁.heap.objs.size with
      | none=>rfl
      | some o=>have:=e₁.new _ o (a.ext e₁).low hh; rw [zar] at this; exact zae this
    have all: ∀ {P: Addr -> Prop},P s₁.heap.objs.size -> P ad -> (∀ i,i < vs.toArray.size -> P (f i).1) -> ∀ b ∈ [s₁.heap.objs.size,ad] ++ (List.range vs.toArray.size).map fun i=>(f i).1,P b:=fun h1 h2 h3 b hb=>by
      rcases List.mem_append.mp hb with hb | hb
      · exact zd8 h1 h2 b hb
      · obtain ⟨j,hj,e⟩:=List.mem_map.mp hb
        exact e ▸ h3 j (List.mem_range.mp hj)
    refine wpAny_pyIter_tuple hL (q s₁.heap.objs.size _ _ [s₁.heap.objs.size] _ (e₁.trans zcd)
      (.many (WalksU.ofWalks (Walks.tuple rm.1 _ ad (Nat.ne_of_lt (Heap.lt_size ho)) vs.toArray) (fun i=>(f i).1) (fun i=>(f i).2) (fun i v hi hv=>?_) hne fun elts k pos i T s Q E st hQ=>zkh st.1 hQ) hsz
        (fun i h st=>zcy (by obtain ⟨o,ho,hc,_⟩:=st.1.1; exact ⟨o,ho,zfl hc (by decide)⟩)) fun i v hi hv=>?_)
      ⟨⟨⟨_,Heap.get?_push_size _ rfl,rfl,rfl⟩,hL.push _⟩,fun k hk=>?_⟩ (zcy ⟨(a.ext e₁).low,hfresh⟩) (all ⟨(a.ext e₁).low,.inl List.mem_cons_self⟩ ⟨hn,.inr hw⟩ fun i hi=>?_) (all ⟨_,Heap.get?_push_size _ rfl⟩ ⟨_,Heap.get?_push_of_some _ ho⟩ fun i hi=>?_))
    · obtain ⟨r,_,_,_,_,_,_⟩:=hf' i hi
      have hv': vs[i]? = some v:=by simpa using hv
      exact oj (r.symm.trans hv')
    · obtain ⟨_,rfl⟩:=hv
      obtain ⟨_,_,_,_,b5,b6,b7⟩:=hf' i hi
      exact ⟨_,b6,by rw [b5]; exact z00 b7⟩
    · obtain ⟨_,_,_,b4,b5,_,_⟩:=hf' k hk
      exact ⟨_,Heap.get?_push_of_some _ b4,rfl,_,by rw [b5]⟩
    · obtain ⟨_,b2,b3,_,_,_,_⟩:=hf' i hi
      exact ⟨b2,.inr b3⟩
    · obtain ⟨_,_,_,b4,_,_,_⟩:=hf' i hi
      exact ⟨_,Heap.get?_push_of_some _ b4⟩
end
theorem zki: ∀ (xs: List PV) (k: Int),(zbo k xs).length=xs.length:=by
  intro zz
  induction zz with
  | nil=>exact fun _=>rfl
  | cons x xs ih=>intro k; simp [numE,ih]
theorem zjm: ∀ (xs: List PV) (k: Int) (i: Nat),(zbo k xs)[i]? = (xs[i]?).map fun x=>.tuple [.int (k + i),x]
  | [],_,_=>rfl
  | x :: xs,k,0=>by simp [numE]
  | x :: xs,k,i + 1=>by
    simp only [numE,List.getElem?_cons_succ]
    rw [zjm xs (k + 1) i]
    have: k + 1 + (i: Int)=k + ((i + 1: Nat): Int):=by push_cast; lia
    rw [this]
section
open Builtin
open AutoSeq1 (wpAny_loadPart')
variable {prog: Program} {w: World} {A: Around} {E: Value -> Shared -> Prop} {s: Shared}
theorem ziz {it l: Addr} {i: Nat} {items: Array Value} {x: Value} {Q: Value -> Shared -> Prop} (hit: s.heap.IsTupleIter it l i) (hl: s.heap.IsTuple l items) (hx: items[i]? = some x)
    (hQ: ∀ h',h'.IsTupleIter it l (i + 1) -> Heap.SameBut it s.heap h' -> Q x { s with heap:=h' }) :
    wpAny (model prog w) A (Builtin.SmallTypes.nextOf (.ref it)) Q E s:=by
  obtain ⟨o,ho,hc,hd⟩:=id hit
  obtain ⟨ol,hol,_,nl,hdl⟩:=hl
  unfold Builtin.SmallTypes.nextOf
  refine wpAny_bind (wpAny_callSpecial?_slot (name:=Str.ofString "__next__") hit.typeIs F.slot_tuple_iterator_next
    (wpAny_call_entry F.slot_tuple_iterator_next hit.typeIs F.entry_tuple_iterator_next ?_ (F.args_tuple_iterator_next_1 _)))
  show wpAny _ _ (field (.ref it) 0 >>= _) _ _ s
  refine wpAny_bind (wpAny_field ho hd (x:=.ref l) rfl ?_)
  show wpAny _ _ (if (Value.ref l == Value.none)=true then _ else _) _ _ s
  rw [if_neg (show ¬ ((Value.ref l == Value.none)=true) from Bool.false_ne_true)]
  show wpAny _ _ (field (.ref it) 1 >>= _) _ _ s
  refine wpAny_bind (wpAny_field ho hd (x:=.int i 0) rfl ?_)
  show wpAny _ _ (seqItems? (.ref l) >>= _) _ _ s
  refine wpAny_bind (wpAny_seqItems hol hdl ?_)
  simp only [Int.toNat_natCast,hx]
  refine wpAny_bind (wpAny_setField ho hd (by simp) (wpAny_pure ⟨x,rfl,wpAny_pure (hQ _ ?_ (Heap.SameBut.update ..))⟩))
  exact ⟨_,Heap.get?_update_self _ ho (Obj.isFreed_of_fields (Obj.data_mapFields hd _)),(Obj.cls_mapFields ..).trans hc,by
    rw [Obj.data_mapFields hd]; simp [rawInt]⟩
theorem zjs {it l: Addr} {i: Nat} {items: Array Value} {Q: Value -> Shared -> Prop} (hh: A.handled=none) (hit: s.heap.IsTupleIter it l i) (hl: s.heap.IsTuple l items) (hx: items[i]? = none)
    (hE: ∀ h' e,Heap.ExtBut it s.heap h' -> (∃ o,h'.get? e=some o/\o.cls = .type "StopIteration") -> E (.ref e) { s with heap:=h' }) :
    wpAny (model prog w) A (Builtin.SmallTypes.nextOf (.ref it)) Q E s:=by
  obtain ⟨o,ho,hc,hd⟩:=id hit
  obtain ⟨ol,hol,_,nl,hdl⟩:=hl
  unfold Builtin.SmallTypes.nextOf
  refine wpAny_bind (wpAny_callSpecial?_slot (name:=Str.ofString "__next__") hit.typeIs F.slot_tuple_iterator_next
    (wpAny_call_entry F.slot_tuple_iterator_next hit.typeIs F.entry_tuple_iterator_next ?_ (F.args_tuple_iterator_next_1 _)))
  show wpAny _ _ (field (.ref it) 0 >>= _) _ _ s
  refine wpAny_bind (wpAny_field ho hd (x:=.ref l) rfl ?_)
  show wpAny _ _ (if (Value.ref l == Value.none)=true then _ else _) _ _ s
  rw [if_neg (show ¬ ((Value.ref l == Value.none)=true) from Bool.false_ne_true)]
  show wpAny _ _ (field (.ref it) 1 >>= _) _ _ s
  refine wpAny_bind (wpAny_field ho hd (x:=.int i 0) rfl ?_)
  show wpAny _ _ (seqItems? (.ref l) >>= _) _ _ s
  refine wpAny_bind (wpAny_seqItems hol hdl ?_)
  simp only [Int.toNat_natCast,hx]
  refine wpAny_bind (wpAny_rule (wpAny_bind (wpAny_setField ho hd (by simp) ?_)))
  show wpAny _ _ (newExc (.type "StopIteration") [] >>= _) _ _ _
  refine wpAny_bind ?_
  simp only [newExc,newTuple]
  refine wpAny_bind (wpAny_newObj_type ?_ (by size_fits))
  refine wpAny_bind (m:=firstArgMember _ _) (wpAny_of_eq (a:=Value.none) (by first | rfl | (simp only [firstArgMember]; rfl)) ?_)
  refine wpAny_newObj_type ?_ (by size_fits)
  show wpAny _ _ (handled >>= _) _ _ _
  refine wpAny_bind (wpAny_handled ?_)
  first | rw [show A.in1.handled=none from hh] | rw [hh]
  refine wpAny_bind (wpAny_pure (wpAny_throw ?_))
  exact hE _ _ (((Heap.SameBut.update ..).extBut.push _).push _) ⟨_,Heap.get?_push_size _ rfl,rfl⟩
theorem Draws.tuple (hh: A.handled=none) (it l: Addr) (hne: l ≠ it) (items: Array Value) :
    Draws prog w A it [it,l] items.size (fun i v=>items[i]? = some v) (fun i h=>h.IsTupleIter it l i/\h.IsTuple l items) where
  live:=fun _ _ st=>by obtain ⟨o,ho,_⟩:=st.1; exact ⟨o,ho⟩
  frame:=fun _ _ _ st hk=>⟨st.1.at fun o e=>hk it (by simp) o e,st.2.at fun o e=>hk l (by simp) o e⟩
  item:=fun i s Q E hi st hQ=>by
    refine ziz st.1 st.2 (x:=items[i]) (by simp [hi]) fun h' hit' hs'=>?_
    exact hQ _ h' s.toks (by simp [hi]) ⟨hit',st.2.extBut hs'.extBut hne⟩ hs'
  done:=fun s Q E st hE=>zjs hh st.1 st.2 (by simp) hE
theorem zxh {M: Model} {A: Around} {Q: Bool -> Shared -> Prop} {E: Value -> Shared -> Prop} {s: Shared} {a: Bool} (h: ∀ b,Q b s): wpAny M A (pure a) Q E s:=wpAny_pure (h a)
theorem zfu (l: Addr) (items: Array Value) (n: Nat) (dct: Option Addr) (sl: Array (Option Value)) :
    Meets (Builtin.«enumerate.__new__» ⟨[.type "enumerate",.ref l],[]⟩) (fun _ R s=>s.heap.get? l=some { cls:=.type "tuple",dict:=dct,data:=.seq items n,slots:=sl } /\
      R (.ok (.ret (.ref (s.heap.push { cls:=.type "tuple_iterator",data:=.fields #[.ref l,.int 0 0] }).objs.size)))
        { s with heap:=(s.heap.push { cls:=.type "tuple_iterator",data:=.fields #[.ref l,.int 0 0] }).push { cls:=.type "enumerate",data:=.fields #[.none,.bool false,.ref s.heap.objs.size,rawInt 0,.none,.none] } }):=
  .of_wp fun prog w A R s h=>by
    obtain ⟨hp,g,d,tk,os⟩:=s; obtain ⟨hl,h⟩:=h
    have hsub:=sub_enumerate
    have hL: Heap.IsTuple (Shared.heap ⟨hp,g,d,tk,os⟩) l items:=⟨_,hl,rfl,n,rfl⟩
    wp_walk using wpAny_loadPart' hl
    refine wpAny_stack_any fun st=>zxh fun b=>?_
    induction b
    · wp_walk using wpAny_loadPart' hl,wpAny_pyIter_tuple hL
      exact ⟨_,rfl,h⟩
    · wp_walk using wpAny_loadPart' hl,wpAny_pyIter_tuple hL
      exact ⟨_,rfl,h⟩
theorem zgn {l: Addr} {items: Array Value} {Q: Value -> Shared -> Prop} (hL: s.heap.IsTuple l items)
    (h: ∀ h',IsEnum h' (s.heap.objs.size + 1) s.heap.objs.size 0 .none -> h'.IsTupleIter s.heap.objs.size l 0 -> h'.objs.size=s.heap.objs.size + 2 ->
      (∀ b o,s.heap.get? b=some o -> h'.get? b=some o) -> Q (.ref (s.heap.objs.size + 1)) { s with heap:=h' }) :
    wpAny (model prog w) A (call (.type "enumerate") [.ref l]) Q E s:=by
  obtain ⟨⟨c,dct,dt,sl⟩,hl,hc,n,hd⟩:=hL
  replace hc: c = .type "tuple" := hc
  replace hd: dt = .seq items n:=hd
  subst hc hd
  refine callType_new F.called_enumerate (by decide) (F.typeCall_enumerate_1 _) (F.newCall_enumerate_1 _) (fun obj=>F.args_object_init_2 obj _) F.entry_enumerate_new
    (zfu l items n dct sl) ⟨hl,?_⟩
  have hz: (s.heap.push { cls:=.type "tuple_iterator",data:=.fields #[.ref l,.int 0 0] }).objs.size=s.heap.objs.size + 1:=Heap.size_push ..
  show _/\_
  rw [hz]
  have he: IsEnum ((s.heap.push { cls:=.type "tuple_iterator",data:=.fields #[.ref l,.int 0 0] }).push
      { cls:=.type "enumerate",data:=.fields #[.none,.bool false,.ref s.heap.objs.size,rawInt 0,.none,.none] }) (s.heap.objs.size + 1) s.heap.objs.size 0 .none:=by
    have:=Heap.get?_push_size (s.heap.push { cls:=.type "tuple_iterator",data:=.fields #[.ref l,.int 0 0] })
      (o:={ cls:=.type "enumerate",data:=.fields #[.none,.bool false,.ref s.heap.objs.size,rawInt 0,.none,.none] }) rfl
    rw [hz] at this; exact this
  refine ⟨⟨_,he,rfl⟩,h _ he ⟨_,Heap.get?_push_of_some _ (Heap.get?_push_size _ rfl),rfl,rfl⟩ (by rw [Heap.size_push,hz]) fun b o x=>Heap.get?_push_of_some _ (Heap.get?_push_of_some _ x)⟩
end
section
variable {c: CE} {pos p₁: Pos}
theorem zn8 {C: CX} {env: Env} {W O: Addr -> Prop} {s: Shared} {ρ: Rho} {A: Around} {x: Str} {n: String} {Q E: Value -> Shared -> Prop} (ev: zam C c env W O s.heap ρ) (a: At C W s) (hd: (x == ("__debug__" : Str))=false) (hk: c.sc.names.lookup x=some .globalImplicit)
    (hg: C.mg x=none/\C.mb x=some (.type n)) (q: Q (.type n) s): wpAny (model C.prog C.w) A (eval (.Name x p₁) env) Q E s:=by
  have k: env.kindOf x=some .globalImplicit:=by
    rcases ev.names x with h | ⟨h,_⟩ | h
    · exact h.trans hk
    · rw [hk] at h; cases h
    · rw [hk] at h; cases h
  refine Name_function_global ev.kind k ?_ hd
  exact loadGlobal_builtin (ev.glob ▸ CX.g _ a.inv) hg.1 (ev.bui ▸ CX.b _ a.inv) hg.2 q
theorem ze5 {C: CX} {W: Addr -> Prop} {s s₁: Shared} (e: Ext C s s₁) {b: Addr} (hb: C.n₀<=b) (h: s₁.heap.get? b=none): s.heap.get? b=none:=by
  cases hh: s.heap.get? b with
  | none=>rfl
  | some o=>have:=e.new _ o hb hh; rw [h] at this; exact zae this
theorem zi0 {h: Heap} {b: Addr} (hb: h.objs.size<=b): h.get? b=none:=by
  cases hh: h.get? b with
  | none=>rfl
  | some o=>exact absurd (Heap.lt_size hh) (Nat.not_lt.mpr hb)
theorem z01 {e: Expr} {x: PE} (h: SE c e x) (hk: c.sc.names.lookup (Str.ofString "enumerate")=some .globalImplicit): SI c (.Call (.Name "enumerate" p₁) [e] [] pos) (.enum x) false where
  f:=zd7 rfl
  v:=fun C G K ok env W O s ρ A items ev a rm hi _ Q E q=>by
    simp only [pE] at hi
    obtain ⟨p,h1,h2⟩:=bind_some hi
    obtain ⟨xs,h3,h4⟩:=zaj h2
    subst h4
    refine wpAny_Call_NameR (zn8 ev a (by decide) hk ok.enum ?_)
    have hst: (backTo pos (starEach [e] env)).any (·.1)=false:=by rw [h.ns]; rfl
    refine zcc hst (za3 hst ?_)
    rw [h.ns]
    refine spliced_cons (h.val ok ev a rm h1 _ _ fun v s₁ e₁ r₁=>spliced_nil ?_)
    have a₁:=a.ext e₁
    show wpAny _ A (call (.type "enumerate") [v]) _ E s₁
    have fin: ∀ {h': Heap} {fp: List Addr} {n: Nat} {P: Nat -> Value -> Prop} {St: Nat -> Heap -> Prop},Draws C.prog C.w A.in1 s₁.heap.objs.size fp n P St -> n=xs.length -> IsEnum h' (s₁.heap.objs.size + 1) s₁.heap.objs.size 0 .none -> St 0 h' -> s₁.heap.objs.size + 1 ∉ fp -> s₁.heap.objs.size ∈ fp ->
        (∀ b ∈ fp,b=s₁.heap.objs.size \/ (C.n₀<=b /\ ¬ W b)) -> (∀ b ∈ fp,∃ o,h'.get? b=some o) -> (∀ b o,s₁.heap.get? b=some o -> h'.get? b=some o) ->
        (∀ i v,i < n -> P i v -> ∃ y,xs[i]? = some y/\Rep C h' (fun b=>W b \/ b ∈ [s₁.heap.objs.size + 1,s₁.heap.objs.size]) y v) -> (∀ i h,St i h -> ∃ o,h.get? s₁.heap.objs.size=some o /\ ¬ zeo o) ->
        wpAny (model C.prog C.w) A (pyIter (.ref (s₁.heap.objs.size + 1))) Q E { s₁ with heap:=h' }:=fun {h' fp n P St} D hn he st hef hif hfp hfz hkeep hrep hnc=>by
      refine wpAny_pyIter_enum he ?_
      have e2: Ext C s₁ { s₁ with heap:=h' }:=⟨.grow hkeep,Nat.le_refl _⟩
      refine q _ _ _ [s₁.heap.objs.size + 1,s₁.heap.objs.size] _ (e₁.trans e2) (.many (WalksT.enumerateD D (s₁.heap.objs.size + 1) (Nat.succ_ne_self _) hef hif).toU (by rw [zki]; exact hn) (fun i h st=>zd8 (by obtain ⟨⟨old,ho⟩,_⟩:=st; exact ⟨_,ho,zfl rfl (by decide)⟩) (hnc _ _ st.2)) fun i vals hi' ⟨t,y,hP,hv⟩=>?_)
        ⟨⟨_,he⟩,st⟩ (zd8 ⟨Nat.le_succ_of_le a₁.low,ze5 (W:=W) e₁ (Nat.le_succ_of_le a₁.low) (zi0 (Nat.le_succ _))⟩ ⟨a₁.low,ze5 (W:=W) e₁ a₁.low zar⟩)
        (zpo ⟨Nat.le_succ_of_le a₁.low,.inl List.mem_cons_self⟩ fun b hb=>?_) (zpo ⟨_,he⟩ hfz)
      · obtain ⟨z,g1,g2⟩:=hrep i y hi' hP
        refine ⟨[.int (0 + (i: Int)),z],by rw [zjm,g1]; rfl,?_⟩
        subst hv
        have: (0: Int) + (i: Int)=i:=by lia
        rw [this]
        exact RepL.cons zbf (RepL.cons g2 rfl)
      · rcases hfp b hb with e | h
        · rw [e]; exact ⟨a₁.low,.inl (List.mem_cons_of_mem _ List.mem_cons_self)⟩
        · exact ⟨h.1,.inr h.2⟩
    have hfr: ∀ b,(W b \/ b ∈ [s₁.heap.objs.size + 1,s₁.heap.objs.size]) -> W b \/ s₁.heap.get? b=none:=fun b hb=>hb.imp_right (zd8 (P:=fun b=>s₁.heap.get? b=none) (zi0 (Nat.le_succ _)) zar b)
    have strD: ∀ (y: Str) (t: Tok),xs=zbt y -> v = .str y t -> wpAny (model C.prog C.w) A (call (.type "enumerate") [v]) (fun v s₁=>wpAny (model C.prog C.w) A (pyIter v) Q E s₁) E s₁:=fun y t hx hv=>by
      subst hx hv
      refine call_enumerate_str fun h' he hit hz hkeep=>?_
      have rep: ∀ (i: Nat) (v: Value),i < y.cps.size -> (∃ c u,y.cps[i]? = some c/\v = .str ⟨#[c]⟩ u) -> ∃ z,(zbt y)[i]? = some z/\Rep C h' (fun b=>W b \/ b ∈ [s₁.heap.objs.size + 1,s₁.heap.objs.size]) z v:=fun i v _ z=>by
        obtain ⟨c,u,hc,hv⟩:=z
        refine ⟨.str ⟨#[c]⟩,?_,by subst hv; exact zco (by show 1<=_; decide)⟩
        simp only [zbt,List.getElem?_map]
        have: y.cps.toList[i]? = some c:=by simpa using hc
        rw [this]; rfl
      have hfp: ∀ b ∈ [s₁.heap.objs.size],b=s₁.heap.objs.size \/ (C.n₀<=b /\ ¬ W b):=fun b hb=>.inl (by simpa using hb)
      unfold strIterType at hit
      split at hit
      · exact fin (Draws.strAscii (A:=A.in1) rm.1 _ y t) (by simp [zbt]) he hit (by simp) (by simp) hfp (fun b hb=>by simp only [List.mem_singleton] at hb; subst hb; obtain ⟨o,ho,_⟩:=hit; exact ⟨o,ho⟩) hkeep rep fun i h st=>by obtain ⟨o,ho,hc,_⟩:=st; exact ⟨o,ho,zfl hc (by decide)⟩
      · exact fin (Draws.strWide (A:=A.in1) rm.1 _ y t) (by simp [zbt]) he hit (by simp) (by simp) hfp (fun b hb=>by simp only [List.mem_singleton] at hb; subst hb; obtain ⟨o,ho,_⟩:=hit; exact ⟨o,ho⟩) hkeep rep fun i h st=>by obtain ⟨o,ho,hc,_⟩:=st; exact ⟨o,ho,zfl hc (by decide)⟩
    cases p with
    | list xs=>
      obtain ⟨l,vs,n,rfl,hw,hn,ho,hl,hz⟩:=zbg r₁; replace h3:=oj h3; subst h3
      have hL: s₁.heap.IsList l vs.toArray:=⟨_,ho,rfl,_,rfl⟩
      have hlt: l < s₁.heap.objs.size:=Heap.lt_size ho
      refine call_enumerate_list hL fun h' he hit hz hkeep=>?_
      refine fin (Draws.list (A:=A.in1) rm.1 _ l (Nat.ne_of_lt hlt) vs.toArray) (ziy hl) he ⟨hit,hL.at fun o eo=>hkeep _ o eo⟩ (fun hm=>zd8 (P:=fun b=>b ≠ s₁.heap.objs.size + 1) (Nat.ne_of_lt (Nat.lt_succ_self _)) (Nat.ne_of_lt (Nat.lt_succ_of_lt hlt)) _ hm rfl) List.mem_cons_self
        (zd8 (.inl rfl) (.inr ⟨hn,hw⟩)) (zd8 (by obtain ⟨o,ho,_⟩:=hit; exact ⟨o,ho⟩) ⟨_,hkeep _ _ ho⟩) hkeep (zmz hl (Stay.grow (fun b o _ eo=>hkeep b o eo) hfr)) fun i h st=>by obtain ⟨o,ho,hc,_⟩:=st.1; exact ⟨o,ho,zfl hc (by decide)⟩
    | tuple xs=>
      obtain ⟨l,vs,n,rfl,hw,hn,ho,hl⟩:=zdz r₁; replace h3:=oj h3; subst h3
      have hL: s₁.heap.IsTuple l vs.toArray:=⟨_,ho,rfl,_,rfl⟩
      have hlt: l < s₁.heap.objs.size:=Heap.lt_size ho
      refine zgn hL fun h' he hit hz hkeep=>?_
      refine fin (Draws.tuple (A:=A.in1) rm.1 _ l (Nat.ne_of_lt hlt) vs.toArray) (ziy hl) he ⟨hit,hL.at fun o eo=>hkeep _ o eo⟩ (fun hm=>zd8 (P:=fun b=>b ≠ s₁.heap.objs.size + 1) (Nat.ne_of_lt (Nat.lt_succ_self _)) (Nat.ne_of_lt (Nat.lt_succ_of_lt hlt)) _ hm rfl) List.mem_cons_self
        (zd8 (.inl rfl) (.inr ⟨hn,hw⟩)) (zd8 (by obtain ⟨o,ho,_⟩:=hit; exact ⟨o,ho⟩) ⟨_,hkeep _ _ ho⟩) hkeep (zmz hl (Stay.grow (fun b o _ eo=>hkeep b o eo) hfr)) fun i h st=>by obtain ⟨o,ho,hc,_⟩:=st.1; exact ⟨o,ho,zfl hc (by decide)⟩
    | str y=>
      obtain ⟨t,rfl,_⟩:=za4 r₁; replace h3:=oj h3; subst h3
      exact strD _ t rfl rfl
    | _=>exact zae h3
end
noncomputable def zhd (env: Env): Expr -> Bool -> Sem (ForInStep Bool):=fun c r=>if r=true then do let ok <- isTrue c env (eval c env); pure (ForInStep.yield ok) else pure (ForInStep.yield r)
theorem zh2 {elt: Expr} {gens: List Comprehension} {scope: Scope} {pos: Pos} {d: Nat} {it acc: Value} {env: Env} {t iter: Expr} {ifs: List Expr} (hg: gens[d]? = some ⟨t,iter,ifs,0⟩) (hn: gens[d + 1]? = none) :
    compTurn (.ListComp elt gens scope pos) d it acc env=(standAt iter.pos >>= fun _=>pyNext it >>= fun r=>match r with
      | none=>pure (.done .next)
      | some v=>letOwnedTupleGo t it v >>= fun _=>assign t env v >>= fun _=>forIn ifs true (zhd env) >>= fun ok=>
        if ok=true then (eval elt env >>= fun x=>call (.builtin "list.append") [acc,x] >>= fun _=>pure ()) >>= fun _=>again (.compLoop (.ListComp elt gens scope pos) d it acc env)
        else again (.compLoop (.ListComp elt gens scope pos) d it acc env)):=by
  unfold compTurn
  dsimp only
  rw [hg]
  dsimp only
  rw [hn]
  rfl
theorem zh3 {elt: Expr} {gens: List Comprehension} {scope: Scope} {pos: Pos} {d: Nat} {it acc: Value} {env: Env} {t iter t' iter': Expr} {ifs ifs': List Expr} (hg: gens[d]? = some ⟨t,iter,ifs,0⟩) (hn: gens[d + 1]? = some ⟨t',iter',ifs',0⟩) :
    compTurn (.ListComp elt gens scope pos) d it acc env=(standAt iter.pos >>= fun _=>pyNext it >>= fun r=>match r with
      | none=>pure (.done .next)
      | some v=>letOwnedTupleGo t it v >>= fun _=>assign t env v >>= fun _=>forIn ifs true (zhd env) >>= fun ok=>
        if ok=true then eval iter' env >>= fun x=>standAt iter'.pos >>= fun _=>foldedSetIterable iter' env x >>= fun x=>holding [x] (pyIter x) >>= fun it'=>
          runOwn (.compStart (.ListComp elt gens scope pos) (d + 1) it' acc env) env >>= fun _=>again (.compLoop (.ListComp elt gens scope pos) d it acc env)
        else again (.compLoop (.ListComp elt gens scope pos) d it acc env)):=by
  unfold compTurn
  simp only [hg,hn]
  rfl
section
variable {c: CE}
theorem zpq {env: Env}: ∀ (ifs: List Expr),(forIn ifs false (zhd env): Sem Bool)=pure false:=by
  intro zz
  induction zz with
  | nil=>exact rfl
  | cons e es ih=>
    rw [List.forIn_cons]
    show (pure (ForInStep.yield false) >>= _)=_
    rw [pure_bind]
    exact ih
theorem zt7 {C: CX} {G: GT} {K: Nat} (ok: FnOk C G K) {env: Env} {W O: Addr -> Prop} {ρ: Rho} {A: Around} (rm: Room A K) {ifs: List Expr} {fs: List PE} (hs: SEs c ifs fs) :
    ∀ {s: Shared} {b: Bool},zam C c env W O s.heap ρ -> At C W s -> allP G true fs ρ=some b -> SndB C A s (forIn ifs true (zhd env)) b:=by
  induction hs with
  | nil=>intro s b ev at' h Q E q; simp only [pE] at h; replace h:=oj h; subst h; exact wpAny_pure (q s (.refl s))
  | cons h _ ih=>
    intro s b ev at' hp Q E q
    simp only [pE] at hp
    obtain ⟨w,h1,hp⟩:=bind_some hp
    rw [List.forIn_cons]
    refine wpAny_bind ?_
    show wpAny _ A (isTrue _ env (eval _ env) >>= fun ok=>pure (ForInStep.yield ok)) _ E s
    refine wpAny_bind (h.tst ok ev at' rm h1 _ _ fun s₁ e₁=>wpAny_pure ?_)
    cases w with
    | true=>exact ih (ev.ext e₁.toExt0) (at'.ext e₁) hp _ _ fun s₂ e₂=>q s₂ (e₁.trans e₂)
    | false=>
      replace hp:=oj hp; subst hp
      show wpAny _ A (forIn _ false (zhd env)) _ E s₁
      rw [zpq]
      exact wpAny_pure (q s₁ e₁)
structure GOk (c: CE) (t: Expr) (xs: List Str) (ts: List Nat) (single: Bool): Prop where
  tgt: zpn t xs single
  places: Places { c with σ:=xs.reverse ++ c.σ } xs ts
  fresh: ∀ x ∈ xs.reverse,zq2 (c.sc.names.lookup x)=true/\c.sc.names.lookup x ≠ some .free /\ ∀ i,idx c.σ x=some i -> i < c.base
  above: ∀ t ∈ ts,c.σ.length<=t
inductive SGs: CE -> List Comprehension -> List PG -> CE -> Prop
  | nil {c: CE}: SGs c [] [] c
  | cons {c c2: CE} {gs: List Comprehension} {ps: List PG} {t iter: Expr} {ifs: List Expr} {it: PI} {fs: List PE} {xs: List Str} {ts: List Nat} {single: Bool}: SI c iter it single -> GOk c t xs ts single ->
      SEs { c with σ:=xs.reverse ++ c.σ } ifs fs -> SGs { c with σ:=xs.reverse ++ c.σ } gs ps c2 -> SGs c (⟨t,iter,ifs,0⟩ :: gs) (.mk ts single it fs :: ps) c2
theorem zl8 {xs: List Str} {ts: List Nat} {n: Nat} (ha: ∀ t ∈ ts,n<=t): ∀ {ps: List PV} {ρ ρ': Rho},zcw ts ps ρ=some ρ' -> ∀ i,i < n -> ρ'[i]? = ρ[i]?:=by
  induction ts with
  | nil=>intro ps ρ ρ' h i hi; cases ps with
    | nil=>replace h:=oj h; subst h; rfl
    | cons _ _=>exact zae h
  | cons t ts ih=>intro ps ρ ρ' h i hi; cases ps with
    | nil=>exact zae h
    | cons p ps=>
      rw [ih (fun t ht=>ha t (List.mem_cons_of_mem _ ht)) h i hi]
      have:=ha t List.mem_cons_self
      unfold setR
      rw [List.getElem?_set_ne (by lia)]
theorem zn9 {ts: List Nat} {n: Nat} {single: Bool} {x: PV} (ha: ∀ t ∈ ts,n<=t) {ρ ρ': Rho} (h: zbb ts single x ρ=some ρ'): ∀ i,i < n -> ρ'[i]? = ρ[i]?:=by
  unfold zbb at h
  split at h
  · exact zl8 (xs:=[]) ha h
  · obtain ⟨_,_,g⟩:=Option.bind_eq_some_iff.mp h
    exact zl8 (xs:=[]) ha g
noncomputable def zt8 (G: GT) (ts: List Nat) (single: Bool) (fs: List PE) (ps: List PG) (elt: PE) (ρ: Rho) (x: PV): Option (List PV):=
  (zbb ts single x ρ).bind fun ρ'=>(allP G true fs ρ').bind fun c=>if c then zj8 G ps (fun ρ'=>zag G elt ρ') ρ' else some []
structure Acc (C: CX) (W: Addr -> Prop) (h: Heap) (D: Addr) (ps: List PV): Prop where
  lo: C.n₀<=D
  w: W D
  at': ∃ vs n,h.get? D=some (za5 vs n)/\RepL C h W ps vs
end
section
variable {C: CX} {c: CE} {env: Env} {W O: Addr -> Prop} {ρ: Rho} {D: Addr} {accP: List PV}
theorem Acc.stay {W': Addr -> Prop} {h h': Heap} (a: Acc C W h D accP) (hD: ∀ o,h.get? D=some o -> h'.get? D=some o) (k: Stay C h h' W W') (w: W' D): Acc C W' h' D accP where
  lo:=a.lo
  w:=w
  at':=by obtain ⟨vs,n,h1,h2⟩:=a.at'; exact ⟨vs,n,hD _ h1,RepL.stay k _ _ h2⟩
structure LS (C: CX) (c: CE) (env: Env) (W O: Addr -> Prop) (s: Shared) (ρ: Rho) (D: Addr) (accP: List PV): Prop where
  ev: zam C c env W O s.heap ρ
  a: At C W s
  acc: Acc C W s.heap D accP
  nO: ¬ O D
theorem LS.ext {s s': Shared} (l: LS C c env W O s ρ D accP) (e: Ext C s s'): LS C c env W O s' ρ D accP:=
  ⟨l.ev.ext e.toExt0,l.a.ext e,l.acc.stay (fun o eo=>e.new _ o l.acc.lo eo) (e.stay W) l.acc.w,l.nO⟩
theorem ExtN.stay {O N: Addr -> Prop} {s s': Shared} (x: ExtN C O N s s') (hO: ∀ b,O b -> W b) (hN: ∀ b,N b -> W b): Stay C s.heap s'.heap W W:=fun b o hb hw e=>⟨x.new b o hb (fun h=>hw (hO b h)) (fun h=>hw (hN b h)) e,hw⟩
theorem zc9 {prog: Program} {w: World} {A: Around} {R: Result -> Shared -> Prop} {s: Shared} {elt: Expr} {gens: List Comprehension} {scope: Scope} {pos: Pos} {d: Nat} {it acc: Value} {t iter: Expr} {ifs: List Expr} (hg: gens[d]? = some ⟨t,iter,ifs,0⟩)
    (h0: codeAny (model prog w) A (.compLoop (.ListComp elt gens scope pos) d it acc env) R s)
    (h: wpAny (model prog w) A (pyIter it) (fun it' s'=>codeAny (model prog w) A (.compLoop (.ListComp elt gens scope pos) d it' acc env) R s') (notedBy (model prog w) A env fun x s'=>R (.error x) s') s) :
    codeAny (model prog w) A (.compStart (.ListComp elt gens scope pos) d it acc env) R s:=by
  refine codeAny_of_tree ?_
  show wpAny _ _ ((compStart (.ListComp elt gens scope pos) d it acc env).onRaise (fun x=>do noteFrame x env; standAt theWindowsPlace)) _ _ s
  refine wpAny_notedAt ?_
  unfold compStart
  have hc: clausesOf (.ListComp elt gens scope pos)=gens:=rfl
  rw [hc,hg]
  show wpAny _ _ (ask >>= _) _ _ s
  refine wpAny_bind (wpAny_askSetting (wpAny_ite ?_))
  split
  · exact wpAny_bind (wpAny_pure (wpAny_pure (And.intro rfl h0)))
  · exact wpAny_bind (wpAny_rule (wpAny_bind (wpAny_standAt (wpAny_bind (wpAny_mono h (fun it' s' h'=>wpAny_pure (And.intro rfl h')) fun _ _ x=>x)))))
theorem SrcAt.heap {h h': Heap} {fp wr: List Addr} (x: SrcAt C W O h fp wr): SrcAt C W O h' fp wr:=⟨x.w,x.f⟩
theorem zoa {A: Around} {F: Value -> Sem PySem.Fin} {p: Pos} {s: Shared} {items: List PV} {I: Addr} {fp wr: List Addr} {single: Bool} {St: Nat -> Heap -> Prop} {R: Result -> Shared -> Prop} {Q: PySem.Fin -> Shared -> Prop} {E: Value -> Shared -> Prop}
    (ls: LS C c env W O s ρ D accP) (src: Src C A W s.heap I single fp wr items St) (sa: SrcAt C W O s.heap fp wr) (st: St items.length s.heap) (hDw: D ∉ wr) (hQ: ∀ s',R (.ok .next) s' -> Q (.done .next) s')
    (hR: ∀ s',ExtN C (fun b=>OWr c env b \/ b=D) (· ∈ wr) s s' -> zam C c env (fun b=>W b/\b ∉ wr) O s'.heap ρ -> Acc C (fun b=>W b/\b ∉ wr) s'.heap D accP -> R (.ok .next) s') :
    wpAny (model C.prog C.w) A (standAt p >>= fun _=>pyNext (.ref I) >>= fun r=>match r with | none=>pure (.done .next) | some v=>F v) Q E s:=by
  have fin: ∀ h' tk,s.toks<=tk -> (∀ b o,b ∉ wr -> s.heap.get? b=some o -> h'.get? b=some o) -> R (.ok .next) { s with heap:=h',toks:=tk }:=fun h' tk htk hk=>by
    have hO: ∀ b,O b -> b ∉ wr:=fun b hb hm=>(sa.w b hm).2 hb
    have hS: Stay C s.heap h' W (fun b=>W b/\b ∉ wr):=fun b o hb hw e=>⟨hk b o (fun hm=>hw (sa.w b hm).1) e,fun h=>hw h.1⟩
    refine hR _ ⟨fun b o _ _ hn e=>hk b o hn e,fun b o _ hn e=>⟨o,hk b o hn e⟩,C.keep fun b o hb e=>hk b o (src.low st (fun b hb=>(sa.f b hb).1) hb e) e,rfl,rfl,rfl,htk⟩ ?_ ?_
    · exact ls.ev.move (fun b o _ hb e=>hk b o (fun hm=>by rcases hb with hb | hb; exact hb (sa.w b hm).1; exact (sa.w b hm).2 hb) e) (fun b hb=>⟨ls.ev.ow b hb,hO b hb⟩) fun b hb=>.inl hb.1
    · exact ls.acc.stay (fun o e=>hk D o hDw e) hS ⟨ls.acc.w,hDw⟩
  refine wpAny_bind (wpAny_standAt (wpAny_bind ?_))
  induction src with
  | one w hn live rep=>exact wpAny_with_toks (Nat.le_refl s.toks) (w.done s _ _ (hn ▸ st) fun h' tk hk htk=>wpAny_pure (hQ _ (fin h' tk htk hk)))
  | many w hn live rep=>exact wpAny_with_toks (Nat.le_refl s.toks) (w.done s _ _ (hn ▸ st) fun h' tk hk htk=>wpAny_pure (hQ _ (fin h' tk htk hk)))
theorem zob {G: GT} {K: Nat} (ok: FnOk C G K) {A: Around} (rm: Room A K) {F: Bool -> Sem PySem.Fin} {p: Pos} {s: Shared} {items: List PV} {I: Addr} {fp wr: List Addr} {single: Bool} {St: Nat -> Heap -> Prop} {Q: PySem.Fin -> Shared -> Prop} {E: Value -> Shared -> Prop}
    {t: Expr} {ifs: List Expr} {xs: List Str} {ts: List Nat} {fs: List PE} {i: Nat} {y: PV} {ρ': Rho} {b: Bool}
    (ls: LS C c env W O s ρ D accP) (src: Src C A W s.heap I single fp wr items St) (sa: SrcAt C W O s.heap fp wr) (st: St i s.heap) (hDw: D ∉ wr) (gok: GOk c t xs ts single) (hifs: SEs { c with σ:=xs.reverse ++ c.σ } ifs fs)
    (hy: items[i]? = some y) (hb: zbb ts single y ρ=some ρ') (ha: allP G true fs ρ'=some b)
    (q: ∀ s',ExtN C (OWr c env) (· ∈ wr) s s' -> LS C { c with σ:=xs.reverse ++ c.σ } env W O s' ρ' D accP -> Src C A W s'.heap I single fp wr items St -> St (i + 1) s'.heap -> wpAny (model C.prog C.w) A (F b) Q E s') :
    wpAny (model C.prog C.w) A (standAt p >>= fun _=>pyNext (.ref I) >>= fun r=>match r with
      | none=>pure (.done .next)
      | some v=>letOwnedTupleGo t (.ref I) v >>= fun _=>assign t env v >>= fun _=>forIn ifs true (zhd env) >>= F) Q E s:=by
  refine wpAny_bind (wpAny_standAt (wpAny_bind (wpAny_mono (zn7 (Q:=fun s₃=>wpAny (model C.prog C.w) A (forIn ifs true (zhd env) >>= F) Q E s₃) rm.1 src sa (ls.ev.push xs.reverse) ls.a st hy gok.tgt gok.places hb ?_) (fun r s₁ h=>?_) fun _ _ e=>e)))
  · intro s₃ e₃ ev₃ st₃
    have hWocc: At C W s₃:=⟨e₃.inv ls.a.inv,fun b' hb'=>by
      obtain ⟨lo,o,eo⟩:=ls.a.wocc b' hb'
      by_cases hm: b' ∈ wr
      · exact ⟨lo,src.live st₃ b' hm⟩
      · exact ⟨lo,e₃.occ b' o lo hm eo⟩,Nat.lt_of_lt_of_le ls.a.tok e₃.toks⟩
    have hS:=e₃.stay (fun b' hb'=>ls.ev.ow _ (ls.ev.owr hb')) (fun b' hb'=>(sa.w b' hb').1)
    have ls₃: LS C { c with σ:=xs.reverse ++ c.σ } env W O s₃ ρ' D accP:=⟨ev₃,hWocc,ls.acc.stay (fun o eo=>e₃.new D o ls.acc.lo (fun h=>ls.nO (ls.ev.owr h)) hDw eo) hS ls.acc.w,ls.nO⟩
    refine wpAny_bind (zt7 ok rm hifs ev₃ hWocc ha _ _ fun s₄ e₄=>?_)
    exact q s₄ (e₃.trans e₄.toO.toN) (ls₃.ext e₄) ((src.stay hS).stay (e₄.toExt0.stay W)) (src.frame st₃ fun b' hb' o eo=>e₄.new b' o (sa.f b' hb').1 eo)
  · cases r with
    | none=>exact h.elim
    | some v=>exact wpAny_bind (wpAny_mono h (fun _ s₂ h₂=>wpAny_bind (wpAny_mono h₂ (fun _ s₃ h₃=>h₃) fun _ _ e=>e)) fun _ _ e=>e)
theorem LS.forget {s: Shared} {xs: List Str} {t: Expr} {ts: List Nat} {single: Bool} {y: PV} {ρ': Rho} (gok: GOk c t xs ts single) (hb: zbb ts single y ρ=some ρ') (htop: ∀ (i: Nat) (s: Slot),ρ[i]? = some (some s) -> i < c.σ.length)
    (l: LS C { c with σ:=xs.reverse ++ c.σ } env W O s ρ' D accP): LS C c env W O s ρ D accP:=
  ⟨l.ev.forget gok.fresh (fun i sl h=>by rw [zn9 gok.above hb i (htop i sl h)]; exact h) htop,l.a,l.acc,l.nO⟩
theorem zpr {A: Around} {s: Shared} {p: PV} {v: Value} {Q: Value -> Shared -> Prop} {E: Value -> Shared -> Prop} (ls: LS C c env W O s ρ D accP) (hD: D ≠ env.locals \/ True) (hz: accP.length<=sizeLine) (hv: Rep C s.heap W p v)
    (q: ∀ s',ExtN C (fun b=>OWr c env b \/ b=D) (fun _=>False) s s' -> LS C c env W O s' ρ D (accP ++ [p]) -> (∀ b o,b ≠ D -> s.heap.get? b=some o -> s'.heap.get? b=some o) -> Q .none s') :
    wpAny (model C.prog C.w) A (call (.builtin "list.append") [.ref D,v]) Q E s:=by
  obtain ⟨vs,n,h1,h2⟩:=ls.acc.at'
  refine wpAny_list_append_plain (items:=vs.toArray) ⟨n,h1⟩ (fun h' hl hs=>?_) (by simp only [List.size_toArray,h2.length]; exact hz)
  have hk: ∀ b o,b ≠ D -> s.heap.get? b=some o -> h'.get? b=some o:=fun b o hb e=>(hs.2 b hb).trans e
  have hS: Stay C s.heap h' W W:=fun b o hb hw e=>⟨hk b o (fun h=>hw (h ▸ ls.acc.w)) e,hw⟩
  obtain ⟨n',hl'⟩:=hl
  have hl'': h'.get? D=some (za5 (vs ++ [v]) n'):=by rw [hl']; simp [za5]
  have hocc: ∀ b o,C.n₀<=b -> s.heap.get? b=some o -> ∃ o',h'.get? b=some o':=fun b o _ e=>by
    by_cases hb: b=D
    · subst hb; exact ⟨_,hl''⟩
    · exact ⟨o,hk b o hb e⟩
  refine q { s with heap:=h' } ⟨fun b o _ hb _ e=>hk b o (fun h=>hb (.inr h)) e,fun b o lo _ e=>hocc b o lo e,C.keepBut ls.acc.lo (fun o e=>by rw [h1] at e; replace e:=oj e; subst e; exact zfl rfl (by decide)) hk,rfl,rfl,rfl,Nat.le_refl _⟩
    ⟨ls.ev.move (fun b o _ hb e=>hk b o (fun h=>by subst h; rcases hb with hb | hb; exact hb ls.acc.w; exact ls.nO hb) e) ls.ev.ow fun b hb=>.inl hb,?_,?_,ls.nO⟩ hk
  · exact ⟨C.keepBut ls.acc.lo (fun o e=>by rw [h1] at e; replace e:=oj e; subst e; exact zfl rfl (by decide)) hk ls.a.inv,fun b hb=>by obtain ⟨lo,o,e⟩:=ls.a.wocc b hb; exact ⟨lo,hocc b o lo e⟩,ls.a.tok⟩
  · exact ⟨ls.acc.lo,ls.acc.w,vs ++ [v],n',hl'',(RepL.stay hS _ _ h2).append (RepL.cons (Rep.stay hS _ _ hv) rfl)⟩
end
theorem zgu {α β: Type} {f: α -> Option β} {x: α} {xs: List α} {r: List β} (h: (x :: xs).mapM f=some r): ∃ y ys,f x=some y/\xs.mapM f=some ys/\r=y :: ys:=by
  rw [List.mapM_cons] at h
  cases hx: f x with
  | none=>rw [hx] at h; exact zae h
  | some y=>
    rw [hx] at h
    cases hxs: xs.mapM f with
    | none=>rw [hxs] at h; exact zae h
    | some ys=>rw [hxs] at h; replace h:=oj h; subst h; exact ⟨y,ys,rfl,rfl,rfl⟩
section
variable {C: CX} {env: Env} {D: Addr}
theorem At.extO' {W O: Addr -> Prop} {s s': Shared} (a: At C W s) (x: ExtO C O s s'): At C W s':=
  ⟨x.inv a.inv,fun b h=>by obtain ⟨lo,o,e⟩:=a.wocc b h; exact ⟨lo,x.occ b o lo e⟩,Nat.lt_of_lt_of_le a.tok x.toks⟩
noncomputable def zxi (C: CX) (env: Env) (D: Addr) (G: GT) (A: Around) (elt: Expr) (gens: List Comprehension) (scope: Scope) (pos: Pos) (x: PE) (gs: List Comprehension): Prop:=
    ∀ {c c2: CE} {ps: List PG} {d: Nat} {t iter: Expr} {ifs: List Expr} {xs: List Str} {ts: List Nat} {single: Bool} {fs: List PE},
    SGs { c with σ:=xs.reverse ++ c.σ } gs ps c2 -> gens[d]? = some ⟨t,iter,ifs,0⟩ -> gens.drop (d + 1)=gs -> GOk c t xs ts single -> SEs { c with σ:=xs.reverse ++ c.σ } ifs fs -> SE c2 elt x ->
    ∀ {W O: Addr -> Prop} {s: Shared} {ρ: Rho} {items: List PV} {rs: List (List PV)} {I: Addr} {fp wr: List Addr} {St: Nat -> Heap -> Prop} {i: Nat} {accP: List PV} {R: Result -> Shared -> Prop},
    LS C c env W O s ρ D accP -> Src C A W s.heap I single fp wr items St -> SrcAt C W O s.heap fp wr -> St i s.heap -> i<=items.length -> D ∉ wr ->
    (items.drop i).mapM (zt8 G ts single fs ps x ρ)=some rs -> accP.length + rs.flatten.length<=sizeLine ->
    (∀ s',ExtN C (fun b=>OWr c env b \/ b=D) (· ∈ wr) s s' -> zam C c env (fun b=>W b/\b ∉ wr) O s'.heap ρ -> Acc C (fun b=>W b/\b ∉ wr) s'.heap D (accP ++ rs.flatten) -> R (.ok .next) s') ->
    codeAny (model C.prog C.w) A (.compLoop (.ListComp elt gens scope pos) d (.ref I) (.ref D) env) R s
theorem zt9 {G: GT} {K: Nat} (ok: FnOk C G K) {A: Around} (rm: Room A K) {elt: Expr} {gens: List Comprehension} {scope: Scope} {pos: Pos} {x: PE} :
    ∀ gs,zxi C env D G A elt gens scope pos x gs:=by
  intro gs
  induction gs with
  | nil=>
    intro c c2 ps d t iter ifs xs ts single fs sg hg hdrop gok hifs hx W O s ρ items rs I fp wr St i accP R ls src sa st hi hDw hm hsz hR
    cases sg
    have hn: gens[d + 1]? = none:=by
      rw [List.getElem?_eq_none_iff]
      have:=congrArg List.length hdrop
      rw [List.length_drop] at this
      exact Nat.le_of_sub_eq_zero this
    generalize hk: items.length - i=k
    induction k generalizing s i rs accP with
    | zero=>
      have hie: i=items.length:=Nat.le_antisymm hi (Nat.le_of_sub_eq_zero hk)
      subst hie
      refine codeAny_of_tree ?_
      show wpAny _ _ ((compTurn (.ListComp elt gens scope pos) d (.ref I) (.ref D) env).onRaise (fun x=>do noteFrame x env; theTreesLotGoes x)) _ _ s
      refine wpAny_noted ?_
      rw [zh2 hg hn]
      rw [List.drop_length] at hm
      simp at hm; subst hm
      exact zoa (R:=R) ls src sa st hDw (fun s' h=>h) fun s' e ev acc=>hR s' e ev (by simpa using acc)
    | succ k ih=>
      have hlt: i < items.length:=Nat.lt_of_sub_eq_succ hk
      rw [List.drop_eq_getElem_cons hlt] at hm
      obtain ⟨r,rs',h1,h2,rfl⟩:=zgu hm
      unfold zt8 at h1
      obtain ⟨ρ',hb,h1⟩:=bind_some h1
      obtain ⟨b,ha,h1⟩:=bind_some h1
      refine codeAny_of_tree ?_
      show wpAny _ _ ((compTurn (.ListComp elt gens scope pos) d (.ref I) (.ref D) env).onRaise (fun x=>do noteFrame x env; theTreesLotGoes x)) _ _ s
      refine wpAny_noted ?_
      rw [zh2 hg hn]
      refine zob ok rm ls src sa st hDw gok hifs (List.getElem?_eq_getElem hlt) hb ha fun s₁ e₁ ls₁ src₁ st₁=>?_
      have top:=ls.ev.top
      have weaken: ∀ {s₂: Shared},ExtN C (fun b=>OWr c env b \/ b=D) (· ∈ wr) s s₂ -> ∀ {s': Shared},ExtN C (fun b=>OWr c env b \/ b=D) (· ∈ wr) s₂ s' -> ExtN C (fun b=>OWr c env b \/ b=D) (· ∈ wr) s s':=fun a _ b=>a.trans b
      have e₁': ExtN C (fun b=>OWr c env b \/ b=D) (· ∈ wr) s s₁:=e₁.mono (fun _ h=>.inl h) fun _ h=>h
      cases b with
      | false=>
        simp only [Bool.false_eq_true,if_false] at h1 ⊢
        replace h1:=oj h1; subst h1
        refine wpAny_pure ⟨rfl,ih (ls:=ls₁.forget gok hb top) (src:=src₁) (sa:=sa.heap) (st:=st₁) (hi:=hlt) (hm:=h2) (hsz:=by simpa using hsz) (hR:=fun s' e' ev' acc'=>hR s' (e₁'.trans e') ev' (by simpa using acc')) (hk:=zjw hk)⟩
      | true=>
        simp only [if_true] at h1 ⊢
        simp only [pE] at h1
        obtain ⟨p,hp,h1⟩:=zaj h1
        subst h1
        have hz1: accP.length<=sizeLine:=by lia
        refine wpAny_bind (wpAny_bind (hx.val ok ls₁.ev ls₁.a rm hp _ _ fun v s₂ e₂ r₂=>wpAny_bind (zpr (ls₁.ext e₂) (.inr trivial) hz1 r₂ fun s₃ e₃ ls₃ hk₃=>wpAny_pure (wpAny_pure ⟨rfl,?_⟩))))
        have hS:=e₃.stay (W:=W) (fun b hb=>by rcases hb with hb | rfl; exact ls.ev.ow b (ls.ev.owr hb); exact ls.acc.w) (fun _ h=>h.elim)
        refine ih (ls:=ls₃.forget gok hb top) (src:=(src₁.stay (e₂.toExt0.stay W)).stay hS) (sa:=sa.heap) (st:=src.frame (src.frame st₁ fun b hb o eo=>e₂.new b o (sa.f b hb).1 eo) fun b hb o eo=>hk₃ b o (fun h=>?_) eo) (hi:=hlt) (hm:=h2) (hsz:=?_)
          (hR:=fun s' e' ev' acc'=>hR s' (((e₁'.trans e₂.toO.toN).trans (e₃.mono (fun _ h=>h) fun _ h=>h.elim)).trans e') ev' (by simpa using acc')) (hk:=zjw hk)
        · subst h
          rcases (sa.f _ hb).2 with h1 | h1
          · exact hDw h1
          · exact h1 ls.acc.w
        · simp only [List.flatten_cons,List.length_append,List.length_singleton,List.length_cons,List.length_nil] at hsz ⊢
          lia
  | cons g gs ihg=>
    intro c c2 ps d t iter ifs xs ts single fs sg hg hdrop gok hifs hx W O s ρ items rs I fp wr St i accP R ls src sa st hi hDw hm hsz hR
    cases sg with
    | cons si gok' hifs' sgs'=>
    rename_i ps' t' iter' ifs' it' fs' xs' ts' single'
    have hn: gens[d + 1]? = some ⟨t',iter',ifs',0⟩:=by
      have:=congrArg (·[0]?) hdrop
      simpa using this
    have hdrop': gens.drop (d + 1 + 1)=gs:=by
      have:=congrArg List.tail hdrop
      simpa using this
    generalize hk: items.length - i=k
    induction k generalizing s i rs accP with
    | zero=>
      have hie: i=items.length:=Nat.le_antisymm hi (Nat.le_of_sub_eq_zero hk)
      subst hie
      refine codeAny_of_tree ?_
      show wpAny _ _ ((compTurn (.ListComp elt gens scope pos) d (.ref I) (.ref D) env).onRaise (fun x=>do noteFrame x env; theTreesLotGoes x)) _ _ s
      refine wpAny_noted ?_
      rw [zh3 hg hn]
      rw [List.drop_length] at hm
      simp at hm; subst hm
      exact zoa (R:=R) ls src sa st hDw (fun s' h=>h) fun s' e ev acc=>hR s' e ev (by simpa using acc)
    | succ k ih=>
      have hlt: i < items.length:=Nat.lt_of_sub_eq_succ hk
      rw [List.drop_eq_getElem_cons hlt] at hm
      obtain ⟨r,rs',h1,h2,rfl⟩:=zgu hm
      unfold zt8 at h1
      obtain ⟨ρ',hb,h1⟩:=bind_some h1
      obtain ⟨b,ha,h1⟩:=bind_some h1
      refine codeAny_of_tree ?_
      show wpAny _ _ ((compTurn (.ListComp elt gens scope pos) d (.ref I) (.ref D) env).onRaise (fun x=>do noteFrame x env; theTreesLotGoes x)) _ _ s
      refine wpAny_noted ?_
      rw [zh3 hg hn]
      refine zob ok rm ls src sa st hDw gok hifs (List.getElem?_eq_getElem hlt) hb ha fun s₁ e₁ ls₁ src₁ st₁=>?_
      have top:=ls.ev.top
      have e₁': ExtN C (fun b=>OWr c env b \/ b=D) (· ∈ wr) s s₁:=e₁.mono (fun _ h=>.inl h) fun _ h=>h
      cases b with
      | false=>
        simp only [Bool.false_eq_true,if_false] at h1 ⊢
        replace h1:=oj h1; subst h1
        refine wpAny_pure ⟨rfl,ih (ls:=ls₁.forget gok hb top) (src:=src₁) (sa:=sa.heap) (st:=st₁) (hi:=hlt) (hm:=h2) (hsz:=by simpa using hsz) (hR:=fun s' e' ev' acc'=>hR s' (e₁'.trans e') ev' (by simpa using acc')) (hk:=zjw hk)⟩
      | true=>
        simp only [if_true] at h1 ⊢
        simp only [pE] at h1
        obtain ⟨items',hit,h1⟩:=bind_some h1
        split at h1
        · rename_i hall
          obtain ⟨rs2,hrs2,h1⟩:=zaj h1
          subst h1
          refine wpAny_bind (wpAny_mono (si.v C G K ok env W O s₁ ρ' A items' ls₁.ev ls₁.a rm hit hall
            (fun it2 s₂=>wpAny (model C.prog C.w) A (runOwn (.compStart (.ListComp elt gens scope pos) (d + 1) it2 (.ref D) env) env >>= fun _=>again (.compLoop (.ListComp elt gens scope pos) d (.ref I) (.ref D) env))
              (fun fin s'=>match fin with | .done f=>R (.ok f) s' | .again c'=>c'.quiet=true/\codeAny (model C.prog C.w) A c' R s') (notedBy (model C.prog C.w) A env fun e s'=>R (.error e) s') s₂)
            (notedBy (model C.prog C.w) A env fun e s'=>R (.error e) s') fun I' s₂ fp' wr' St' e₂ src₂ st₂ hw₂ hf₂ hz₂=>?_)
            (fun v s₂ h=>wpAny_bind (wpAny_standAt (wpAny_bind (wpAny_of_eq (si.f env v) (wpAny_bind (wpAny_holding h)))))) fun _ _ e=>e)
          ·
            have hD₁: D < s₁.heap.objs.size:=by obtain ⟨_,_,h,_⟩:=ls₁.acc.at'; exact Heap.lt_size h
            have hDo: ∃ o,s₁.heap.get? D=some o:=by obtain ⟨_,_,h,_⟩:=ls₁.acc.at'; exact ⟨_,h⟩
            have hDw': D ∉ wr':=fun hm=>by obtain ⟨o,ho⟩:=hDo; have:=(hw₂ D hm).2; rw [ho] at this; cases this
            have notwr: ∀ b,W b -> b ∉ wr':=fun b hb hm=>by obtain ⟨_,o,ho⟩:=ls₁.a.wocc b hb; have:=(hw₂ b hm).2; rw [ho] at this; cases this
            have ls₂: LS C { c with σ:=xs.reverse ++ c.σ } env (fun b=>W b \/ b ∈ wr') O s₂ ρ' D accP:=by
              refine ⟨ls₁.ev.grow (fun b o lo eo=>e₂.new b o lo eo) (fun b hb=>.inl hb) (fun b hb=>by rcases hb with hb | hb; exact .inl hb; exact .inr (hw₂ b hb).2),⟨e₂.inv ls₁.a.inv,fun b hb=>?_,Nat.lt_of_lt_of_le ls₁.a.tok e₂.toks⟩,?_,ls.nO⟩
              · rcases hb with hb | hb
                · exact (ls₁.a.ext e₂).wocc b hb
                · exact ⟨(hw₂ b hb).1,src₂.live st₂ b hb⟩
              · exact ls₁.acc.stay (fun o eo=>e₂.new D o ls₁.acc.lo eo) (Stay.grow (fun b o lo eo=>e₂.new b o lo eo) (fun b hb=>by rcases hb with hb | hb; exact .inl hb; exact .inr (hw₂ b hb).2)) (.inl ls₁.acc.w)
            have sa₂: SrcAt C (fun b=>W b \/ b ∈ wr') O s₂.heap fp' wr':=⟨fun b hb=>⟨.inr hb,fun ho=>notwr b (ls.ev.ow b ho) hb⟩,fun b hb=>by
              obtain ⟨h1,h2⟩:=hf₂ b hb
              refine ⟨h1,?_⟩
              by_cases hm: b ∈ wr'
              · exact .inl hm
              · rcases h2 with h2 | h2
                · exact absurd h2 hm
                · exact .inr fun h=>by rcases h with h | h; exact h2 h; exact hm h⟩
            have hsz2: accP.length + rs2.flatten.length<=sizeLine:=by
              simp only [List.flatten_cons,List.length_append] at hsz; lia
            have inner: codeAny (model C.prog C.w) A (.compLoop (.ListComp elt gens scope pos) (d + 1) (.ref I') (.ref D) env) (fun r s'=>match r with
                | .ok f=>wpAny (model C.prog C.w) A (again (.compLoop (.ListComp elt gens scope pos) d (.ref I) (.ref D) env)) (fun fin s'=>match fin with | .done f=>R (.ok f) s' | .again c'=>c'.quiet=true/\codeAny (model C.prog C.w) A c' R s') (notedBy (model C.prog C.w) A env fun e s'=>R (.error e) s') s'
                | .error e=>cameBackBy (model C.prog C.w) A env (notedBy (model C.prog C.w) A env fun e s'=>R (.error e) s') e s') s₂:=by
              refine ihg sgs' hn hdrop' gok' hifs' hx (ρ:=ρ') ls₂ src₂ sa₂ st₂ (Nat.zero_le _) hDw' (rs:=rs2) (by rw [List.drop_zero]; exact hrs2) hsz2 fun s₃ e₃ ev₃ acc₃=>?_
              have e₁₃: ExtO C (fun b=>OWr c env b \/ b=D) s₁ s₃:=ExtN.drop (e₂.toO) e₃ (fun b hb=>(hw₂ b hb).2)
              have hS: Stay C s₁.heap s₃.heap W W:=e₁₃.stay (fun b hb=>by rcases hb with hb | rfl; exact ls.ev.ow b (ls.ev.owr hb); exact ls.acc.w)
              have evW: zam C { c with σ:=xs.reverse ++ c.σ } env W O s₃.heap ρ':=ev₃.move (fun b o _ _ eo=>eo) ls.ev.ow (fun b hb=>.inl ⟨.inl hb,notwr b hb⟩)
              have accW: Acc C W s₃.heap D (accP ++ rs2.flatten):=acc₃.stay (fun o eo=>eo) (fun b o lo hw eo=>⟨eo,fun hb=>hw ⟨.inl hb,notwr b hb⟩⟩) ls.acc.w
              have ls₃: LS C { c with σ:=xs.reverse ++ c.σ } env W O s₃ ρ' D (accP ++ rs2.flatten):=⟨evW,ls₁.a.extO' e₁₃,accW,ls.nO⟩
              refine wpAny_pure ⟨rfl,ih (ls:=ls₃.forget gok hb top) (src:=src₁.stay hS) (sa:=sa.heap) (st:=src.frame st₁ fun b hb o eo=>?_) (hi:=hlt) (hm:=h2) (hsz:=?_)
                (hR:=fun s' e' ev' acc'=>hR s' ((e₁'.trans e₁₃.toN).trans e') ev' (by simpa using acc')) (hk:=zjw hk)⟩
              · refine e₁₃.new b o (sa.f b hb).1 (fun h=>?_) eo
                rcases h with h | rfl
                · rcases (sa.f b hb).2 with h1 | h1
                  · exact (sa.w b h1).2 (ls.ev.owr h)
                  · exact h1 (ls.ev.ow b (ls.ev.owr h))
                · rcases (sa.f b hb).2 with h1 | h1
                  · exact hDw h1
                  · exact h1 ls.acc.w
              · simp only [List.flatten_cons,List.length_append] at hsz ⊢; lia
            refine wpAny_bind (wpAny_runOwn (h:=none) ?_)
            refine zc9 hn inner (src₂.self st₂ inner)
        · exact zae h1
end
noncomputable def zb1 (env: Env): List (Str × NameKind) -> List (Str × Addr) -> List (Str × Addr)
  | [],acc=>acc
  | (n,k) :: r,acc=>if k == .free then zb1 env r ((n,(env.cells.lookup n).getD 0) :: acc) else zb1 env r acc
theorem zhe (env: Env) (n: Str) (k: NameKind) (r: List (Str × NameKind)) (acc: List (Str × Addr)): zb1 env ((n,k) :: r) acc=if k == .free then zb1 env r ((n,(env.cells.lookup n).getD 0) :: acc) else zb1 env r acc:=rfl
theorem zh4 {scope: Scope} {env: Env} (h: ∀ n,(n,NameKind.free) ∈ scope.names -> ∃ a,env.cells.lookup n=some a): closureFor scope env=pure (zb1 env scope.names []):=by
  have key: ∀ (names: List (Str × NameKind)) (acc: List (Str × Addr)),(∀ n,(n,NameKind.free) ∈ names -> ∃ a,env.cells.lookup n=some a) ->
      (forIn names acc fun x cs=>match x with | (name,kind)=>if (kind == NameKind.free)=true then (do let a <- cellOf env name; pure (ForInStep.yield ((name,a) :: cs))) else pure (ForInStep.yield cs): Sem (List (Str × Addr)))=pure (zb1 env names acc):=by
    intro names
    induction names with
    | nil=>intro acc _; rfl
    | cons x r ih=>
      intro acc hx
      obtain ⟨n,k⟩:=x
      rw [List.forIn_cons]
      by_cases hk: k = .free
      · subst hk
        obtain ⟨a,ha⟩:=hx n List.mem_cons_self
        have hc: cellOf env n=pure a:=by unfold cellOf; rw [ha]
        show ((if (NameKind.free == NameKind.free)=true then _ else _) >>= _)=_
        rw [if_pos (c:=(NameKind.free == NameKind.free)=true) rfl,hc,pure_bind,pure_bind]
        refine (ih _ fun m hm=>hx m (List.mem_cons_of_mem _ hm)).trans ?_
        rw [zhe,if_pos (beq_self_eq_true _),ha]; rfl
      · have hb: (k == NameKind.free)=false:=by simpa using hk
        show ((if (k == NameKind.free)=true then _ else _) >>= _)=_
        have hb': ¬ (k == NameKind.free)=true:=by rw [hb]; exact Bool.false_ne_true
        rw [if_neg hb',pure_bind]
        refine (ih _ fun m hm=>hx m (List.mem_cons_of_mem _ hm)).trans ?_
        rw [zhe,if_neg hb']
  unfold closureFor
  have:=key scope.names [] h
  show (forIn scope.names [] _ >>= fun cs=>pure cs)=_
  rw [bind_pure]
  exact this
theorem zaq {α: Type} {l: List (Str × α)} {x: Str} {k: α} (h: l.lookup x=some k): (x,k) ∈ l:=by
  obtain ⟨l1,l2,e,_⟩:=List.lookup_eq_some_iff.mp h
  rw [e]; exact List.mem_append_right _ List.mem_cons_self
theorem zdn {α: Type} {l: List (Str × α)} {x: Str} {k: α} (h: (x,k) ∈ l): (l.lookup x).isSome=true:=List.lookup_isSome_iff.mpr ⟨_,h,beq_self_eq_true x⟩
theorem zcm {κ α: Type} [BEq κ] [LawfulBEq κ] {l: List (κ × α)} {x: κ} {k: α} (hn: (l.map (·.1)).Nodup) (h: (x,k) ∈ l): l.lookup x=some k:=by
  induction l with
  | nil=>exact nomatch h
  | cons p r ih=>
    rw [List.map_cons,List.nodup_cons] at hn
    rcases List.mem_cons.mp h with e | h
    · rw [<- e]; exact List.lookup_cons_self
    · have hne: (x == p.1)=false:=beq_eq_false_iff_ne.mpr fun e=>hn.1 (e ▸ List.mem_map.mpr ⟨_,h,rfl⟩)
      exact (by rw [List.lookup_cons,hne]: (p :: r).lookup x=r.lookup x).trans (ih hn.2 h)
theorem zr8 {env: Env} {x: Str} {a: Addr} {names: List (Str × NameKind)}: ∀ {acc: List (Str × Addr)},(x,a) ∈ zb1 env names acc -> (x,a) ∈ acc \/ ((x,NameKind.free) ∈ names/\(env.cells.lookup x).getD 0=a):=by
  induction names with
  | nil=>exact fun h=>.inl h
  | cons p r ih=>
    intro acc h
    have up: (x,a) ∈ acc \/ ((x,NameKind.free) ∈ r/\(env.cells.lookup x).getD 0=a) -> (x,a) ∈ acc \/ ((x,NameKind.free) ∈ p :: r/\(env.cells.lookup x).getD 0=a):=fun h=>h.imp_right fun h=>⟨List.mem_cons_of_mem _ h.1,h.2⟩
    by_cases hk: (p.2 == .free)=true
    · rw [zhe,if_pos hk] at h
      rcases ih h with h | h
      · rcases List.mem_cons.mp h with e | h
        · obtain ⟨e1,e2⟩:=Prod.mk.inj e
          exact .inr ⟨List.mem_cons.mpr (.inl (by rw [e1,<- eq_of_beq hk])),by rw [e1]; exact e2.symm⟩
        · exact .inl h
      · exact up (.inr h)
    · rw [zhe,if_neg hk] at h
      exact up (ih h)
theorem zps {env: Env} {q: Str × Addr} {names: List (Str × NameKind)}: ∀ {acc: List (Str × Addr)},q ∈ acc -> q ∈ zb1 env names acc:=by
  induction names with
  | nil=>exact fun h=>h
  | cons p r ih=>
    intro acc h
    rw [zhe]
    by_cases hk: (p.2 == .free)=true
    · rw [if_pos hk]; exact ih (List.mem_cons_of_mem _ h)
    · rw [if_neg hk]; exact ih h
theorem zoc {env: Env} {x: Str} {names: List (Str × NameKind)} (h: (x,NameKind.free) ∈ names): ∀ {acc: List (Str × Addr)},∃ a,(x,a) ∈ zb1 env names acc:=by
  induction names with
  | nil=>exact nomatch h
  | cons p r ih=>
    intro acc
    rcases List.mem_cons.mp h with e | h
    · rw [<- e,zhe,if_pos (beq_self_eq_true _)]
      exact ⟨_,zps List.mem_cons_self⟩
    · rw [zhe]
      by_cases hk: (p.2 == .free)=true
      · rw [if_pos hk]; exact ih h
      · rw [if_neg hk]; exact ih h
theorem zcr (env: Env) (names: List (Str × NameKind)) {x: Str} {a: Addr} (h: (zb1 env names []).lookup x=some a): (x,NameKind.free) ∈ names/\(env.cells.lookup x).getD 0=a:=(zr8 (zaq h)).resolve_left nofun
theorem zl9 (env: Env) (names: List (Str × NameKind)) {x: Str} (h: (x,NameKind.free) ∈ names): ∃ a,(zb1 env names []).lookup x=some a:=by
  obtain ⟨a,ha⟩:=zoc (env:=env) (acc:=[]) h
  exact Option.isSome_iff_exists.mp (zdn ha)
theorem zod (n: Nat) (x: Str) (k: NameKind) (r: List (Str × NameKind)) (acc: List (Str × Addr)): cellsFrom n ((x,k) :: r) acc=if k == .cell then cellsFrom (n + 1) r ((x,n) :: acc) else cellsFrom n r acc:=rfl
theorem ze6 (names: List (Str × NameKind)): ∀ (n: Nat) (acc: List (Str × Addr)),cellsFrom n names acc=cellsFrom n names [] ++ acc:=by
  induction names with
  | nil=>exact fun _ _=>rfl
  | cons p r ih=>
    intro n acc
    rw [zod,zod]
    by_cases hk: (p.2 == .cell)=true
    · rw [if_pos hk,if_pos hk,ih,ih _ [_],List.append_assoc]; rfl
    · rw [if_neg hk,if_neg hk]; exact ih _ _
theorem zua {x: Str} {a: Addr} {names: List (Str × NameKind)}: ∀ {n: Nat},(x,a) ∈ cellsFrom n names [] -> (x,NameKind.cell) ∈ names:=by
  induction names with
  | nil=>exact fun h=>nomatch h
  | cons p r ih=>
    intro n h
    rw [zod] at h
    by_cases hk: (p.2 == .cell)=true
    · rw [if_pos hk,ze6] at h
      rcases List.mem_append.mp h with h | h
      · exact List.mem_cons_of_mem _ (ih h)
      · exact List.mem_cons.mpr (.inl (by rw [(Prod.mk.inj (List.mem_singleton.mp h)).1,<- eq_of_beq hk]))
    · rw [if_neg hk] at h; exact List.mem_cons_of_mem _ (ih h)
theorem zkj {x: Str} {names: List (Str × NameKind)} (h: (x,NameKind.cell) ∈ names): ∀ {n: Nat} {acc: List (Str × Addr)},∃ a,(x,a) ∈ cellsFrom n names acc:=by
  induction names with
  | nil=>exact nomatch h
  | cons p r ih=>
    intro n acc
    rcases List.mem_cons.mp h with e | h
    · rw [<- e,zod,if_pos (beq_self_eq_true _),ze6]
      exact ⟨n,List.mem_append_right _ List.mem_cons_self⟩
    · rw [zod]
      by_cases hk: (p.2 == .cell)=true
      · rw [if_pos hk]; exact ih h
      · rw [if_neg hk]; exact ih h
theorem zfj (names: List (Str × NameKind)) (n: Nat) {x: Str} {a: Addr} (h: (cellsFrom n names []).lookup x=some a): (x,NameKind.cell) ∈ names:=zua (zaq h)
theorem zh5 (names: List (Str × NameKind)) (n: Nat) {x: Str} (h: (x,NameKind.cell) ∈ names): ∃ a,(cellsFrom n names []).lookup x=some a:=by
  obtain ⟨a,ha⟩:=zkj (n:=n) (acc:=[]) h
  exact Option.isSome_iff_exists.mp (zdn ha)
theorem zlm {scope: Scope} {env: Env} {x: Str}: (relabel scope env).names.lookup x=scope.names.lookup x \/ (scope.names.lookup x=some .free/\(relabel scope env).names.lookup x=some .cell):=by
  unfold relabel
  simp only
  generalize scope.names=names
  induction names with
  | nil=>exact .inl rfl
  | cons p r ih=>
    obtain ⟨n,k⟩:=p
    simp only [List.map_cons]
    by_cases hx: x=n
    · subst hx
      by_cases hc: (k == .free && env.scope.kind == .function && env.kindOf x == some .cell)=true
      · rw [if_pos hc]
        simp only [Bool.and_eq_true] at hc
        have: k = .free:=by simpa using hc.1.1
        subst this
        exact .inr (by simp [List.lookup_cons])
      · rw [if_neg hc]; exact .inl (by simp [List.lookup_cons])
    · have hb: (x == n)=false:=beq_eq_false_iff_ne.mpr hx
      split
      · simp only [List.lookup_cons,hb]; exact ih
      · simp only [List.lookup_cons,hb]; exact ih
section
variable {M: Model} {A: Around} {E: Value -> Shared -> Prop} {s: Shared}
theorem zhf {scope: Scope} {globals: Addr} {cl: List (Str × Addr)} {qual: Str} {env: Env} {Q: Env -> Shared -> Prop}
    (h: Q (newEnv scope s.heap.objs.size globals (cellsFrom (s.heap.objs.size + 1) scope.names cl) qual none .none (some env) builtinsNs) { s with heap:=pushCells (s.heap.push { cls:=.type "dict",data:=.dict #[] }) scope.names }) :
    wpAny M A (newFunctionEnv scope globals cl [] qual none .none (some env)) Q E s:=by
  simp only [newFunctionEnv,Option.isSome_some,if_true]
  refine wpAny_bind (wpAny_alloc ?_)
  refine wpAny_bind (wpAny_layCells _ (fun name kind cells=>by cases hkc: kind == NameKind.cell <;> simp [hkc]) _ _ _ _ ?_)
  rw [show ({ s with heap:=s.heap.push { cls:=.type "dict",data:=.dict #[] } }: Shared).heap.objs.size=s.heap.objs.size + 1 from Heap.size_push ..]
  exact wpAny_pure h
end
end Mine
namespace Mine
open PySem PySem.Calls PyProof.Rows
structure ScOk (c: CE) (scope: Scope): Prop where
  kind: scope.kind = .function
  nodup: (scope.names.map (·.1)).Nodup
  free: ∀ n,(n,NameKind.free) ∈ scope.names -> (c.sc.names.lookup n=some .cell \/ c.sc.names.lookup n=some .free) /\ ∀ i,idx c.σ n=some i -> visK c.base i (c.sc.names.lookup n)=true
section
variable {C: CX} {c: CE} {env: Env} {W O: Addr -> Prop} {ρ: Rho}
noncomputable def zb8 (scope: Scope) (L: Addr) (env: Env): Env:=
  { newEnv scope L env.globals (cellsFrom (L + 1) scope.names (zb1 env scope.names [])) env.qual none .none (some env) builtinsNs with scope:=relabel scope env }
theorem zxj {s: Shared} {scope: Scope} (ev: zam C c env W O s.heap ρ) (a: At C W s) (so: ScOk c scope) :
    let h':=pushCells (s.heap.push { cls:=.type "dict",data:=.dict #[] }) scope.names
    (∀ b o,s.heap.get? b=some o -> h'.get? b=some o) /\
    ∃ N: Addr -> Prop,(∀ b,N b -> C.n₀<=b/\s.heap.get? b=none /\ ∃ o,h'.get? b=some o)/\(∀ b,N b -> s.heap.objs.size<=b)/\(∀ b,OWr { c with sc:=scope,base:=c.σ.length } (zb8 scope s.heap.objs.size env) b -> N b) /\
      zam C { c with sc:=scope,base:=c.σ.length } (zb8 scope s.heap.objs.size env) (fun b=>W b \/ N b) (fun b=>O b \/ N b) h' ρ:=by
  intro h'
  have hkeep: ∀ b o,s.heap.get? b=some o -> h'.get? b=some o:=fun b o e=>pushCells_keeps _ _ b o (Heap.get?_push_of_some _ e)
  refine ⟨hkeep,?_⟩
  have hcells:=cellsFrom_ok scope.names (s.heap.push { cls:=.type "dict",data:=.dict #[] }) (s.heap.objs.size + 1) [] ⟨fun _ _ hm=>(nomatch hm),List.Pairwise.nil⟩ (by rw [Heap.size_push]; exact Nat.le_refl _)
  rw [Heap.size_push] at hcells
  let nc:=cellsFrom (s.heap.objs.size + 1) scope.names []
  let cl:=zb1 env scope.names []
  have hcs: (zb8 scope s.heap.objs.size env).cells=nc ++ cl:=ze6 _ _ _
  have hL: h'.Ns s.heap.objs.size fun _=>none:=(Heap.Ns.new s.heap (.type "dict")).keeps (pushCells_keeps _ _)
  let N: Addr -> Prop:=fun b=>b=s.heap.objs.size \/ ∃ n,(n,b) ∈ nc
  have hN: ∀ b,N b -> C.n₀<=b/\s.heap.get? b=none /\ ∃ o,h'.get? b=some o:=fun b hb=>by
    rcases hb with rfl | ⟨n,hn⟩
    · obtain ⟨o,_,_,ho,_⟩:=hL
      exact ⟨a.low,zar,o,ho⟩
    · obtain ⟨⟨o,ho,_⟩,hlo⟩:=hcells.empty n b hn
      exact ⟨Nat.le_trans (Nat.le_succ_of_le a.low) hlo,zi0 (Nat.le_of_succ_le hlo),o,ho⟩
  have hfree: ∀ n,(n,NameKind.free) ∈ scope.names -> ∃ b v,env.cells.lookup n=some b/\O b/\s.heap.IsCell b v:=fun n hn=>ev.cells n (so.free n hn).1
  have look_free: ∀ {n: Str},scope.names.lookup n=some .free -> ∃ b v,(zb8 scope s.heap.objs.size env).cells.lookup n=some b/\env.cells.lookup n=some b/\O b/\s.heap.IsCell b v:=fun {n} hn=>by
    have hm:=zaq hn
    obtain ⟨b,v,h1,h2,h3⟩:=hfree n hm
    refine ⟨b,v,?_,h1,h2,h3⟩
    rw [hcs,List.lookup_append]
    have: nc.lookup n=none:=by
      cases hc: nc.lookup n with
      | none=>rfl
      | some b'=>
        have:=zcm so.nodup (zfj _ _ hc)
        rw [hn] at this; cases this
    rw [this,Option.none_or]
    obtain ⟨b',hb'⟩:=zl9 env scope.names hm
    have:=(zcr env scope.names hb').2
    rw [h1] at this
    simp at this
    subst this
    exact hb'
  have kindOf': ∀ x,(zb8 scope s.heap.objs.size env).kindOf x=scope.names.lookup x \/ (scope.names.lookup x=some .free/\(zb8 scope s.heap.objs.size env).kindOf x=some .cell):=fun x=>zlm
  have varsKey: ∀ x i sl,idx c.σ x=some i -> visK c.σ.length i (scope.names.lookup x)=true -> ρ[i]? = some (some sl) ->
      ∃ v,zbl s.heap env C.n₀ x v/\zbl h' (zb8 scope s.heap.objs.size env) C.n₀ x v/\RepS C s.heap W (fun b=>O b/\b ≠ env.locals) sl v/\visK c.base i (c.sc.names.lookup x)=true:=fun x i sl h1 h2 h3=>by
    have hlt:=zfr h1
    have hf: scope.names.lookup x=some .free:=by
      revert h2
      cases scope.names.lookup x with
      | none=>simp [visK]
      | some k=>induction k <;> simp [visK] <;> lia
    have hvis:=(so.free x (zaq hf)).2 i h1
    obtain ⟨v,g1,g2⟩:=ev.vars x i sl h1 hvis h3
    obtain ⟨b,u,k1,k2,k3,k4⟩:=look_free hf
    refine ⟨v,g1,?_,g2,hvis⟩
    have hkk: (zb8 scope s.heap.objs.size env).kindOf x=some .cell \/ (zb8 scope s.heap.objs.size env).kindOf x=some .free:=by
      rcases kindOf' x with h | ⟨_,h⟩
      · exact .inr (h.trans hf)
      · exact .inl h
    induction g1 with
    | loc k n e'=>
      exfalso
      rcases ev.names x with h | ⟨h,h'⟩ | h
      · rcases (so.free x (zaq hf)).1 with g | g <;> rw [h,g] at k <;> cases k
      · rw [h'] at k; cases k
      · rcases (so.free x (zaq hf)).1 with g | g <;> rw [h] at g <;> cases g
    | cell k l lo i'=>
      rw [k2] at l; replace l:=oj l; subst l
      obtain ⟨o,ho,hd⟩:=i'
      exact .cell hkk k1 lo ⟨o,hkeep _ _ ho,hd⟩
  refine ⟨N,hN,fun b hb=>?_,fun b hb=>?_,?_⟩
  · rcases hb with rfl | ⟨n,hn⟩
    · exact Nat.le_refl _
    · exact Nat.le_of_succ_le (hcells.empty n b hn).2
  · rcases hb with rfl | ⟨x,h1,h2⟩
    · exact .inl rfl
    · rw [hcs,List.lookup_append] at h2
      cases hc: nc.lookup x with
      | some b'=>rw [hc] at h2; simp at h2; subst h2; exact .inr ⟨x,zaq hc⟩
      | none=>
        obtain ⟨b',hb'⟩:=zh5 scope.names (s.heap.objs.size + 1) (zaq h1)
        rw [show nc.lookup x=some b' from hb'] at hc; cases hc
  · have hne: ∀ b o,s.heap.get? b=some o -> b ≠ s.heap.objs.size:=fun b o e h=>by subst h; exact Nat.lt_irrefl _ (Heap.lt_size e)
    exact {
      glob:=ev.glob
      bui:=ev.bui
      kind:=so.kind
      ow:=fun b hb=>by rcases hb with hb | hb; exact .inl (ev.ow b hb); exact .inr hb
      lo:=fun b hb=>by rcases hb with hb | hb; exact ev.lo b hb; exact (hN b hb).1
      loc:=.inr (.inl rfl)
      ns:=⟨_,hL⟩
      names:=fun x=>(kindOf' x).imp_right .inl
      cells:=fun x hx=>by
        rcases hx with hx | hx
        · obtain ⟨b,hb⟩:=zh5 scope.names (s.heap.objs.size + 1) (zaq hx)
          refine ⟨b,none,?_,.inr (.inr ⟨x,zaq hb⟩),(hcells.empty x b (zaq hb)).1⟩
          rw [hcs,List.lookup_append,show nc.lookup x=some b from hb]; rfl
        · obtain ⟨b,u,k1,k2,k3,o,ho,hd⟩:=look_free hx
          exact ⟨b,u,k1,.inl k3,o,hkeep _ _ ho,hd⟩
      cinj:=fun x y b hx hy=>by
        rw [hcs,List.lookup_append] at hx hy
        have old: ∀ {z},cl.lookup z=some b -> env.cells.lookup z=some b /\ ∃ o,s.heap.get? b=some o:=fun {z} hz=>by
          obtain ⟨g1,g2⟩:=zcr env scope.names hz
          obtain ⟨b',v,k1,k2,o,ho,_⟩:=hfree z g1
          rw [k1] at g2; simp at g2; subst g2
          exact ⟨k1,o,ho⟩
        have new: ∀ {z},nc.lookup z=some b -> s.heap.get? b=none:=fun {z} hz=>(hN b (.inr ⟨z,zaq hz⟩)).2.1
        cases hcx: nc.lookup x with
        | some bx=>
          rw [hcx] at hx; simp at hx; subst hx
          cases hcy: nc.lookup y with
          | some by'=>
            rw [hcy] at hy; simp at hy; subst hy
            exact name_of_addr hcells.apart (zaq hcx) (zaq hcy)
          | none=>
            rw [hcy,Option.none_or] at hy
            obtain ⟨_,o,ho⟩:=old hy
            rw [new hcx] at ho; exact zae ho
        | none=>
          rw [hcx,Option.none_or] at hx
          obtain ⟨e1,o,ho⟩:=old hx
          cases hcy: nc.lookup y with
          | some by'=>
            rw [hcy] at hy; simp at hy; subst hy
            rw [new hcy] at ho; exact zae ho
          | none=>
            rw [hcy,Option.none_or] at hy
            exact ev.cinj x y b e1 (old hy).1
      top:=ev.top
      vars:=fun x i sl h1 h2 h3=>by
        obtain ⟨v,g1,g2,g3,_⟩:=varsKey x i sl h1 h2 h3
        refine ⟨v,g2,?_⟩
        have hS: Stay C s.heap h' W (fun b=>W b \/ N b):=Stay.grow (fun b o _ e=>hkeep b o e) fun b hb=>by rcases hb with hb | hb; exact .inl hb; exact .inr (hN b hb).2.1
        induction g3 with
        | val r=>exact .val (Rep.stay hS _ _ r)
        | own w lo l r z=>exact .own ⟨.inl w.1,hne _ _ l⟩ lo (hkeep _ _ l) (RepL.stay hS _ _ r) z
        | ownD w lo g r=>
          obtain ⟨o,e1,e2,ho,hr⟩:=g
          exact .ownD ⟨.inl w.1,hne _ _ ho⟩ lo ⟨o,e1,e2,hkeep _ _ ho,hr⟩ (RepD.stay hS _ _ r)
      apart:=fun x y i j sl tl v h1 h2 k1 k2 h3 h4 h5 h6 h7 h8=>by
        obtain ⟨u,g1,g2,_,g4⟩:=varsKey x i sl h1 k1 h3
        obtain ⟨u',g1',g2',_,g4'⟩:=varsKey y j tl h2 k2 h4
        have e1:=h7.fn g2
        have e2:=h8.fn g2'
        subst e1 e2
        exact ev.apart x y i j sl tl _ h1 h2 g4 g4' h3 h4 h5 h6 g1 g1' }
end
section
variable {c: CE} {pos: Pos}
noncomputable def zda (c: CE) (scope: Scope): CE:={ c with sc:=scope,base:=c.σ.length }
structure CompEnd (C: CX) (W: Addr -> Prop) (s s₅: Shared) (L D: Addr) (P: Addr -> Prop) (l: List PV): Prop where
  ext: Ext C s s₅
  priv: ∀ b,P b -> C.n₀<=b/\s.heap.get? b=none
  pL: P L
  pD: ¬ P D
  wD: ¬ W D
  dn: s.heap.get? D=none
  dlo: C.n₀<=D
  ns: ∃ m,s₅.heap.Ns L m
  acc: ∃ vs n,s₅.heap.get? D=some (za5 vs n)/\RepL C s₅.heap (fun b=>W b \/ P b) l vs
  size: l.length<=sizeLine
theorem CompEnd.fin {C: CX} {W: Addr -> Prop} {s s₅: Shared} {L D: Addr} {P: Addr -> Prop} {l: List PV} (x: CompEnd C W s s₅ L D P l) {h': Heap} (hs: Heap.SameBut L s₅.heap h'): Ext C s { s₅ with heap:=h' } /\ Rep C h' W (.list l) (.ref D):=by
  have hDL: D ≠ L:=fun h=>by subst h; exact x.pD x.pL
  refine ⟨⟨⟨fun b o lo eo=>(hs.2 b (fun h=>?_)).trans (x.ext.new b o lo eo),fun hi=>C.keepBut (x.priv _ x.pL).1 (fun o eo=>by obtain ⟨m,hn⟩:=x.ns; exact z3d hn eo) (fun b o hb eo=>(hs.2 b hb).trans eo) (x.ext.inv hi),x.ext.gens,x.ext.drawn,x.ext.os⟩,x.ext.toks⟩,?_⟩
  · subst h; rw [(x.priv _ x.pL).2] at eo; exact zae eo
  · obtain ⟨vs,n,g1,g2⟩:=x.acc
    refine ⟨D,vs,n,rfl,x.wD,x.dlo,(hs.2 D hDL).trans g1,RepL.stay (fun b o lo hw eo=>⟨(hs.2 b (fun h=>?_)).trans eo,fun hb=>hw (.inl hb)⟩) _ _ g2,x.size⟩
    subst h; exact hw (.inr x.pL)
theorem zoe {elt t iter: Expr} {ifs: List Expr} {gs: List Comprehension} {scope: Scope} {x: PE} {xs: List Str} {ts: List Nat} {single: Bool} {it: PI} {fs: List PE} {ps: List PG} {c2: CE}
    (si: SI c iter it single) (so: ScOk c scope) (gok: GOk (zda c scope) t xs ts single) (hifs: SEs { zda c scope with σ:=xs.reverse ++ c.σ } ifs fs) (sgs: SGs { zda c scope with σ:=xs.reverse ++ c.σ } gs ps c2) (hx: SE c2 elt x)
    {C: CX} {G: GT} {K: Nat} (ok: FnOk C G K) {env: Env} {W O: Addr -> Prop} {s: Shared} {ρ: Rho} {A: Around} (ev: zam C c env W O s.heap ρ) (a: At C W s) (rm: Room A K) {items: List PV} {rs: List (List PV)}
    (hit: zen G it ρ=some items) (hall: (single || items.all isTup)=true) (hrs: items.mapM (zt8 G ts single fs ps x ρ)=some rs) (hsz: zak rs.flatten.length=true) {use: Option (Value -> Sem Unit)} {Q E: Value -> Shared -> Prop}
    (k: ∀ s₅ L D P,CompEnd C W s s₅ L D P rs.flatten -> compPost (model C.prog C.w) A E use Q (.ref D) L (.ok .next) s₅) :
    wpAny (model C.prog C.w) A (comprehension (.ListComp elt (⟨t,iter,ifs,0⟩ :: gs) scope pos) scope env (firstIterPos (⟨t,iter,ifs,0⟩ :: gs) pos) (newList []) (firstAsync (⟨t,iter,ifs,0⟩ :: gs)) (firstIter (⟨t,iter,ifs,0⟩ :: gs) env) use) Q E s:=by
  have hsz':=of_decide_eq_true hsz
  have hfree: ∀ n,(n,NameKind.free) ∈ scope.names -> ∃ b,env.cells.lookup n=some b:=fun n hn=>by obtain ⟨b,_,hb,_⟩:=ev.cells n (so.free n hn).1; exact ⟨b,hb⟩
  refine wpAny_comprehension_free (use:=use) rfl (si.f env) (zh4 hfree) so.kind (fun y hy hl=>by
    obtain ⟨n,k⟩:=y
    simp only at hl
    subst hl
    exact zcm so.nodup hy) ?_
  refine si.v C G K ok env W O s ρ A items ev a rm hit hall _ _ fun I s₂ fp wr St e₂ src₂ st₂ hw₂ hf₂ hz₂=>?_
  refine wpAny_newObj_type (T:="list") ?_ (by show ([]: List Value).toArray.size<=sizeLine; exact Nat.zero_le _)
  let s₃: Shared:={ s₂ with heap:=s₂.heap.push { cls:=.type "list",dict:=none,data:=.seq ([]: List Value).toArray } }
  let D: Addr:=s₂.heap.objs.size
  have e₃: Ext C s₂ s₃:=zcd
  have hs3z: s₃.heap.objs.size=D + 1:=Heap.size_push ..
  let W₃: Addr -> Prop:=fun b=>W b \/ b ∈ wr \/ b=D
  have wrocc: ∀ b ∈ wr,∃ o,s₂.heap.get? b=some o:=src₂.live st₂
  have a₂:=a.ext e₂
  have wrW: ∀ b,W b -> b ∉ wr:=fun b hb hm=>by obtain ⟨_,o,ho⟩:=a.wocc b hb; have:=(hw₂ b hm).2; rw [ho] at this; cases this
  have DW: ¬ W D:=a₂.nw
  have Dwr: D ∉ wr:=fun hm=>by obtain ⟨o,ho⟩:=wrocc D hm; exact Nat.lt_irrefl _ (Heap.lt_size ho)
  have a₃: At C W₃ s₃:=⟨e₃.inv a₂.inv,fun b hb=>by
    rcases hb with hb | hb | rfl
    · exact (a₂.ext e₃).wocc b hb
    · obtain ⟨o,ho⟩:=wrocc b hb; exact ⟨(hw₂ b hb).1,o,Heap.get?_push_of_some _ ho⟩
    · exact ⟨a₂.low,_,Heap.get?_push_size _ rfl⟩,(a₂.ext e₃).tok⟩
  have ev₃: zam C c env W₃ O s₃.heap ρ:=ev.grow (fun b o lo eo=>(e₂.trans e₃).new b o lo eo) (fun b hb=>.inl hb) fun b hb=>by
    rcases hb with hb | hb | rfl
    · exact .inl hb
    · exact .inr (hw₂ b hb).2
    · exact .inr (ze5 (W:=W) e₂ a₂.low zar)
  obtain ⟨keep₄,N,hN,hNz,hOW,ev₄⟩:=zxj (scope:=scope) ev₃ a₃ so
  refine zhf ?_
  let s₄: Shared:={ s₃ with heap:=pushCells (s₃.heap.push { cls:=.type "dict",data:=.dict #[] }) scope.names }
  have e₄: Ext C s₃ s₄:=⟨.grow keep₄,Nat.le_refl _⟩
  let W₄: Addr -> Prop:=fun b=>W₃ b \/ N b
  let O₄: Addr -> Prop:=fun b=>O b \/ N b
  have a₄: At C W₄ s₄:=⟨e₄.inv a₃.inv,fun b hb=>by
    rcases hb with hb | hb
    · exact (a₃.ext e₄).wocc b hb
    · exact ⟨(hN b hb).1,(hN b hb).2.2⟩,(a₃.ext e₄).tok⟩
  have NwrD: ∀ b,N b -> b ∉ wr/\b ≠ D /\ ¬ W b:=fun b hb=>by
    have hn:=(hN b hb).2.1
    refine ⟨fun hm=>?_,fun h=>?_,fun hw=>?_⟩
    · obtain ⟨o,ho⟩:=wrocc b hm; rw [Heap.get?_push_of_some _ ho] at hn; cases hn
    · have:=hNz b hb; rw [hs3z] at this; subst h; exact Nat.lt_irrefl _ this
    · obtain ⟨_,o,ho⟩:=(a₂.ext e₃).wocc b hw; rw [ho] at hn; cases hn
  have fresh₄: ∀ b,W₄ b -> W b \/ (b ∈ wr \/ (b=D \/ N b)):=fun b hb=>by
    rcases hb with (hb | hb | hb) | hb
    · exact .inl hb
    · exact .inr (.inl hb)
    · exact .inr (.inr (.inl hb))
    · exact .inr (.inr (.inr hb))
  have src₄: Src C A W₄ s₄.heap I single fp wr items St:=src₂.stay fun b o lo hw eo=>⟨keep₄ b o (Heap.get?_push_of_some _ eo),fun hb=>by
    rcases fresh₄ b hb with h | h | h | h
    · exact hw (.inl h)
    · exact hw (.inr h)
    · subst h; exact Nat.lt_irrefl _ (Heap.lt_size eo)
    · have:=(hN b h).2.1; rw [Heap.get?_push_of_some _ eo] at this; cases this⟩
  have st₄: St 0 s₄.heap:=src₂.frame st₂ fun b _ o eo=>keep₄ b o (Heap.get?_push_of_some _ eo)
  have sa₄: SrcAt C W₄ O₄ s₄.heap fp wr:=⟨fun b hb=>⟨.inl (.inr (.inl hb)),fun h=>by
      rcases h with h | h
      · exact wrW b (ev.ow b h) hb
      · exact (NwrD b h).1 hb⟩,fun b hb=>by
      refine ⟨(hf₂ b hb).1,?_⟩
      by_cases hm: b ∈ wr
      · exact .inl hm
      · refine .inr fun h=>?_
        rcases fresh₄ b h with h | h | h | h
        · rcases (hf₂ b hb).2 with h2 | h2
          · exact hm h2
          · exact h2 h
        · exact hm h
        · have:=(by obtain ⟨_,ho⟩:=hz₂ b hb; exact Heap.lt_size ho: b < s₂.heap.objs.size); subst h; exact Nat.lt_irrefl _ this
        · have h1:=hNz b h; rw [hs3z] at h1; have:=(by obtain ⟨_,ho⟩:=hz₂ b hb; exact Heap.lt_size ho: b < s₂.heap.objs.size); exact Nat.lt_irrefl _ (Nat.lt_trans this (Nat.lt_of_succ_le h1))⟩
  have ls₄: LS C (zda c scope) (zb8 scope s₃.heap.objs.size env) W₄ O₄ s₄ ρ D []:=⟨ev₄,a₄,⟨a₂.low,.inl (.inr (.inr rfl)),[],0,keep₄ _ _ (Heap.get?_push_size _ rfl),rfl⟩,fun h=>by
    rcases h with h | h
    · exact DW (ev.ow D h)
    · exact (NwrD D h).2.1 rfl⟩
  have inner: codeAny (model C.prog C.w) A (.compLoop (.ListComp elt (⟨t,iter,ifs,0⟩ :: gs) scope pos) 0 (.ref I) (.ref D) (zb8 scope s₃.heap.objs.size env)) (compPost (model C.prog C.w) A E use Q (.ref D) s₃.heap.objs.size) s₄:=by
    refine zt9 ok rm gs (c:=zda c scope) sgs rfl rfl gok hifs hx ls₄ src₄ sa₄ st₄ (Nat.zero_le _) Dwr (rs:=rs) (by rw [List.drop_zero]; exact hrs) (by rw [List.length_nil,Nat.zero_add,sizeLine_eq]; exact hsz') fun s₅ e₅ ev₅ acc₅=>?_
    have hL3: s₃.heap.objs.size ≠ D:=by rw [hs3z]; exact Nat.succ_ne_self _
    have hLN: N s₃.heap.objs.size:=hOW _ (.inl rfl)
    obtain ⟨vs,n,g1,g2⟩:=acc₅.at'
    refine k s₅ s₃.heap.objs.size D N ⟨⟨⟨fun b o lo eo=>?_,fun hi=>e₅.inv (e₄.inv (e₃.inv (e₂.inv hi))),e₅.gens.trans e₂.gens,e₅.drawn.trans e₂.drawn,e₅.os.trans e₂.os⟩,Nat.le_trans e₂.toks e₅.toks⟩,fun b hb=>⟨(hN b hb).1,ze5 (W:=W) (e₂.trans e₃) (hN b hb).1 (hN b hb).2.1⟩,hLN,
      fun h=>(NwrD D h).2.1 rfl,DW,ze5 (W:=W) e₂ a₂.low zar,a₂.low,ev₅.ns,⟨vs,n,g1,?_⟩,by rw [sizeLine_eq]; exact hsz'⟩
    · have o2:=e₂.new b o lo eo
      have hlt:=Heap.lt_size o2
      have o4: s₄.heap.get? b=some o:=keep₄ b o (Heap.get?_push_of_some _ o2)
      have hnN: ¬ N b:=fun hb=>by have:=hNz b hb; rw [hs3z] at this; exact Nat.lt_irrefl _ (Nat.lt_trans hlt (Nat.lt_of_succ_le this))
      have hwr: b ∉ wr:=fun hm=>by have:=(hw₂ b hm).2; rw [eo] at this; cases this
      exact e₅.new b o lo (fun h=>by rcases h with h | h; exact hnN (hOW b h); subst h; exact Nat.lt_irrefl _ hlt) hwr o4
    · rw [List.nil_append] at g2
      exact RepL.stay (fun b o lo hw eo=>⟨eo,fun hb=>by
        rcases hb with hb | hb
        · exact hw ⟨.inl (.inl hb),wrW b hb⟩
        · exact hw ⟨.inr hb,(NwrD b hb).1⟩⟩) _ _ g2
  exact zc9 rfl inner (src₄.self st₄ inner)
theorem zma {G: GT} {x: PE} {ts: List Nat} {single: Bool} {it: PI} {fs: List PE} {ps: List PG} {ρ: Rho} {p: PV} (h: zag G (.comp x (.mk ts single it fs :: ps)) ρ=some p) :
    ∃ items rs,zen G it ρ=some items/\(single || items.all isTup)=true/\items.mapM (zt8 G ts single fs ps x ρ)=some rs/\zak rs.flatten.length=true/\p = .list rs.flatten:=by
  simp only [eE,pE] at h
  obtain ⟨l,h1,h2⟩:=bind_some h
  obtain ⟨items,hit,h1⟩:=bind_some h1
  obtain ⟨hall,h3⟩:=zck h1
  obtain ⟨rs,hrs,rfl⟩:=zaj h3
  obtain ⟨hsz,rfl⟩:=zau h2
  exact ⟨items,rs,hit,hall,hrs,hsz,rfl⟩
theorem zub {elt t iter: Expr} {ifs: List Expr} {gs: List Comprehension} {scope: Scope} {x: PE} {xs: List Str} {ts: List Nat} {single: Bool} {it: PI} {fs: List PE} {ps: List PG} {c2: CE}
    (si: SI c iter it single) (so: ScOk c scope) (gok: GOk (zda c scope) t xs ts single) (hifs: SEs { zda c scope with σ:=xs.reverse ++ c.σ } ifs fs) (sgs: SGs { zda c scope with σ:=xs.reverse ++ c.σ } gs ps c2) (hx: SE c2 elt x) :
    SE c (.ListComp elt (⟨t,iter,ifs,0⟩ :: gs) scope pos) (.comp x (.mk ts single it fs :: ps)):=.only (fun C G K ok env W O s ρ A p ev a rm h Q E q=>by
  obtain ⟨items,rs,hit,hall,hrs,hsz,rfl⟩:=zma h
  rw [eval_ListComp]
  refine zoe si so gok hifs sgs hx ok ev a rm hit hall hrs hsz fun s₅ L D P ce=>?_
  obtain ⟨m,hm⟩:=ce.ns
  exact ⟨m,hm,fun h' hs=>q _ _ (ce.fin hs).1 (ce.fin hs).2⟩) (fun G ρ=>by simp only [tE]) (fun _ _=>rfl)
end
end Mine
namespace Mine
open PySem PySem.Calls PyProof.Rows
set_option backward.match.sparseCases false
structure Fr' (C: CX) (s₀: Shared) (W₀ O₀ W O: Addr -> Prop) (s: Shared): Prop where
  ext: ExtO C O₀ s₀ s
  w: ∀ b,W b -> W₀ b \/ O b
  w0: ∀ b,W₀ b -> W b
  fresh: ∀ b,O b -> O₀ b \/ s₀.heap.get? b=none
  dj: ∀ b,W₀ b -> ¬ O b
section
variable {C: CX} {c: CE} {env: Env} {W₀ O₀ W O: Addr -> Prop} {s₀ s s': Shared} {ρ: Rho}
theorem Fr'.step {X: Addr -> Prop} (f: Fr' C s₀ W₀ O₀ W O s) (x: ExtO C X s s') (hX: ∀ b,X b -> O b): Fr' C s₀ W₀ O₀ W O s' where
  ext:=⟨fun b o lo h0 e=>x.new b o lo (fun h=>by rcases f.fresh b (hX b h) with h1 | h1; exact h0 h1; rw [h1] at e; exact zae e) (f.ext.new b o lo h0 e),
    fun b o lo e=>by obtain ⟨o',e'⟩:=f.ext.occ b o lo e; exact x.occ b o' lo e',fun h=>x.inv (f.ext.inv h),x.gens.trans f.ext.gens,x.drawn.trans f.ext.drawn,x.os.trans f.ext.os,Nat.le_trans f.ext.toks x.toks⟩
  w:=f.w
  w0:=f.w0
  fresh:=f.fresh
  dj:=f.dj
theorem Fr'.ext' (f: Fr' C s₀ W₀ O₀ W O s) (x: Ext C s s'): Fr' C s₀ W₀ O₀ W O s':=⟨f.ext.trans x.toO,f.w,f.w0,f.fresh,f.dj⟩
noncomputable def After (C: CX) (c: CE) (env: Env) (s₀: Shared) (W₀ O₀: Addr -> Prop) (Q: Flow -> Shared -> Prop): Out -> Prop
  | .next ρ'=>∀ W O s',Fr' C s₀ W₀ O₀ W O s' -> zam C c env W O s'.heap ρ' -> At C W s' -> Q .next s'
  | .ret v=>∀ val s',ExtO C O₀ s₀ s' -> Rep C s'.heap W₀ v val -> Q (.ret val) s'
noncomputable def SSx (c: CE) (run: Env -> Sem Flow) (l: GT -> Rho -> Option Out): Prop:=∀ (C: CX) (G: GT) (K: Nat) (_: FnOk C G K) (env: Env) (A: Around) (s₀: Shared) (W₀ O₀: Addr -> Prop),Room A K -> ∀ (W O: Addr -> Prop) (s: Shared) (ρ: Rho) (out: Out),
    Fr' C s₀ W₀ O₀ W O s -> zam C c env W O s.heap ρ -> At C W s -> l G ρ=some out -> ∀ (Q: Flow -> Shared -> Prop) (E: Value -> Shared -> Prop),After C c env s₀ W₀ O₀ Q out -> wpAny (model C.prog C.w) A (run env) Q E s
noncomputable def SS (c: CE) (st: Stmt) (l: List PS): Prop:=SSx c (exec st) fun G ρ=>zap G l ρ
noncomputable def SSs (c: CE) (ss: List Stmt) (l: List PS): Prop:=SSx c (execs ss) fun G ρ=>zap G l ρ
theorem zm1 {G: GT}: ∀ (a b: List PS) (ρ: Rho),zap G (a ++ b) ρ=match zap G a ρ with | some (.next ρ')=>zap G b ρ' | r=>r:=by
  intro zz
  induction zz with
  | nil=>exact fun b ρ=>rfl
  | cons p a ih=>
    intro b ρ
    rw [List.cons_append,ztr,ztr]
    cases zbr G p ρ with
    | none=>rfl
    | some o=>induction o with
      | next ρ'=>exact ih b ρ'
      | ret v=>rfl
theorem z02: SSs c [] []:=fun C G K ok env A s₀ W₀ O₀ rm W O s ρ out f ev a h Q E k=>by
  simp only [pE] at h; replace h:=oj h; subst h
  exact wpAny_execs_nil (k W O s f ev a)
theorem zxk {st: Stmt} {ss: List Stmt} {l l': List PS} (h1: SS c st l) (h2: SSs c ss l'): SSs c (st :: ss) (l ++ l'):=fun C G K ok env A s₀ W₀ O₀ rm W O s ρ out f ev a h Q E k=>by
  replace h:=(zm1 l l' ρ).symm.trans h
  cases hl: zap G l ρ with
  | none=>rw [hl] at h; exact zae h
  | some o=>
    rw [hl] at h
    refine wpAny_execs_cons (h1 C G K ok env A s₀ W₀ O₀ rm W O s ρ o f ev a hl _ E ?_)
    induction o with
    | next ρ'=>exact fun W' O' s' f' ev' a'=>h2 C G K ok env A s₀ W₀ O₀ rm W' O' s' ρ' out f' ev' a' h Q E k
    | ret v=>replace h:=oj h; subst h; exact k
theorem z3s {e: Expr} {x: PE} {pos: Pos} (h: SE c e x): SS c (.Return (some e) pos) [.ret x]:=fun C G K ok env A s₀ W₀ O₀ rm W O s ρ out f ev a hp Q E k=>by
  simp only [pE,xE] at hp
  cases hx: zag G x ρ with
  | none=>rw [hx] at hp; exact zae hp
  | some p=>
    rw [hx] at hp; replace hp:=oj hp; subst hp
    refine wpAny_Return_some (h.val ok ev a rm hx _ _ fun v s' e' r'=>?_)
    exact k v s' (f.ext.trans e'.toO) (Rep.stay (fun b o lo hw eo=>⟨eo,fun hb=>hw (f.w0 b hb)⟩) _ _ r')
theorem za8 {G: GT} {p: PS} {ρ: Rho}: zap G [p] ρ=zbr G p ρ:=by
  simp only [pE]
  cases zbr G p ρ with
  | none=>rfl
  | some o=>induction o <;> rfl
theorem z3t {t: Expr} {x: PE} {a b: List Stmt} {la lb: List PS} {pos: Pos} (ht: SE c t x) (ha: SSs c a la) (hb: SSs c b lb): SS c (.If t a b pos) [.ite x la lb]:=fun C G K ok env A s₀ W₀ O₀ rm W O s ρ out f ev at' h Q E k=>by
  simp only [za8,xE] at h
  obtain ⟨z,h1,h⟩:=bind_some h
  refine wpAny_If (ht.tst ok ev at' rm h1 _ _ fun s₁ e₁=>?_)
  cases z with
  | true=>exact ha C G K ok env A s₀ W₀ O₀ rm W O s₁ ρ out (f.ext' e₁) (ev.ext e₁.toExt0) (at'.ext e₁) h Q E k
  | false=>exact hb C G K ok env A s₀ W₀ O₀ rm W O s₁ ρ out (f.ext' e₁) (ev.ext e₁.toExt0) (at'.ext e₁) h Q E k
noncomputable def zdi (e: Expr): Bool:=Nat.ble 8 e.ctorIdx && Nat.ble e.ctorIdx 10
theorem ze7 {value: Expr} {t: Option Expr} {n: Nat} {env: Env} (h: zdi value=false) (ht: t.isSome=true): swapsWith value t n env=pure false:=by
  cases value <;> first | rfl | exact tf h
theorem z3u {e: Expr} {x: PE} {y: Str} {i: Nat} {p pos: Pos} (h: SE c e x) (hc: zdi e=false) (hi: idx c.σ y=some i) (hk: c.sc.names.lookup y=some .local \/ c.sc.names.lookup y=some .cell) :
    SS c (.Assign [.Name y p] e pos) [.asg i x]:=fun C G K ok env A s₀ W₀ O₀ rm W O s ρ out f ev a hp Q E k=>by
  simp only [za8,xE] at hp
  obtain ⟨v,hv,rfl⟩:=zaj hp
  refine wpAny_Assign_Name (h.val ok ev a rm hv _ _ fun u s₁ e₁ r₁=>?_) (ze7 hc rfl)
  refine zbn (ev.ext e₁.toExt0) hi hk (.val r₁) (fun h=>by exact ft h) fun s₂ e₂ ev₂=>?_
  exact k W O s₂ ((f.ext' e₁).step e₂ fun b hb=>(ev.ext e₁.toExt0).owr hb) ev₂ ((a.ext e₁).extO e₂)
theorem zmb {i: Nat} {x: Str} {W O: Addr -> Prop} {sl: Slot} {p: PV} {ad: Addr} (hi: idx c.σ x=some i) (hk: visK c.base i (c.sc.names.lookup x)=true) (f: Fr' C s₀ W₀ O₀ W O s) (ev: zam C c env W O s.heap ρ) (a: At C W s)
    (hsl: ρ[i]? = some (some sl)) (hown: sl.isOwn=true) (hv: zbl s.heap env C.n₀ x (.ref ad)) (hO: O ad) (hL: ad ≠ env.locals) (hcell: ∀ b v,s.heap.IsCell b v -> ad ≠ b) (hrep: Rep C s.heap (fun b=>W b/\b ≠ ad) p (.ref ad)) :
    ∃ W' O',Fr' C s₀ W₀ O₀ W' O' s/\zam C c env W' O' s.heap (setR ρ i (.val p))/\At C W' s:=by
  have h0: ∀ b,W₀ b -> b ≠ ad:=fun b hb h=>by
    subst h
    exact f.dj b hb hO
  have hS: Stay C s.heap s.heap W (fun b=>W b/\b ≠ ad):=fun b o _ hw eo=>⟨eo,fun h=>hw h.1⟩
  refine ⟨fun b=>W b/\b ≠ ad,fun b=>O b/\b ≠ ad,⟨f.ext,fun b hb=>?_,fun b hb=>⟨f.w0 b hb,h0 b hb⟩,fun b hb=>f.fresh b hb.1,fun b hb h=>f.dj b hb h.1⟩,?_,⟨a.inv,fun b hb=>a.wocc b hb.1,a.tok⟩⟩
  · rcases f.w b hb.1 with h | h
    · exact .inl h
    · exact .inr ⟨h,hb.2⟩
  · exact {
      glob:=ev.glob
      bui:=ev.bui
      kind:=ev.kind
      ow:=fun b hb=>⟨ev.ow b hb.1,hb.2⟩
      lo:=fun b hb=>ev.lo b hb.1
      loc:=⟨ev.loc,Ne.symm hL⟩
      ns:=ev.ns
      names:=ev.names
      cells:=fun y hy=>by obtain ⟨b,v,h1,h2,h3⟩:=ev.cells y hy; exact ⟨b,v,h1,⟨h2,Ne.symm (hcell b v h3)⟩,h3⟩
      cinj:=ev.cinj
      top:=fun j t hj=>by
        rcases zbi hj with ⟨rfl,_⟩ | ⟨_,hj⟩
        · exact zfr hi
        · exact ev.top j t hj
      vars:=fun y j t h1 h2 h3=>by
        rcases zbi h3 with ⟨rfl,rfl⟩ | ⟨hne,h3⟩
        · have:=zcq h1 hi; subst this
          exact ⟨_,hv,.val hrep⟩
        · obtain ⟨u,g1,g2⟩:=ev.vars y j t h1 h2 h3
          refine ⟨u,g1,?_⟩
          have hne': ∀ {a': Addr},t.isOwn=true -> u = .ref a' -> a' ≠ ad:=fun ht hu h=>by
            subst hu h
            exact hne (ev.apart y x j i t sl _ h1 hi h2 hk h3 hsl ht hown g1 hv)
          induction g2 with
          | val r=>exact .val (Rep.stay hS _ _ r)
          | own w lo l r z=>exact .own ⟨⟨w.1,hne' rfl rfl⟩,w.2⟩ lo l (RepL.stay hS _ _ r) z
          | ownD w lo g r=>exact .ownD ⟨⟨w.1,hne' rfl rfl⟩,w.2⟩ lo g (RepD.stay hS _ _ r)
      apart:=fun y z j k t u v h1 h2 k1 k2 h3 h4 h5 h6 h7 h8=>by
        rcases zbi h3 with ⟨_,rfl⟩ | ⟨_,g3⟩
        · exact ft h5
        · rcases zbi h4 with ⟨_,rfl⟩ | ⟨_,g4⟩
          · exact ft h6
          · exact ev.apart y z j k t u v h1 h2 k1 k2 g3 g4 h5 h6 h7 h8 }
theorem zuc {G: GT} {i: Nat} {x: Str} {W O: Addr -> Prop} {out: Out} (hi: idx c.σ x=some i) (hk: visK c.base i (c.sc.names.lookup x)=true) (f: Fr' C s₀ W₀ O₀ W O s) (ev: zam C c env W O s.heap ρ) (a: At C W s)
    (h: zbr G (.freeze i) ρ=some out): ∃ ρ' W' O',out = .next ρ'/\Fr' C s₀ W₀ O₀ W' O' s/\zam C c env W' O' s.heap ρ'/\At C W' s:=by
  simp only [xE] at h
  obtain ⟨sl,hs,g⟩:=Option.bind_eq_some_iff.mp h
  have hsl:=zdp hs
  obtain ⟨v,hv,r⟩:=ev.vars x i _ hi hk hsl
  induction r with
  | val r=>exact zae g
  | own w lo l r z=>
    replace g:=oj g; subst g
    rename_i xs ad vs n
    obtain ⟨W',O',g1,g2,g3⟩:=zmb (p:=.list xs) hi hk f ev a hsl rfl hv w.1 w.2 (fun b u hb=>zfs l hb) (by
      exact ⟨ad,vs,n,rfl,fun h=>h.2 rfl,lo,l,RepL.stay (fun b o _ hw eo=>⟨eo,fun h=>hw h.1⟩) _ _ r,z⟩)
    exact ⟨_,W',O',rfl,g1,g2,g3⟩
  | ownD w lo l r=>
    replace g:=oj g; subst g
    rename_i kvs ad vs
    obtain ⟨W',O',g1,g2,g3⟩:=zmb (p:=.dict kvs) hi hk f ev a hsl rfl hv w.1 w.2 (fun b u hb=>zft l hb) (by
      exact ⟨ad,vs,rfl,fun h=>h.2 rfl,lo,l,RepD.stay (fun b o _ hw eo=>⟨eo,fun h=>hw h.1⟩) _ _ r⟩)
    exact ⟨_,W',O',rfl,g1,g2,g3⟩
inductive Fzs (c: CE): List PS -> Prop
  | nil: Fzs c []
  | cons {i: Nat} {x: Str} {l: List PS}: idx c.σ x=some i -> visK c.base i (c.sc.names.lookup x)=true -> Fzs c l -> Fzs c (.freeze i :: l)
theorem zud {fz l: List PS} {run: Env -> Sem Flow} (hf: Fzs c fz) (h: SSx c run fun G ρ=>zap G l ρ): SSx c run fun G ρ=>zap G (fz ++ l) ρ:=by
  induction hf with
  | nil=>exact h
  | cons hi hk _ ih=>
    intro C G K ok env A s₀ W₀ O₀ rm W O s ρ out f ev a hp Q E k
    simp only [List.cons_append,pE] at hp
    cases hx: zbr G (.freeze _) ρ with
    | none=>rw [hx] at hp; exact zae hp
    | some o=>
      rw [hx] at hp
      obtain ⟨ρ',W',O',rfl,g1,g2,g3⟩:=zuc hi hk f ev a hx
      exact ih C G K ok env A s₀ W₀ O₀ rm W' O' s ρ' out g1 g2 g3 hp Q E k
end
end Mine
namespace Mine
open PySem PySem.Calls PyProof.Rows
section
variable {C: CX} {c: CE} {env: Env} {W₀ O₀ W O: Addr -> Prop} {s₀ s s': Shared} {ρ: Rho}
theorem ExtN.sameBut {X: Addr -> Prop} {L: Addr} {h': Heap} (hs: Heap.SameBut L s.heap h') (lo: C.n₀<=L) (nc: ∀ o,s.heap.get? L=some o -> ¬ zeo o): ExtN C X (· = L) s { s with heap:=h' } where
  new:=fun b o _ _ hb e=>(hs.2 b hb).trans e
  occ:=fun b o _ hb e=>⟨o,(hs.2 b hb).trans e⟩
  inv:=C.keepBut lo nc fun b o hb e=>(hs.2 b hb).trans e
  gens:=rfl
  drawn:=rfl
  os:=rfl
  toks:=Nat.le_refl _
theorem zpt {elt t iter: Expr} {ifs: List Expr} {gs: List Comprehension} {scope: Scope} {x: PE} {xs: List Str} {ts: List Nat} {single: Bool} {it: PI} {fs: List PE} {ps: List PG} {c2: CE} {y: Str} {i: Nat} {p pos spos: Pos}
    (si: SI c iter it single) (so: ScOk c scope) (gok: GOk (zda c scope) t xs ts single) (hifs: SEs { zda c scope with σ:=xs.reverse ++ c.σ } ifs fs) (sgs: SGs { zda c scope with σ:=xs.reverse ++ c.σ } gs ps c2) (hx: SE c2 elt x)
    (hi: idx c.σ y=some i) (hk: c.sc.names.lookup y=some .local \/ c.sc.names.lookup y=some .cell) :
    SS c (.Assign [.Name y p] (.ListComp elt (⟨t,iter,ifs,0⟩ :: gs) scope pos) spos) [.asg i (.comp x (.mk ts single it fs :: ps))]:=fun C G K ok env A s₀ W₀ O₀ rm W O s ρ out f ev a hp Q E k=>by
  simp only [za8,xE] at hp
  obtain ⟨v,hv,rfl⟩:=zaj hp
  cases hb: (env.blockKind == .function && env.kindOf y == some .local && p.line == pos.line && !(scope.names.any fun (n,k)=>n == y && (k == .local || k == .cell)))
  · have hs: swapsWith (.ListComp elt (⟨t,iter,ifs,0⟩ :: gs) scope pos) (some (.Name y p)) spos.line env=pure false:=by
      show (pure _: Sem Bool)=_
      exact congrArg pure hb
    refine wpAny_Assign_Name ((zub si so gok hifs sgs hx).val ok ev a rm hv _ _ fun u s₁ e₁ r₁=>?_) hs
    refine zbn (ev.ext e₁.toExt0) hi hk (.val r₁) (fun h=>by exact ft h) fun s₂ e₂ ev₂=>?_
    exact k W O s₂ ((f.ext' e₁).step e₂ fun b hb=>(ev.ext e₁.toExt0).owr hb) ev₂ ((a.ext e₁).extO e₂)
  · have hs: swapsWith (.ListComp elt (⟨t,iter,ifs,0⟩ :: gs) scope pos) (some (.Name y p)) spos.line env=pure true:=by
      show (pure _: Sem Bool)=_
      exact congrArg pure hb
    obtain ⟨items,rs,hit,hall,hrs,hsz,rfl⟩:=zma hv
    rw [exec_Assign_Name_used _ _ _ _ hs]
    refine wpAny_bind (wpAny_standAt (wpAny_bind ?_))
    show wpAny _ A (comprehension _ scope env _ (newList []) _ _ (some (assign (.Name y p) env)) >>= fun _=>pure ()) _ E s
    refine wpAny_bind (zoe si so gok hifs sgs hx ok ev a rm hit hall hrs hsz fun s₅ L D P ce=>?_)
    have ev₅: zam C c env (fun b=>W b \/ P b) O s₅.heap ρ:=ev.grow (fun b o lo eo=>ce.ext.new b o lo eo) (fun b hb=>.inl hb) fun b hb=>by
      rcases hb with hb | hb
      · exact .inl hb
      · exact .inr (ce.priv b hb).2
    have r₅: Rep C s₅.heap (fun b=>W b \/ P b) (.list rs.flatten) (.ref D):=by
      obtain ⟨vs,n,g1,g2⟩:=ce.acc
      exact ⟨D,vs,n,rfl,fun h=>by rcases h with h | h; exact ce.wD h; exact ce.pD h,ce.dlo,g1,g2,ce.size⟩
    have hLO: ¬ O L:=fun h=>by
      obtain ⟨_,o,ho⟩:=a.wocc L (ev.ow L h)
      rw [(ce.priv L ce.pL).2] at ho; exact zae ho
    refine wpAny_assign_Name (zbn ev₅ hi hk (.val r₅) (fun h=>by exact ft h) fun s₆ e₆ ev₆=>?_)
    obtain ⟨m,o,es,ep,ho,hr⟩:=ce.ns
    refine ⟨m,⟨o,es,ep,e₆.new L o (ce.priv L ce.pL).1 (fun h=>hLO (ev₅.owr h)) ho,hr⟩,fun h' hs'=>?_⟩
    have ex: ExtO C (OWr c env) s { s₆ with heap:=h' }:=ExtN.drop (N:=(· = L)) ce.ext.toO (e₆.toN.trans (ExtN.sameBut hs' (ce.priv L ce.pL).1 (fun o' eo=>by
      rw [e₆.new L o (ce.priv L ce.pL).1 (fun h=>hLO (ev₅.owr h)) ho] at eo
      replace eo:=oj eo; subst eo; exact zq3 hr.1))) (fun b hb=>by subst hb; exact (ce.priv _ ce.pL).2)
    refine wpAny_pure (wpAny_pure (k W O _ (f.step ex fun b hb=>ev.owr hb) ?_ (a.extO ex)))
    exact ev₆.move (fun b o lo hb eo=>(hs'.2 b (fun h=>by subst h; rcases hb with hb | hb; exact hb (.inr ce.pL); exact hLO hb)).trans eo) ev.ow fun b hb=>.inl (.inl hb)
theorem zue {op: Operator} {x y z: PV} {v u: Value} {A: Around} (e: augP op x y=some z) (rx: Rep C s.heap W x v) (ry: Rep C s.heap W y u): Snd0 C A s W (inplaceOp op v u) z:=fun Q E q=>by
  induction op with
  | Add=>
   cases x with
   | int x=>
    obtain ⟨b,rfl,g⟩:=mapI e
    obtain ⟨t,rfl⟩:=zah rx; obtain ⟨t',rfl⟩:=zah ry; induction g
    exact PySem.P.iadd_int (q _ _ .tok1 zbf)
   | str x=>
    obtain ⟨y,rfl,g⟩:=zr4 e
    obtain ⟨t,rfl,hx⟩:=za4 rx; obtain ⟨t',rfl,hy⟩:=za4 ry
    obtain ⟨hz,rfl⟩:=zau g
    have hz':=of_decide_eq_true hz
    exact PyProof.Rows.iadd_str (fun t' tk=>q _ _ (.toks _) (zco (by rw [Str.length_append,sizeLine_eq]; exact hz'))) (by rw [sizeLine_eq]; exact hz')
   | _=>exact zae e
  | Sub=>
    obtain ⟨a,b,rfl,rfl,g⟩:=zcx e
    obtain ⟨t,rfl⟩:=zah rx; obtain ⟨t',rfl⟩:=zah ry
    replace g:=oj g; subst g
    exact PySem.P.isub_int (q _ _ .tok1 zbf)
  | Mult=>
    obtain ⟨a,b,rfl,rfl,g⟩:=zcx e
    obtain ⟨t,rfl⟩:=zah rx; obtain ⟨t',rfl⟩:=zah ry
    obtain ⟨hm,rfl⟩:=zau g
    exact PySem.P.imul_int (q _ _ .tok1 zbf) (zhs hm)
  | LShift=>
    obtain ⟨a,b,rfl,rfl,g⟩:=zcx e
    obtain ⟨t,rfl⟩:=zah rx; obtain ⟨t',rfl⟩:=zah ry
    obtain ⟨h0,rfl⟩:=zau g
    simp only [zd5,Bool.and_eq_true,decide_eq_true_eq] at h0
    exact ilshift_int h0.1 h0.2 (q _ _ .tok1 zbf)
  | RShift=>
    obtain ⟨a,b,rfl,rfl,g⟩:=zcx e
    obtain ⟨t,rfl⟩:=zah rx; obtain ⟨t',rfl⟩:=zah ry
    obtain ⟨h0,rfl⟩:=zau g
    exact irshift_int h0 (q _ _ .tok1 zbf)
  | FloorDiv=>
    obtain ⟨a,b,rfl,rfl,g⟩:=zcx e
    obtain ⟨t,rfl⟩:=zah rx; obtain ⟨t',rfl⟩:=zah ry
    obtain ⟨h0,g⟩:=zey g
    obtain ⟨hp,k⟩:=zey g
    replace k:=oj k; subst k
    exact ifloordiv_int h0 (q _ _ .tok1 zbf) (.inl (by simpa using hp))
  | _=>exact zae e
theorem zh6 {i: Nat} {x: Str} {xs xs': List PV} {ad: Addr} {vs': List Value} {n': Nat} {h': Heap} (ev: zam C c env W O s.heap ρ) (hi: idx c.σ x=some i) (hk: visK c.base i (c.sc.names.lookup x)=true) (hsl: ρ[i]? = some (some (.own xs)))
    (hv: zbl s.heap env C.n₀ x (.ref ad)) (hs: Heap.SameBut ad s.heap h') (hl: h'.get? ad=some (za5 vs' n')) (hr: RepL C s.heap W xs' vs') (hz: xs'.length<=sizeLine) :
    ExtO C O s { s with heap:=h' } /\ zam C c env W O h' (setR ρ i (.own xs'))/\zbl h' env C.n₀ x (.ref ad) /\
      (∀ y j t,y ≠ x -> idx c.σ y=some j -> visK c.base j (c.sc.names.lookup y)=true -> ρ[j]? = some (some t) -> t.isOwn=true -> ¬ zbl s.heap env C.n₀ y (.ref ad)):=by
  obtain ⟨u,g1,g2⟩:=ev.vars x i _ hi hk hsl
  have:=g1.fn hv
  subst this
  cases g2 with
  | own w lo l r z=>
  have hO:=w.1
  have hL:=w.2
  have hcell: ∀ b v,s.heap.IsCell b v -> b ≠ ad:=fun b v hb=>Ne.symm (zfs l hb)
  have hap: ∀ y j t,y ≠ x -> idx c.σ y=some j -> visK c.base j (c.sc.names.lookup y)=true -> ρ[j]? = some (some t) -> t.isOwn=true -> ¬ zbl s.heap env C.n₀ y (.ref ad):=fun y j t hy h1 h2 h3 h4 h5=>by
    have:=ev.apart y x j i t _ _ h1 hi h2 hk h3 hsl h4 rfl h5 hv
    subst this
    exact hy (zcq h1 hi)
  have hS: Stay C s.heap h' W W:=fun b o hb hw eb=>⟨(hs.2 b fun h=>hw (ev.ow _ (h ▸ hO))).trans eb,hw⟩
  have keepV: ∀ y u,zbl s.heap env C.n₀ y u -> zbl h' env C.n₀ y u:=fun y u hy=>by
    induction hy with
    | loc k' n' e'=>
      obtain ⟨o,es,ep,ho,rr⟩:=n'
      exact .loc k' ⟨o,es,ep,(hs.2 _ (Ne.symm hL)).trans ho,rr⟩ e'
    | cell k' l' lo' i'=>
      obtain ⟨o,ho,hd⟩:=i'
      exact .cell k' l' lo' ⟨o,(hs.2 _ (hcell _ _ ⟨o,ho,hd⟩)).trans ho,hd⟩
  have ex: ExtO C O s { s with heap:=h' }:=.sameBut hs hO lo ⟨_,hl⟩ (fun o eo=>by rw [l] at eo; replace eo:=oj eo; subst eo; exact zfl rfl (by decide)) (Nat.le_refl _)
  refine ⟨ex,?_,keepV x _ hv,hap⟩
  exact {
    glob:=ev.glob
    bui:=ev.bui
    kind:=ev.kind
    ow:=ev.ow
    lo:=ev.lo
    loc:=ev.loc
    ns:=by obtain ⟨m,o,es,ep,ho,rr⟩:=ev.ns; exact ⟨m,o,es,ep,(hs.2 _ (Ne.symm hL)).trans ho,rr⟩
    names:=ev.names
    cells:=fun y hy=>by obtain ⟨a,v,h1,h2,o,ho,hd⟩:=ev.cells y hy; exact ⟨a,v,h1,h2,o,(hs.2 _ (hcell _ _ ⟨o,ho,hd⟩)).trans ho,hd⟩
    cinj:=ev.cinj
    top:=fun j t hj=>by
      rcases zbi hj with ⟨rfl,_⟩ | ⟨_,hj⟩
      · exact zfr hi
      · exact ev.top j t hj
    vars:=fun y j t h1 h2 h3=>by
      rcases zbi h3 with ⟨rfl,rfl⟩ | ⟨hne,h3⟩
      · have:=zcq h1 hi; subst this
        exact ⟨_,keepV _ _ hv,.own ⟨hO,hL⟩ lo hl (RepL.stay hS _ _ hr) hz⟩
      · obtain ⟨u,k1,k2⟩:=ev.vars y j t h1 h2 h3
        have hy: y ≠ x:=fun e'=>by subst e'; rw [hi] at h1; replace h1:=oj h1; subst h1; exact hne rfl
        refine ⟨u,keepV _ _ k1,?_⟩
        induction k2 with
        | val r=>exact .val (Rep.stay hS _ _ r)
        | own w' lo' l' r' z'=>exact .own w' lo' ((hs.2 _ (fun h=>by subst h; exact hap y j _ hy h1 h2 h3 rfl k1)).trans l') (RepL.stay hS _ _ r') z'
        | ownD w' lo' g' r'=>
          have hne': ∀ {b l},s.heap.DictOf (strKind C.prog C.w) b l -> zbl s.heap env C.n₀ y (.ref b) -> b ≠ ad:=fun _ hvb h=>by subst h; exact hap y j _ hy h1 h2 h3 rfl hvb
          have h0:=hne' g' k1
          obtain ⟨o,e1,e2,ho,hr'⟩:=g'
          exact .ownD w' lo' ⟨o,e1,e2,(hs.2 _ h0).trans ho,hr'⟩ (RepD.stay hS _ _ r')
    apart:=fun y z j k t u v h1 h2 k1 k2 h3 h4 h5 h6 h7 h8=>by
      have back: ∀ {y: Str} {j: Nat} {v: Value},idx c.σ y=some j -> visK c.base j (c.sc.names.lookup y)=true -> (∃ t: Slot,ρ[j]? = some (some t)) -> zbl h' env C.n₀ y v -> zbl s.heap env C.n₀ y v:=fun {y j v} h1 h2 z h7=>by
        obtain ⟨t',h3⟩:=z
        obtain ⟨u,k1,_⟩:=ev.vars y j t' h1 h2 h3
        rw [h7.fn (keepV _ _ k1)]; exact k1
      have sl1: ∃ t',ρ[j]? = some (some t')/\t'.isOwn=true:=by
        rcases zbi h3 with ⟨rfl,rfl⟩ | ⟨_,h3⟩
        · exact ⟨_,hsl,rfl⟩
        · exact ⟨_,h3,h5⟩
      have sl2: ∃ t',ρ[k]? = some (some t')/\t'.isOwn=true:=by
        rcases zbi h4 with ⟨rfl,rfl⟩ | ⟨_,h4⟩
        · exact ⟨_,hsl,rfl⟩
        · exact ⟨_,h4,h6⟩
      obtain ⟨t',q1,q2⟩:=sl1
      obtain ⟨u',q3,q4⟩:=sl2
      exact ev.apart y z j k t' u' v h1 h2 k1 k2 q1 q3 q2 q4 (back h1 k1 ⟨_,q1⟩ h7) (back h2 k2 ⟨_,q3⟩ h8) }
end
theorem zpu: fillsInplaceSlot (.type "list") "add" (Operator.Add == .Add)=pure false:=by
  unfold fillsInplaceSlot
  show (typeLookup (.type "list") (dunderI "add") >>= fun fi=>pure (fi.isSome && !isSeqSlot fi))=pure false
  rw [PySem.F.slot_list_iadd.lookup]; rfl
theorem zuf: seqSlot? (.type "list") (dunderI "add")=pure (some (.builtin "list.__iadd__")):=by
  unfold seqSlot?
  rw [PySem.F.slot_list_iadd.lookup]; rfl
section
variable {prog: Program} {w: World} {A: Around} {E: Value -> Shared -> Prop} {s: Shared}
theorem zr9 {l b: Addr} {xs ys: List Value} {n m: Nat} {Q: Value -> Shared -> Prop} (hl: s.heap.get? l=some (za5 xs n)) (hb: s.heap.get? b=some (za5 ys m)) (hz: xs.length + ys.length<=16777216)
    (q: ∀ h' n',h'.get? l=some (za5 (xs ++ ys) n') -> Heap.SameBut l s.heap h' -> Q (.ref l) { s with heap:=h' }): wpAny (model prog w) A (inplaceOp .Add (.ref l) (.ref b)) Q E s:=by
  have hT: s.TypeIs (.ref l) "list" := ⟨_,hl,rfl⟩
  unfold inplaceOp
  refine wpAny_holding ?_
  refine wpAny_bind (wpAny_typeOf hT (wpAny_bind (wpAny_of_eq zpu ?_)))
  show wpAny _ A (if false=true then _ else _) Q E s
  rw [if_neg Bool.false_ne_true]
  refine wpAny_bind (wpAny_binaryOp1_none (nm:="add") hT ⟨_,hb,rfl⟩ noFill_list_add ?_)
  refine wpAny_bind (wpAny_of_eq zuf ?_)
  refine wpAny_bind (wpAny_rule ?_)
  refine call_meets PySem.F.slot_list_iadd hT PySem.F.entry_list_iadd (PySem.F.args_list_iadd_2 _ _) (AutoSeq1.list___iadd___list_list_0 l xs.toArray n b ys.toArray m (by simp [Builtin.List.listTooLong,sizeLine_eq]; intro _; assumption) (by simp [sizeLine_eq]; lia) (by simp [sizeLine_eq]; exact Nat.le_trans ‹_› (by decide))) ⟨hl,hb,?_⟩
  have hm: ∃ n',Obj.mapSeq (fun x=>x ++ ys.toArray) (za5 xs n)=za5 (xs ++ ys) n':=⟨_,by simp only [Obj.mapSeq,za5,List.append_toArray]; rfl⟩
  obtain ⟨n',hm⟩:=hm
  refine q _ n' ?_ (Heap.SameBut.update ..)
  rw [Heap.get?_update_self _ hl (by rw [hm]; rfl),hm]
end
section
variable {C: CX} {c: CE} {env: Env} {W₀ O₀ W O: Addr -> Prop} {s₀ s s': Shared} {ρ: Rho}
theorem z3v {op: Operator} {e: Expr} {x: PE} {y: Str} {i: Nat} {p pos: Pos} (h: SE c e x) (hi: idx c.σ y=some i) (hk: c.sc.names.lookup y=some .local \/ c.sc.names.lookup y=some .cell) (hvis: visK c.base i (c.sc.names.lookup y)=true)
    (hcd: (y == ("__classdict__" : Str))=false): SS c (.AugAssign (.Name y p) op e pos) [.aug i op x]:=fun C G K ok env A s₀ W₀ O₀ rm W O s ρ out f ev a hp Q E k=>by
  simp only [za8,xE] at hp
  obtain ⟨sl,h0,g⟩:=bind_some hp
  have hsl:=zdp h0
  obtain ⟨u,hu,g1⟩:=bind_some g
  obtain ⟨sl',g2,rfl⟩:=zaj g1
  obtain ⟨v,hv,r⟩:=ev.vars y i _ hi hvis hsl
  induction r with
  | val r=>
    obtain ⟨z,hz,rfl⟩:=zaj g2
    refine wpAny_AugAssign_Name (zb7 ev hcd hv (h.val ok ev a rm hu _ _ fun u' s₁ e₁ r₁=>(zue hz (r.ext e₁.toExt0) r₁).up _ _ fun z' s₂ e₂ r₂=>?_))
    have e₁₂:=e₁.trans e₂
    refine zbn (ev.ext e₁₂.toExt0) hi hk (.val r₂) (fun h=>by exact ft h) fun s₃ e₃ ev₃=>?_
    exact k W O s₃ ((f.ext' e₁₂).step e₃ fun b hb=>(ev.ext e₁₂.toExt0).owr hb) ev₃ ((a.ext e₁₂).extO e₃)
  | ownD w lo l r=>exact zae g2
  | own w lo l r zz=>
        rename_i xs ad vs n
        obtain ⟨hop,g3⟩:=zck g2
        subst hop
        obtain ⟨ys,rfl,g4⟩:=zho (y:=u) g3
        obtain ⟨hz,rfl⟩:=zau g4
        have hz':=of_decide_eq_true hz
        refine wpAny_AugAssign_Name (zb7 ev hcd hv (h.val ok ev a rm hu _ _ fun u' s₁ e₁ r₁=>?_))
        obtain ⟨b,vs',n',rfl,hwb,hbn,hb,hrb,hzb⟩:=zbg r₁
        have ev₁:=ev.ext e₁.toExt0
        have hv₁:=hv.keep e₁.new (ev.lo _ ev.loc)
        have hl₁:=e₁.new _ _ lo l
        have hr₁:=r.ext e₁.toExt0
        refine zr9 hl₁ hb (by rw [hr₁.length,hrb.length]; exact hz') fun h' n₂ hl₂ hs₂=>?_
        obtain ⟨ex,ev₂,hv₂,hap⟩:=zh6 (xs':=xs ++ ys) ev₁ hi hvis hsl hv₁ hs₂ hl₂ (hr₁.append hrb) (by rw [List.length_append,sizeLine_eq]; exact hz')
        have a₂:=(a.ext e₁).extO ex
        have hsl₂: (setR ρ i (.own (xs ++ ys)))[i]? = some (some (.own (xs ++ ys))):=by
          unfold setR
          rw [List.getElem?_set_self]
          exact (List.getElem?_eq_some_iff.mp hsl).1
        obtain ⟨v₂,g1,g2⟩:=ev₂.vars y i _ hi hvis hsl₂
        have:=g1.fn hv₂
        subst this
        refine zbn ev₂ hi hk g2 (fun _ z j t hzy hj hvj ht hto hvz=>?_) fun s₃ e₃ ev₃=>?_
        · have:=ev₂.apart z y j i t _ _ hj hi hvj hvis ht hsl₂ hto rfl hvz hv₂
          subst this
          exact hzy (zcq hj hi)
        · have hset: setR (setR ρ i (.own (xs ++ ys))) i (.own (xs ++ ys))=setR ρ i (.own (xs ++ ys)):=by simp [setR]
          rw [hset] at ev₃
          exact k W O s₃ (((f.ext' e₁).step ex fun b hb=>hb).step e₃ fun b hb=>ev₂.owr hb) ev₃ (a₂.extO e₃)
end
section
variable {C: CX} {c: CE} {env: Env} {W₀ O₀ W O: Addr -> Prop} {s₀ s s': Shared} {ρ: Rho}
theorem zbw (h: env.scope.kind = .function): interactive env=false:=by
  unfold interactive
  rw [h]; rfl
theorem zof {h: Heap}: ∀ {xs: List PV} {vs: List Value},RepL C h W xs vs -> RepL C h W xs.reverse vs.reverse:=by
  intro zz
  induction zz with
  | nil=>intro vs r; obtain rfl:=za6 r; rfl
  | cons z zs ih=>
    intro vs r
    obtain ⟨v,u,rfl,h1,h2⟩:=zat r
    simp only [List.reverse_cons]
    exact (ih h2).append (RepL.cons h1 rfl)
theorem z3w {e: Expr} {x: PE} {y: Str} {i: Nat} {p p₁ pos spos: Pos} (h: SE c e x) (hi: idx c.σ y=some i) (hvis: visK c.base i (c.sc.names.lookup y)=true)
    (hd: (y == ("__debug__" : Str))=false) (hcd: (y == ("__classdict__" : Str))=false) (hline: (p₁.endLine == pos.line)=true) :
    SS c (.Expr (.Call (.Attribute (.Name y p) (Str.ofString "append") p₁) [e] [] pos) spos) [.app i x]:=fun C G K ok env A s₀ W₀ O₀ rm W O s ρ out f ev a hp Q E k=>by
  simp only [za8,xE] at hp
  obtain ⟨xs,h0,g⟩:=bind_some hp
  have hsl:=zj3 h0
  obtain ⟨u,hu,hq⟩:=bind_some g
  obtain ⟨hz,rfl⟩:=zau hq
  have hz':=of_decide_eq_true hz
  obtain ⟨v,hv,r⟩:=ev.vars y i _ hi hvis hsl
  cases r with
  | own w lo l r zz=>
  rename_i ad vs n
  refine wpAny_Expr_any ?_ (zbw ev.kind) rfl
  have hst: (backTo pos (starEach [e] env)).any (·.1)=false:=by rw [h.ns]; rfl
  refine wpAny_Call_method_late (zeq rfl) (by rw [h.ns]; rfl) hline rfl (wpAny_Name (zb7 ev hcd hv ?_) hd)
  refine ⟨"list","list.append",F.plainAttrs_list,F.slot_list_append,F.type_list_append,⟨_,l,rfl⟩,fun b hb=>by cases hb; exact ⟨_,l,rfl⟩,?_⟩
  refine callWith_builtin hst (za3 hst ?_)
  rw [h.ns]
  refine spliced_cons (h.val ok ev a rm hu _ _ fun u' s₁ e₁ r₁=>spliced_nil ?_)
  have ev₁:=ev.ext e₁.toExt0
  have hl₁:=e₁.new _ _ lo l
  have hr₁:=r.ext e₁.toExt0
  refine wpAny_list_append_plain (items:=vs.toArray) ⟨n,hl₁⟩ (fun h' hl₂ hs₂=>?_) (by simp only [List.size_toArray,r.length]; exact zz)
  obtain ⟨n₂,hl₂⟩:=hl₂
  have hl₂': h'.get? ad=some (za5 (vs ++ [u']) n₂):=by rw [hl₂]; simp [za5]
  obtain ⟨ex,ev₂,hv₂,hap⟩:=zh6 (xs':=xs ++ [u]) ev₁ hi hvis hsl (hv.keep e₁.new (ev.lo _ ev.loc)) hs₂ hl₂' (hr₁.append (RepL.cons r₁ rfl)) (by rw [List.length_append,sizeLine_eq]; exact hz')
  exact k W O _ ((f.ext' e₁).step ex fun b hb=>hb) ev₂ ((a.ext e₁).extO ex)
theorem z3x {y: Str} {i: Nat} {p p₁ pos spos: Pos} (hi: idx c.σ y=some i) (hvis: visK c.base i (c.sc.names.lookup y)=true)
    (hd: (y == ("__debug__" : Str))=false) (hcd: (y == ("__classdict__" : Str))=false) (hline: (p₁.endLine == pos.line)=true) :
    SS c (.Expr (.Call (.Attribute (.Name y p) (Str.ofString "reverse") p₁) [] [] pos) spos) [.revI i]:=fun C G K ok env A s₀ W₀ O₀ rm W O s ρ out f ev a hp Q E k=>by
  simp only [za8,xE] at hp
  obtain ⟨xs,h0,rfl⟩:=zaj hp
  have hsl:=zj3 h0
  obtain ⟨v,hv,r⟩:=ev.vars y i _ hi hvis hsl
  cases r with
  | own w lo l r zz=>
  rename_i ad vs n
  refine wpAny_Expr_any ?_ (zbw ev.kind) rfl
  refine wpAny_Call_method_late (zeq rfl) rfl hline rfl (wpAny_Name (zb7 ev hcd hv ?_) hd)
  refine ⟨"list","list.reverse",F.plainAttrs_list,F.slot_list_reverse,F.type_list_reverse,⟨_,l,rfl⟩,fun b hb=>by cases hb; exact ⟨_,l,rfl⟩,?_⟩
  refine callWith_builtin rfl (za3 rfl (spliced_nil ?_))
  refine call_meets PySem.F.slot_list_reverse ⟨_,l,rfl⟩ PySem.F.entry_list_reverse (PySem.F.args_list_reverse_1 _) (AutoSeq1.list_reverse_list_0 ad vs.toArray n (by simp only [List.size_toArray,r.length]; exact zz)) ⟨l,?_⟩
  have hm: ∃ n',Obj.mapSeq (fun x=>x.reverse) (za5 vs n)=za5 vs.reverse n':=⟨_,by simp only [Obj.mapSeq,za5,List.reverse_toArray]; rfl⟩
  obtain ⟨n',hm⟩:=hm
  have hl₂: (s.heap.update ad (Obj.mapSeq fun x=>x.reverse)).get? ad=some (za5 vs.reverse n'):=by rw [Heap.get?_update_self _ l (by rw [hm]; rfl),hm]
  have hrr: RepL C s.heap W xs.reverse vs.reverse:=zof r
  obtain ⟨ex,ev₂,hv₂,hap⟩:=zh6 (xs':=xs.reverse) ev hi hvis hsl hv (Heap.SameBut.update ..) hl₂ hrr (by simpa using zz)
  exact k W O _ (f.step ex fun b hb=>hb) ev₂ (a.extO ex)
end
end Mine
namespace Mine
open PySem PySem.Calls PyProof.Rows
set_option backward.match.sparseCases false
noncomputable def zog (C: CX) (h: Heap) (W: Addr -> Prop) (ad: Addr): PV -> Prop
  | .list xs=>∃ vs n,h.get? ad=some (za5 vs n)/\RepL C h (fun b=>W b \/ b=ad) xs vs/\xs.length<=sizeLine
  | .dict kvs=>∃ l,h.DictOf (strKind C.prog C.w) ad l/\RepD C h (fun b=>W b \/ b=ad) kvs l
  | _=>False
noncomputable def SEF (c: CE) (e: Expr) (x: PE): Prop:=∀ (C: CX) (G: GT) (K: Nat) (_: FnOk C G K) (env: Env) (W O: Addr -> Prop) (s: Shared) (ρ: Rho) (A: Around) (p: PV),zam C c env W O s.heap ρ -> At C W s -> Room A K ->
    zag G x ρ=some p -> ∀ (Q E: Value -> Shared -> Prop),(∀ ad s',Ext C s s' -> zog C s'.heap W ad p -> C.n₀<=ad -> s.heap.get? ad=none -> ¬ W ad -> Q (.ref ad) s') -> wpAny (model C.prog C.w) A (eval e env) Q E s
section
variable {c: CE} {pos: Pos}
theorem zmc {C: CX} {W: Addr -> Prop} {s: Shared} {o: Obj} {xs: List PV} {vs: List Value} (r: RepL C s.heap W xs vs): RepL C (s.heap.push o) (fun b=>W b \/ b=s.heap.objs.size) xs vs:=
  RepL.stay (Stay.grow (fun b o _ e=>Heap.get?_push_of_some _ e) fun b hb=>by
    rcases hb with hb | rfl
    · exact .inl hb
    · exact .inr zar) _ _ r
theorem zxl {es: List Expr} {xs: List PE} (hs: SEs c es xs) (hz: zak es.length=true): SEF c (.List es pos) (.list xs):=fun C G K ok env W O s ρ A p ev at' rm h Q E q=>by
  simp only [eE] at h
  obtain ⟨ps,h1,h⟩:=zaj h
  subst h
  have hz':=of_decide_eq_true hz
  refine wpAny_List (hs.sndL ok rm ev at' h1 _ _ fun vs s₁ e₁ r₁=>?_)
  have hl: ps.length<=sizeLine:=by rw [zdm h1,<- hs.length,sizeLine_eq]; exact hz'
  have a₁:=at'.ext e₁
  exact ⟨by rw [r₁.length]; exact hl,q s₁.heap.objs.size _ (e₁.trans zcd) ⟨vs,0,Heap.get?_push_size _ rfl,zmc r₁,hl⟩ a₁.low (ze5 (W:=W) e₁ a₁.low zar) a₁.nw⟩
theorem zug {C: CX} {W: Addr -> Prop} {s: Shared} {A: Around} {xs ys: List PV} {v u: Value} (a: At C W s) (hz': xs.length + ys.length<=16777216) (rx: Rep C s.heap W (.list xs) v) (ry: Rep C s.heap W (.list ys) u) {Q E: Value -> Shared -> Prop}
    (q: ∀ vs n,RepL C (s.heap.push (za5 vs n)) (fun b=>W b \/ b=s.heap.objs.size) (xs ++ ys) vs -> Q (.ref s.heap.objs.size) { s with heap:=s.heap.push (za5 vs n) }): wpAny (model C.prog C.w) A (binaryOp .Add v u) Q E s:=by
  obtain ⟨l,vs,n,rfl,_,_,ho,hl,_⟩:=zbg rx
  obtain ⟨l',vs',n',rfl,_,_,ho',hl',_⟩:=zbg ry
  have e: vs.toArray ++ vs'.toArray=(vs ++ vs').toArray:=by simp
  refine concat_meets ⟨_,ho,rfl⟩ ⟨_,ho',rfl⟩ noFill_list_add seq_list_add PySem.F.slot_list_add PySem.F.entry_list_add (PySem.F.args_list_add_2 _ _)
    (list_addW l l' vs.toArray vs'.toArray n n' none none #[] #[] (by simp only [List.size_toArray,hl.length,hl'.length,sizeLine_eq]; exact hz')) ⟨ho,ho',?_⟩
  rw [e]
  exact q (vs ++ vs') 0 (zmc (hl.append hl'))
theorem z03 {a b: Expr} {x y: PE} (ha: SE c a x) (hb: SE c b y) (hx: ∀ G ρ p,zag G x ρ=some p -> ∃ l,p = .list l): SEF c (.BinOp a .Add b pos) (.bin .Add x y):=fun C G K ok env W O s ρ A p ev at' rm h Q E q=>by
  simp only [eE] at h
  obtain ⟨u,h1,hA⟩:=bind_some h
  obtain ⟨v,h2,hB⟩:=bind_some hA
  clear h hA
  obtain ⟨l,rfl⟩:=hx _ _ _ h1
  refine wpAny_BinOp (ha.val ok ev at' rm h1 _ _ fun u' s₁ e₁ r₁=>hb.val ok (ev.ext e₁.toExt0) (at'.ext e₁) rm h2 _ _ fun v' s₂ e₂ r₂=>?_)
  obtain ⟨l',rfl,g⟩:=zho (y:=v) hB
  obtain ⟨hz,rfl⟩:=zau g
  have hz': l.length + l'.length<=16777216:=of_decide_eq_true hz
  have a₂:=(at'.ext e₁).ext e₂
  refine zug a₂ hz' (r₁.ext e₂.toExt0) r₂ fun vs n hr=>?_
  exact q s₂.heap.objs.size _ ((e₁.trans e₂).trans zcd) ⟨vs,n,Heap.get?_push_size _ rfl,hr,by rw [List.length_append,sizeLine_eq]; exact hz'⟩ a₂.low (ze5 (W:=W) (e₁.trans e₂) a₂.low zar) a₂.nw
theorem zuh {C: CX} {env: Env} {W₀ O₀ W O: Addr -> Prop} {s₀ s s₁: Shared} {ρ: Rho} {M: Model} {A: Around} {x: Str} {i: Nat} {p: PV} {sl: Slot} {ad: Addr} {Q: Unit -> Shared -> Prop} {E: Value -> Shared -> Prop}
    (f: Fr' C s₀ W₀ O₀ W O s) (ev: zam C c env W O s.heap ρ) (a: At C W s) (e₁: Ext C s s₁) (hp: ownOf p=some sl) (ho: zog C s₁.heap W ad p) (lo: C.n₀<=ad) (hf: s.heap.get? ad=none) (hw: ¬ W ad)
    (hi: idx c.σ x=some i) (hk: c.sc.names.lookup x=some .local \/ c.sc.names.lookup x=some .cell)
    (q: ∀ W' O' s',Fr' C s₀ W₀ O₀ W' O' s' -> zam C c env W' O' s'.heap (setR ρ i sl) -> At C W' s' -> Q () s'): wpAny M A (storeName env x (.ref ad)) Q E s₁:=by
  have ev₁:=ev.ext e₁.toExt0
  have hocc: ∃ o,s₁.heap.get? ad=some o:=by
    cases p with
    | list xs=>obtain ⟨vs,n,h,_⟩:=ho; exact ⟨_,h⟩
    | dict kvs=>obtain ⟨l,⟨o,_,_,h,_⟩,_⟩:=ho; exact ⟨o,h⟩
    | _=>exact ho.elim
  have hOne: ∀ b,O b -> b ≠ ad:=fun b hb h=>hw (h ▸ ev.ow b hb)
  have hL: ad ≠ env.locals:=fun h=>hOne _ ev.loc h.symm
  have ev₂: zam C c env (fun b=>W b \/ b=ad) (fun b=>O b \/ b=ad) s₁.heap ρ:=by
    have g:=ev.grow (W':=fun b=>W b \/ b=ad) (fun b o lo eo=>e₁.new b o lo eo) (fun b hb=>.inl hb) fun b hb=>by
      rcases hb with hb | rfl
      · exact .inl hb
      · exact .inr hf
    exact {
      glob:=g.glob
      bui:=g.bui
      kind:=g.kind
      ow:=fun b hb=>by rcases hb with hb | hb; exact g.ow b hb; exact .inr hb
      lo:=fun b hb=>by rcases hb with hb | rfl; exact g.lo b hb; exact lo
      loc:=.inl g.loc
      ns:=g.ns
      names:=g.names
      cells:=fun y hy=>by obtain ⟨b,v,h1,h2,h3⟩:=g.cells y hy; exact ⟨b,v,h1,.inl h2,h3⟩
      cinj:=g.cinj
      top:=g.top
      vars:=fun y j t h1 h2 h3=>by
        obtain ⟨v,k1,k2⟩:=g.vars y j t h1 h2 h3
        refine ⟨v,k1,?_⟩
        induction k2 with
        | val r=>exact .val r
        | own w lo l r z=>exact .own ⟨.inl w.1,w.2⟩ lo l r z
        | ownD w lo g' r=>exact .ownD ⟨.inl w.1,w.2⟩ lo g' r
      apart:=g.apart }
  have hsl: RepS C s₁.heap (fun b=>W b \/ b=ad) (fun b=>(O b \/ b=ad)/\b ≠ env.locals) sl (.ref ad):=by
    cases p with
    | list xs=>simp only [vE] at hp; replace hp:=oj hp; subst hp; obtain ⟨vs,n,h1,h2,h3⟩:=ho; exact .own ⟨.inr rfl,hL⟩ lo h1 h2 h3
    | dict kvs=>simp only [vE] at hp; replace hp:=oj hp; subst hp; obtain ⟨l,h1,h2⟩:=ho; exact .ownD ⟨.inr rfl,hL⟩ lo h1 h2
    | _=>exact ho.elim
  have a₂: At C (fun b=>W b \/ b=ad) s₁:=⟨e₁.inv a.inv,fun b hb=>by
    rcases hb with hb | rfl
    · exact (a.ext e₁).wocc b hb
    · exact ⟨lo,hocc⟩,(a.ext e₁).tok⟩
  have hfs₀: s₀.heap.get? ad=none:=by
    cases hh: s₀.heap.get? ad with
    | none=>rfl
    | some o=>
      obtain ⟨o',e'⟩:=f.ext.occ ad o lo hh
      rw [hf] at e'; exact zae e'
  have f₂: Fr' C s₀ W₀ O₀ (fun b=>W b \/ b=ad) (fun b=>O b \/ b=ad) s₁:=⟨f.ext.trans e₁.toO,fun b hb=>by
      rcases hb with hb | rfl
      · rcases f.w b hb with h | h
        · exact .inl h
        · exact .inr (.inl h)
      · exact .inr (.inr rfl),fun b hb=>.inl (f.w0 b hb),fun b hb=>by
      rcases hb with hb | rfl
      · exact f.fresh b hb
      · exact .inr hfs₀,fun b hb h=>by
      rcases h with h | rfl
      · exact f.dj b hb h
      · exact hw (f.w0 _ hb)⟩
  refine zbn ev₂ hi hk hsl (fun _ z j t hz hj hvj ht hto hvz=>?_) fun s₃ e₃ ev₃=>q _ _ s₃ (f₂.step e₃ fun b hb=>ev₂.owr hb) ev₃ (a₂.extO e₃)
  obtain ⟨v,k1,k2⟩:=ev₁.vars z j t hj hvj ht
  have:=k1.fn hvz
  subst this
  cases k2 with
  | val r=>exact ft hto
  | own w _ _ _ _=>exact hOne _ w.1 rfl
  | ownD w _ _ _=>exact hOne _ w.1 rfl
theorem zui {e: Expr} {x: PE} {y: Str} {i: Nat} {p pos: Pos} (h: SEF c e x) (hc: zdi e=false) (hi: idx c.σ y=some i) (hk: c.sc.names.lookup y=some .local \/ c.sc.names.lookup y=some .cell) :
    SS c (.Assign [.Name y p] e pos) [.asgOwn i x]:=fun C G K ok env A s₀ W₀ O₀ rm W O s ρ out f ev a hp Q E k=>by
  simp only [za8,xE] at hp
  obtain ⟨v,hv,hp⟩:=bind_some hp
  obtain ⟨sl,hsl,rfl⟩:=zaj hp
  refine wpAny_Assign_Name (h C G K ok env W O s ρ A v ev a rm hv _ _ fun ad s₁ e₁ ho lo hf hw=>?_) (ze7 hc rfl)
  exact zuh f ev a e₁ hsl ho lo hf hw hi hk k
end
section
variable {C: CX} {c: CE} {env: Env} {W₀ O₀ W₁ O₁ W O: Addr -> Prop} {s₀ s₁ s s': Shared} {ρ: Rho}
theorem ExtO.base (f: Fr' C s₀ W₀ O₀ W₁ O₁ s₁) (x: ExtO C O₁ s₁ s): ExtO C O₀ s₀ s where
  new:=fun b o lo h0 e=>x.new b o lo (fun h=>by rcases f.fresh b h with h1 | h1; exact h0 h1; rw [h1] at e; exact zae e) (f.ext.new b o lo h0 e)
  occ:=fun b o lo e=>by obtain ⟨o',e'⟩:=f.ext.occ b o lo e; exact x.occ b o' lo e'
  inv:=fun h=>x.inv (f.ext.inv h)
  gens:=x.gens.trans f.ext.gens
  drawn:=x.drawn.trans f.ext.drawn
  os:=x.os.trans f.ext.os
  toks:=Nat.le_trans f.ext.toks x.toks
structure z3y (C: CX) (c: CE) (env: Env) (A: Around) (s₁: Shared) (W₀ O₁: Addr -> Prop) (I: Addr) (single: Bool) (fp wr: List Addr) (items: List PV) (St: Nat -> Heap -> Prop) (W O: Addr -> Prop) (s: Shared) (ρ: Rho) (i: Nat): Prop where
  fr: Fr' C s₁ (fun b=>W₀ b \/ b ∈ wr) O₁ W O s
  ev: zam C c env W O s.heap ρ
  a: At C W s
  src: Src C A W s.heap I single fp wr items St
  st: St i s.heap
  fpo: ∀ b ∈ fp,C.n₀<=b/\(b ∈ wr \/ ¬ W b) /\ ∃ o,s.heap.get? b=some o
  le: i<=items.length
theorem Fr'.stepN {wr: List Addr} (f: Fr' C s₁ W₀ O₁ W O s) (x: ExtN C (OWr c env) (· ∈ wr) s s') (hX: ∀ b,OWr c env b -> O b) (hwr: ∀ b ∈ wr,s₁.heap.get? b=none): Fr' C s₁ W₀ O₁ W O s' where
  ext:=⟨fun b o lo h0 e=>x.new b o lo (fun h=>by rcases f.fresh b (hX b h) with h1 | h1; exact h0 h1; rw [h1] at e; exact zae e) (fun h=>by rw [hwr b h] at e; exact zae e) (f.ext.new b o lo h0 e),
    fun b o lo e=>by obtain ⟨o',e'⟩:=f.ext.occ b o lo e; exact x.occ b o' lo (fun h=>by rw [hwr b h] at e; exact zae e) e',fun h=>x.inv (f.ext.inv h),x.gens.trans f.ext.gens,x.drawn.trans f.ext.drawn,x.os.trans f.ext.os,Nat.le_trans f.ext.toks x.toks⟩
  w:=f.w
  w0:=f.w0
  fresh:=f.fresh
  dj:=f.dj
noncomputable abbrev zm2 (G: GT) (ts: List Nat) (single: Bool) (l: List PS) (x: PV) (ρ: Rho): Option Out:=(zbb ts single x ρ).bind fun ρ''=>zap G l ρ''
inductive FInv (C: CX) (c: CE) (env: Env) (A: Around) (s₁: Shared) (W₀ O₁: Addr -> Prop) (I: Addr) (single: Bool) (fp wr: List Addr) (items: List PV) (St: Nat -> Heap -> Prop) (step: PV -> Rho -> Option Out) (out: Out) (n: Nat) (s': Shared): Prop
  | mk (W O: Addr -> Prop) (ρ: Rho) (i: Nat) (e: n=items.length - i) (F: z3y C c env A s₁ W₀ O₁ I single fp wr items St W O s' ρ i) (h: forP step (items.drop i) ρ=some out)
theorem zxm {G: GT} {K: Nat} (ok: FnOk C G K) {A: Around} (rm: Room A K) {tgt: Expr} {xs: List Str} {ts: List Nat} {single: Bool} {body: List Stmt} {l: List PS} (ht: zpn tgt xs single) (hp: Places c xs ts) (hb: SSs c body l)
    {I: Addr} {fp wr: List Addr} {items: List PV} {St: Nat -> Heap -> Prop} {out: Out} {R: Result -> Shared -> Prop} (hwr: ∀ b ∈ wr,s₁.heap.get? b=none) (hw0: ∀ b ∈ wr,¬ W₀ b) (hR: After C c env s₁ W₀ O₁ (fun f s'=>R (.ok f) s') out)
    (F: z3y C c env A s₁ W₀ O₁ I single fp wr items St W O s ρ 0) (h: forP (fun x ρ'=>(zbb ts single x ρ').bind fun ρ''=>zap G l ρ'') items ρ=some out) :
    codeAny (model C.prog C.w) A (.forLoop tgt (.ref I) body [] env) R s:=by
  refine codeAny_forLoop_any (FInv C c env A s₁ W₀ O₁ I single fp wr items St (zm2 G ts single l) out) ?_ items.length
    ⟨W,O,ρ,0,rfl,F,by rw [List.drop_zero]; exact h⟩
  rintro n s₂ ⟨W,O,ρ,i,rfl,F,h⟩
  have sa: SrcAt C W O s₂.heap fp wr:=⟨fun b hb'=>⟨F.fr.w0 b (.inr hb'),F.fr.dj b (.inr hb')⟩,fun b hb'=>⟨(F.fpo b hb').1,(F.fpo b hb').2.1⟩⟩
  by_cases hlt: i < items.length
  · rw [List.drop_eq_getElem_cons hlt] at h
    simp only [pE] at h
    cases hs: zm2 G ts single l items[i] ρ with
    | none=>rw [hs] at h; exact zae h
    | some o=>
      obtain ⟨ρ'',hbt,hex⟩:=bind_some hs
      rw [hs] at h
      refine wpAny_mono (zn7 (Q:=fun s₃=>wpAny (model C.prog C.w) A (execs body env) (fun f s₃=>match f with
            | .next | .cont=>∃ m,m < items.length - i/\FInv C c env A s₁ W₀ O₁ I single fp wr items St (zm2 G ts single l) out m s₃
            | .brk=>R (.ok .next) s₃
            | .ret v=>R (.ok (.ret v)) s₃) (notedBy (model C.prog C.w) A env fun e s'=>R (.error e) s') s₃) rm.1 F.src sa F.ev F.a F.st (List.getElem?_eq_getElem hlt) ht hp hbt ?_) (fun r s₁ hr=>by
          cases r with
          | none=>exact hr.elim
          | some v=>exact hr) fun _ _ e=>e
      intro s₃ e₃ ev₃ st₃
      have fr₃:=F.fr.stepN e₃ (fun b hb'=>F.ev.owr hb') hwr
      have a₃: At C W s₃:=⟨e₃.inv F.a.inv,fun b' hb'=>by
        obtain ⟨lo,o,eo⟩:=F.a.wocc b' hb'
        by_cases hm: b' ∈ wr
        · exact ⟨lo,F.src.live st₃ b' hm⟩
        · exact ⟨lo,e₃.occ b' o lo hm eo⟩,Nat.lt_of_lt_of_le F.a.tok e₃.toks⟩
      have hS₃:=e₃.stay (W:=W) (fun b' hb'=>F.ev.ow _ (F.ev.owr hb')) (fun b' hb'=>(sa.w b' hb').1)
      have src₃:=F.src.stay hS₃
      have fpo₃: ∀ b ∈ fp,C.n₀<=b/\(b ∈ wr \/ ¬ W b) /\ ∃ o,s₃.heap.get? b=some o:=fun b hb'=>by
        obtain ⟨h1,h2,o,ho⟩:=F.fpo b hb'
        refine ⟨h1,h2,?_⟩
        by_cases hm: b ∈ wr
        · exact F.src.live st₃ b hm
        · exact e₃.occ b o h1 hm ho
      have base: Fr' C s₃ (fun b=>W₀ b \/ b ∈ wr) O W O s₃:=⟨(Ext.refl s₃).toO,fr₃.w,fr₃.w0,fun b hb'=>.inl hb',fr₃.dj⟩
      refine hb C G K ok env A s₃ (fun b=>W₀ b \/ b ∈ wr) O rm W O s₃ ρ'' o base ev₃ a₃ hex _ _ ?_
      induction o with
      | ret v=>
        replace h:=oj h; subst h
        exact fun val s' e' r'=>hR val s' (ExtO.base fr₃ e') (Rep.stay (fun b o _ hw eo=>⟨eo,fun hb'=>hw (.inl hb')⟩) _ _ r')
      | next ρ'=>
        intro W' O' s' f' ev' a'
        have hS': Stay C s₃.heap s'.heap W W':=fun b o lo hw eo=>⟨f'.ext.new b o lo (fun h=>hw (ev₃.ow b h)) eo,fun hw'=>by
          rcases f'.w b hw' with h1 | h1
          · exact hw (fr₃.w0 b h1)
          · rcases f'.fresh b h1 with h2 | h2
            · exact hw (ev₃.ow b h2)
            · rw [h2] at eo; exact zae eo⟩
        refine ⟨items.length - (i + 1),Nat.sub_lt_sub_left hlt (Nat.lt_succ_self i),W',O',ρ',i + 1,rfl,⟨⟨ExtO.base fr₃ f'.ext,f'.w,f'.w0,fun b hb'=>?_,f'.dj⟩,ev',a',src₃.stay hS',F.src.frame st₃ fun b hb' o eo=>?_,fun b hb'=>?_,hlt⟩,h⟩
        · rcases f'.fresh b hb' with h1 | h1
          · exact fr₃.fresh b h1
          · refine .inr ?_
            cases hh: s₁.heap.get? b with
            | none=>rfl
            | some o=>
              obtain ⟨o',e'⟩:=fr₃.ext.occ b o (ev'.lo b hb') hh
              rw [h1] at e'; exact zae e'
        · obtain ⟨h1,h2,_⟩:=fpo₃ b hb'
          exact f'.ext.new b o h1 (fun ho=>by rcases h2 with h2 | h2; exact (sa.w b h2).2 ho; exact h2 (ev₃.ow b ho)) eo
        · obtain ⟨h1,h2,o,ho⟩:=fpo₃ b hb'
          refine ⟨h1,?_,f'.ext.occ b o h1 ho⟩
          by_cases hm: b ∈ wr
          · exact .inl hm
          · rcases h2 with h2 | h2
            · exact absurd h2 hm
            · exact .inr (hS' b o h1 h2 ho).2
  · have hie: i=items.length:=Nat.le_antisymm F.le (Nat.not_lt.mp hlt)
    subst hie
    rw [List.drop_length] at h
    simp only [pE] at h
    replace h:=oj h; subst h
    have fin: ∀ h' tk,s₂.toks<=tk -> (∀ b o,b ∉ wr -> s₂.heap.get? b=some o -> h'.get? b=some o) -> R (.ok .next) { s₂ with heap:=h',toks:=tk }:=fun h' tk htk hk=>by
      have ex: ExtN C (OWr c env) (· ∈ wr) s₂ { s₂ with heap:=h',toks:=tk }:=⟨fun b o _ _ hn e=>hk b o hn e,fun b o _ hn e=>⟨o,hk b o hn e⟩,C.keep fun b o hb' e=>hk b o (F.src.low F.st (fun b hb=>(sa.f b hb).1) hb' e) e,rfl,rfl,rfl,htk⟩
      have fr:=F.fr.stepN ex (fun b hb'=>F.ev.owr hb') hwr
      have hO: ∀ b,O b -> b ∉ wr:=fun b hb' hm=>(sa.w b hm).2 hb'
      refine hR (fun b=>W b/\b ∉ wr) O _ ⟨fr.ext,fun b hb'=>?_,fun b hb'=>⟨fr.w0 b (.inl hb'),fun hm=>?_⟩,fr.fresh,fun b hb'=>fr.dj b (.inl hb')⟩
        (F.ev.move (fun b o _ hb' e=>hk b o (fun hm=>by rcases hb' with hb' | hb'; exact hb' (sa.w b hm).1; exact (sa.w b hm).2 hb') e) (fun b hb'=>⟨F.ev.ow b hb',hO b hb'⟩) fun b hb'=>.inl hb'.1)
        ⟨ex.inv F.a.inv,fun b hb'=>by obtain ⟨lo,o,eo⟩:=F.a.wocc b hb'.1; exact ⟨lo,o,hk b o hb'.2 eo⟩,Nat.lt_of_lt_of_le F.a.tok htk⟩
      · rcases fr.w b hb'.1 with h1 | h1
        · rcases h1 with h1 | h1
          · exact .inl h1
          · exact absurd h1 hb'.2
        · exact .inr h1
      · exact hw0 b hm hb'
    cases F.src with
    | one w hn live rep=>exact wpAny_with_toks (Nat.le_refl s₂.toks) (w.done s₂ _ _ (hn ▸ F.st) fun h' tk hk htk=>wpAny_execs_nil (fin h' tk htk hk))
    | many w hn live rep=>exact wpAny_with_toks (Nat.le_refl s₂.toks) (w.done s₂ _ _ (hn ▸ F.st) fun h' tk hk htk=>wpAny_execs_nil (fin h' tk htk hk))
theorem zpv {target iter: Expr} {body: List Stmt} {pos: Pos}: exec (.For target iter body [] pos) env=(standAt pos >>= fun _=>eval iter env >>= fun y=>foldedSetIterable iter env y >>= fun x=>standAt iter.pos >>= fun _=>holding [x] (pyIter x) >>= fun it=>
    runOwn (.forLoop target it body [] env) env):=rfl
theorem z3z {tgt iter: Expr} {xs: List Str} {ts: List Nat} {single: Bool} {it: PI} {body: List Stmt} {l: List PS} {pos: Pos} (si: SI c iter it single) (ht: zpn tgt xs single) (hp: Places c xs ts) (hb: SSs c body l) :
    SS c (.For tgt iter body [] pos) [.forS ts single it l]:=fun C G K ok env A s₀ W₀ O₀ rm W O s ρ out f ev a h Q E k=>by
  simp only [za8,xE] at h
  obtain ⟨items,hit,h⟩:=bind_some h
  split at h
  · rename_i hall
    rw [zpv]
    refine wpAny_bind (wpAny_standAt (wpAny_bind (wpAny_mono (si.v C G K ok env W O s ρ A items ev a rm hit hall
      (fun it s₂=>wpAny (model C.prog C.w) A (runOwn (.forLoop tgt it body [] env) env) Q E s₂) E fun I s₂ fp wr St e₂ src₂ st₂ hw₂ hf₂ hz₂=>?_)
      (fun v s₂ h=>wpAny_bind (wpAny_of_eq (si.f env v) (wpAny_bind (wpAny_standAt (wpAny_bind (wpAny_holding h)))))) fun _ _ e=>e)))
    have notwr: ∀ b,W b -> b ∉ wr:=fun b hb' hm=>by obtain ⟨_,o,ho⟩:=a.wocc b hb'; have:=(hw₂ b hm).2; rw [ho] at this; exact zae this.symm
    refine wpAny_runOwn (h:=none) ?_
    refine zxm (s₁:=s) (W₀:=W₀) (O₁:=O) (W:=fun b=>W b \/ b ∈ wr) (O:=O) (I:=I) (fp:=fp) (wr:=wr) (St:=St) ok rm ht hp hb (fun b hb'=>(hw₂ b hb').2) (fun b hb' hw=>notwr b (f.w0 b hw) hb') ?_ ⟨⟨e₂.toO,fun b hb'=>?_,fun b hb'=>?_,fun b hb'=>.inl hb',fun b hb' ho=>?_⟩,
      ev.grow (fun b o lo eo=>e₂.new b o lo eo) (fun b hb'=>.inl hb') (fun b hb'=>by rcases hb' with hb' | hb'; exact .inl hb'; exact .inr (hw₂ b hb').2),⟨e₂.inv a.inv,fun b hb'=>?_,Nat.lt_of_lt_of_le a.tok e₂.toks⟩,src₂,st₂,fun b hb'=>?_,Nat.zero_le _⟩ h
    ·
      induction out with
      | next ρ'=>
        intro W' O' s' f' ev' a'
        refine k W' O' s' ⟨ExtO.base f f'.ext,f'.w,f'.w0,fun b hb'=>?_,f'.dj⟩ ev' a'
        rcases f'.fresh b hb' with h1 | h1
        · exact f.fresh b h1
        · refine .inr ?_
          cases hh: s₀.heap.get? b with
          | none=>rfl
          | some o=>
            obtain ⟨o',e'⟩:=f.ext.occ b o (ev'.lo b hb') hh
            rw [h1] at e'; exact zae e'
      | ret v=>exact fun val s' e' r'=>k val s' (ExtO.base f e') r'
    · rcases hb' with hb' | hb'
      · rcases f.w b hb' with h1 | h1
        · exact .inl (.inl h1)
        · exact .inr h1
      · exact .inl (.inr hb')
    · rcases hb' with hb' | hb'
      · exact .inl (f.w0 b hb')
      · exact .inr hb'
    · rcases hb' with hb' | hb'
      · exact f.dj b hb' ho
      · exact notwr b (ev.ow b ho) hb'
    · rcases hb' with hb' | hb'
      · exact (a.ext e₂).wocc b hb'
      · exact ⟨(hw₂ b hb').1,src₂.live st₂ b hb'⟩
    · refine ⟨(hf₂ b hb').1,?_,hz₂ b hb'⟩
      by_cases hm: b ∈ wr
      · exact .inl hm
      · refine .inr fun hW=>?_
        rcases hW with hW | hW
        · rcases (hf₂ b hb').2 with h2 | h2
          · exact hm h2
          · exact h2 hW
        · exact hm hW
  · exact zae h
end
section
variable {C: CX} {c: CE} {env: Env} {W₀ O₀ W O: Addr -> Prop} {s₀ s s': Shared} {ρ: Rho}
theorem zsa {G: GT} {K: Nat} (ok: FnOk C G K) {A: Around} (rm: Room A K) {t: Expr} {x: PE} {body: List Stmt} {l: List PS} (ht: SE c t x) (hb: SSs c body l) {out: Out} {R: Result -> Shared -> Prop}
    (hR: After C c env s₀ W₀ O₀ (fun f s'=>R (.ok f) s') out): ∀ (n: Nat) {W O: Addr -> Prop} {s: Shared} {ρ: Rho},Fr' C s₀ W₀ O₀ W O s -> zam C c env W O s.heap ρ -> At C W s ->
      zd6 (fun ρ'=>za2 G x ρ') (fun ρ'=>zap G l ρ') n ρ=some out -> codeAny (model C.prog C.w) A (.whileLoop t body [] env) R s:=by
  intro n
  induction n with
  | zero=>intro W O s ρ f ev a h; exact zae h
  | succ n ih=>
    intro W O s ρ f ev a h
    refine codeAny_of_tree ?_
    show wpAny _ _ ((whileTurn t body [] env).onRaise (fun x=>do noteFrame x env; theTreesLotGoes x)) _ _ s
    refine wpAny_noted ?_
    have e0: whileTurn t body [] env=(isTrue t env (eval t env) >>= fun b=>if b=true then execs body env >>= fun f=>(match f with
        | .next | .cont=>again (.whileLoop t body [] env)
        | .brk=>pure (.done .next)
        | .ret v=>pure (.done (.ret v))) else execs [] env >>= fun f=>pure (.done f)):=by unfold whileTurn; rfl
    rw [e0]
    rw [z3c] at h
    cases hx: za2 G x ρ with
    | none=>rw [hx] at h; exact zae h
    | some b=>
      rw [hx] at h
      refine wpAny_bind (ht.tst ok ev a rm hx _ _ fun s₁ e₁=>?_)
      cases b with
      | false=>
        replace h:=oj h; subst h
        exact wpAny_bind (wpAny_execs_nil (wpAny_pure (hR W O s₁ (f.ext' e₁) (ev.ext e₁.toExt0) (a.ext e₁))))
      | true=>
        dsimp only at h
        cases hl: zap G l ρ with
        | none=>rw [hl] at h; exact zae h
        | some o=>
          rw [hl] at h
          refine wpAny_bind (hb C G K ok env A s₀ W₀ O₀ rm W O s₁ ρ o (f.ext' e₁) (ev.ext e₁.toExt0) (a.ext e₁) hl _ _ ?_)
          induction o with
          | next ρ'=>exact fun W' O' s' f' ev' a'=>wpAny_pure ⟨rfl,ih f' ev' a' h⟩
          | ret v=>replace h:=oj h; subst h; exact fun val s' e' r'=>wpAny_pure (hR val s' e' r')
theorem zxn {t: Expr} {x: PE} {body: List Stmt} {l: List PS} {pos: Pos} (ht: SE c t x) (hb: SSs c body l): SS c (.While t body [] pos) [.whileS x l]:=fun C G K ok env A s₀ W₀ O₀ rm W O s ρ out f ev a h Q E k=>by
  simp only [za8,xE] at h
  exact wpAny_While (zsa ok rm ht hb (by
    induction out with
    | next ρ'=>exact k
    | ret v=>exact k) 6 f ev a h)
theorem z30 {body: List Stmt} {l: List PS} {h₀: ExceptHandler} {hs: List ExceptHandler} {pos: Pos} (hb: SSs c body l): SS c (.Try body (h₀ :: hs) [] [] pos) [.tryS l]:=fun C G K ok env A s₀ W₀ O₀ rm W O s ρ out f ev a h Q E k=>by
  simp only [za8,xE] at h
  refine wpAny_Try_except (hb C G K ok env A s₀ W₀ O₀ rm W O s ρ out f ev a h _ _ ?_)
  induction out with
  | next ρ'=>exact fun W' O' s' f' ev' a'=>wpAny_execs_nil (k W' O' s' f' ev' a')
  | ret v=>exact k
theorem z04 {st: Stmt}: SS c st [.fail]:=fun C G K ok env A s₀ W₀ O₀ rm W O s ρ out f ev a h Q E k=>by
  simp only [za8,xE] at h; exact zae h
end
end Mine
namespace Mine
open PySem PySem.Calls PyProof.Rows
section
variable {C: CX} {c: CE} {env: Env} {W₀ O₀ W O: Addr -> Prop} {s₀ s s': Shared} {ρ: Rho}
noncomputable def zuj (e: Expr): Bool:=Nat.beq e.ctorIdx 25
theorem zuk {ts: List Expr} {k: Nat} {tp: Pos} {e: Expr} {env: Env} (h: zuj e=false): swappedStores [.Tuple ts k tp] e env=pure none:=by
  cases e <;> first | rfl | exact tf h
theorem z05 {ts: List Expr} {k n: Nat} {tp: Pos} {e: Expr} {env: Env} (h: zdi e=false): swapsWithSole [.Tuple ts k tp] e n env=pure false:=by
  show swapsWith e (some (.Tuple ts k tp)) n env=pure false
  exact ze7 h rfl
theorem zm3 {h': Heap} (x: Heap.ExtBut s.heap.objs.size s.heap h'): Ext C s { s with heap:=h' }:=
  have hk: ∀ b o,s.heap.get? b=some o -> h'.get? b=some o:=fun b o e=>x b o (fun h=>by subst h; exact Nat.lt_irrefl _ (Heap.lt_size e)) e
  ⟨⟨fun b o _ e=>hk b o e,C.keep fun b o _ e=>hk b o e,rfl,rfl,rfl⟩,Nat.le_refl _⟩
theorem z06 {es: List Expr} {k: Nat} {tp pos: Pos} {e: Expr} {x: PE} {xs: List Str} {ts: List Nat} (h: SE c e x) (hn: zbp es xs) (hp: Places c xs ts) (hc: zdi e=false) (ht: zuj e=false) :
    SS c (.Assign [.Tuple es k tp] e pos) [.asgT ts x]:=fun C G K ok env A s₀ W₀ O₀ rm W O s ρ out f ev a hx Q E q=>by
  simp only [za8,xE] at hx
  obtain ⟨v,h1,h2⟩:=bind_some hx
  obtain ⟨vs,h3,h4⟩:=bind_some h2
  obtain ⟨ρ',h5,rfl⟩:=zaj h4
  cases v with
  | tuple ps=>
    replace h3:=oj h3; subst h3
    refine Assign_Tuple (h.val ok ev a rm h1 _ _ fun u s₁ e₁ r₁=>?_) (z05 hc) (zuk ht)
    obtain ⟨T,us,n,rfl,hw,lo,ho,r⟩:=r₁
    have hlen: (assignEach es env).length=us.toArray.size:=by
      rw [(hn.star env).1]
      have h1:=r.length
      have h2:=zh0 hp h5
      rw [h2,<- h1]; simp
    refine wpAny_assign_Tuple rm.1 ⟨_,ho,rfl,_,rfl⟩ hlen (hn.star env).2 fun h' hx'=>?_
    have e₂:=zm3 (C:=C) hx'
    have ev₂:=(ev.ext e₁.toExt0).ext e₂.toExt0
    refine zix hn hp ev₂ (RepL.stay ((e₂.toO (O:=fun _=>False)).stay fun _ h=>False.elim h) _ _ (by simpa using r)) h5 fun s₃ e₃ ev₃=>?_
    exact q W O s₃ (((f.ext' e₁).ext' e₂).step e₃ fun b hb=>ev₂.owr hb) ev₃ (((a.ext e₁).ext e₂).extO e₃)
  | _=>cases h3
end
theorem zul {ρ: Rho} {i j: Nat} {s t: Slot} (h: i ≠ j): setR (setR ρ i s) j t=setR (setR ρ j t) i s:=by
  unfold setR
  exact List.set_comm _ _ h
theorem zkk {i: Nat} {s: Slot}: ∀ {ts: List Nat} {ps: List PV} {ρ: Rho},i ∉ ts -> zcw ts ps (setR ρ i s)=(zcw ts ps ρ).map fun r=>setR r i s
  | [],[],ρ,_=>rfl
  | [],_ :: _,ρ,_=>rfl
  | _ :: _,[],ρ,_=>rfl
  | t :: ts,p :: ps,ρ,h=>by
    simp only [pE]
    rw [zul (fun e=>h (by subst e; exact .head _))]
    exact zkk fun hm=>h (.tail _ hm)
theorem zmd {i: Nat} {p: PV}: ∀ {ts: List Nat} {ps: List PV} {ρ: Rho},ts.length=ps.length -> zcw (ts ++ [i]) (ps ++ [p]) ρ=(zcw ts ps ρ).map fun r=>setR r i (.val p)
  | [],[],ρ,_=>rfl
  | [],_ :: _,ρ,h=>by cases h
  | _ :: _,[],ρ,h=>by cases h
  | t :: ts,q :: ps,ρ,h=>by
    simp only [List.cons_append,pE]
    exact zmd (Nat.succ.inj h)
theorem zme: ∀ {ts: List Nat} {ps: List PV} {ρ ρ': Rho},zcw ts ps ρ=some ρ' -> ts.length=ps.length
  | [],[],_,_,_=>rfl
  | [],_ :: _,_,_,h=>by exact zae h
  | _ :: _,[],_,_,h=>by exact zae h
  | t :: ts,q :: ps,_,_,h=>congrArg Nat.succ (zme (by simpa only [pE] using h))
theorem zoh: ∀ {ts: List Nat} {ps: List PV} {ρ ρ': Rho},ts.Nodup -> zcw ts ps ρ=some ρ' -> zcw ts.reverse ps.reverse ρ=some ρ'
  | [],[],_,_,_,h=>h
  | [],_ :: _,_,_,_,h=>by exact zae h
  | _ :: _,[],_,_,_,h=>by exact zae h
  | t :: ts,p :: ps,ρ,ρ',hn,h=>by
    have hl:=zme h
    obtain ⟨h1,h2⟩:=List.nodup_cons.mp hn
    simp only [pE] at h
    rw [zkk h1] at h
    obtain ⟨r,hr,rfl⟩:=zaj h
    rw [List.reverse_cons,List.reverse_cons,zmd (by simpa using hl),zoh h2 hr]
    rfl
section
variable {C: CX} {c: CE} {env: Env} {W₀ O₀ W O: Addr -> Prop} {s₀ s s': Shared} {ρ: Rho} {A: Around}
theorem Places.get {xs: List Str} {ts: List Nat} (hp: Places c xs ts): ∀ t ∈ ts,∃ x ∈ xs,idx c.σ x=some t:=by
  induction hp with
  | nil=>intro t h; cases h
  | cons h1 _ _ ih=>
    intro t h
    rcases List.mem_cons.mp h with rfl | h
    · exact ⟨_,.head _,h1⟩
    · obtain ⟨x,a,b⟩:=ih t h
      exact ⟨x,.tail _ a,b⟩
theorem Places.nodup {xs: List Str} {ts: List Nat} (hp: Places c xs ts): xs.Nodup -> ts.Nodup:=by
  induction hp with
  | nil=>exact fun _=>.nil
  | cons h1 _ hr ih=>
    intro h
    obtain ⟨a,b⟩:=List.nodup_cons.mp h
    refine List.nodup_cons.mpr ⟨fun hm=>?_,ih b⟩
    obtain ⟨x,hx,hi⟩:=hr.get _ hm
    have:=zcq hi h1
    subst this
    exact a hx
theorem Places.snoc {xs: List Str} {ts: List Nat} {x: Str} {i: Nat} (hp: Places c xs ts) (hi: idx c.σ x=some i) (hk: c.sc.names.lookup x=some .local \/ c.sc.names.lookup x=some .cell): Places c (xs ++ [x]) (ts ++ [i]):=by
  induction hp with
  | nil=>exact .cons hi hk .nil
  | cons a b _ ih=>exact .cons a b ih
theorem Places.rev {xs: List Str} {ts: List Nat} (hp: Places c xs ts): Places c xs.reverse ts.reverse:=by
  induction hp with
  | nil=>exact .nil
  | cons a b _ ih=>
    rw [List.reverse_cons,List.reverse_cons]
    exact ih.snoc a b
theorem RepL.snoc {h: Heap} {p: PV} {v: Value}: ∀ {ps: List PV} {vs: List Value},RepL C h W ps vs -> Rep C h W p v -> RepL C h W (ps ++ [p]) (vs ++ [v]):=by
  intro zz
  induction zz with
  | nil=>
    intro vs r rp
    obtain rfl:=za6 r
    exact ⟨_,_,rfl,rp,rfl⟩
  | cons q ps ih=>
    intro vs r rp
    obtain ⟨v',u,rfl,hv,hu⟩:=zat r
    exact ⟨_,_,rfl,hv,ih hu rp⟩
theorem RepL.rev {h: Heap}: ∀ {ps: List PV} {vs: List Value},RepL C h W ps vs -> RepL C h W ps.reverse vs.reverse:=by
  intro zz
  induction zz with
  | nil=>
    intro vs r
    obtain rfl:=za6 r
    exact r
  | cons q ps ih=>
    intro vs r
    obtain ⟨v',u,rfl,hv,hu⟩:=zat r
    rw [List.reverse_cons,List.reverse_cons]
    exact (ih hu).snoc hv
theorem zum {E: Value -> Shared -> Prop} {xs: List Str}: ∀ {ts: List Nat} {ps: List PV} {vals: List Value} {s: Shared} {ρ ρ': Rho} {Q: Unit -> Shared -> Prop},Places c xs ts -> zam C c env W O s.heap ρ ->
    RepL C s.heap W ps vals -> zcw ts ps ρ=some ρ' -> (∀ s',ExtO C (OWr c env) s s' -> zam C c env W O s'.heap ρ' -> Q () s') -> wpAny (model C.prog C.w) A (assignInOrder (xs.map fun n=>bindName env n) vals) Q E s:=by
  induction xs with
  | nil=>
    intro ts ps vals s ρ ρ' Q hp ev hr hb q
    cases hp
    induction ps with
    | nil=>
      replace hb:=oj hb; subst hb
      obtain rfl:=za6 hr
      exact wpAny_pure (q s (Ext.refl s).toO ev)
    | cons _ _=>exact zae hb
  | cons x xs ih=>
    intro ts ps vals s ρ ρ' Q hp ev hr hb q
    cases hp with
    | cons hi hk hrest=>
      cases ps with
      | nil=>exact zae hb
      | cons p ps=>
        obtain ⟨v,u,rfl,hv,hu⟩:=zat hr
        show wpAny _ A (do holding u (bindName env x v); assignInOrder _ u) Q E s
        refine wpAny_bind (wpAny_holding (wpAny_bindName (zbn ev hi hk (.val hv) (fun h=>by exact ft h) fun s₁ e₁ ev₁=>?_)))
        exact ih hrest ev₁ (RepL.stay (e₁.stay fun b hb=>ev.ow b (ev.owr hb)) _ _ hu) hb fun s₂ e₂ ev₂=>q s₂ (e₁.trans e₂) ev₂
end
section
variable {C: CX} {c: CE} {env: Env} {W₀ O₀ W O: Addr -> Prop} {s₀ s s': Shared} {ρ: Rho} {A: Around}
theorem zbp.filter {es: List Expr} {xs: List Str} (hn: zbp es xs) {f: Expr -> Option Str} {c: Str -> Pos -> Bool} (hf: ∀ x p,f (.Name x p)=if c x p=true then some x else none) (hl: (es.filterMap f).length=es.length): es.filterMap f=xs:=by
  induction hn with
  | nil=>rfl
  | cons h ih=>
    rename_i x p es' xs'
    cases hc: c x p with
    | true=>
      rw [List.filterMap_cons_some (by rw [hf,hc]; rfl)] at hl ⊢
      rw [ih (Nat.succ.inj hl)]
    | false=>
      rw [List.filterMap_cons_none (by rw [hf,hc]; rfl)] at hl
      exact absurd hl (Nat.ne_of_lt (Nat.lt_succ_of_le (List.length_filterMap_le f es')))
theorem zq9 {α: Type} {c: Prop} [Decidable c] {a b x y: α} (ha: a=x) (hb: ¬ c -> b=x \/ b=y): (if c then a else b)=x \/ (if c then a else b)=y:=by
  by_cases h: c
  · exact .inl ((if_pos h).trans ha)
  · rw [if_neg h]; exact hb h
theorem zm4 {es vs: List Expr} {xs: List Str} {k k2: Nat} {p p2: Pos} (hn: zbp es xs) (hd: xs.Nodup) (hc: vs.all (constantsAlone 8)=false) (env: Env) :
    swappedStores [.Tuple es k p] (.Tuple vs k2 p2) env=pure none \/ swappedStores [.Tuple es k p] (.Tuple vs k2 p2) env=pure (some xs):=by
  refine zq9 rfl fun _=>zq9 rfl fun _=>zq9 rfl fun hl=>zq9 rfl fun _=>.inr ((if_neg (c:=vs.all (constantsAlone 8)=true) (by rw [hc]; decide)).trans ?_)
  have h1:=bne_eq_false_iff_eq.mp (Bool.or_eq_false_iff.mp (Bool.not_eq_true _ ▸ hl)).1
  exact congrArg (fun z=>(pure (some z): Sem (Option (List Str)))) (hn.filter (c:=fun id pos=>env.kindOf id == some .local && pos.line == (Option.map (fun x=>x.pos.line) es.head?).getD 0) (fun _ _=>rfl) h1)
theorem zxo {es vs: List Expr} {k k2: Nat} {tp p2 pos: Pos} {x: PE} {xs: List Str} {ts: List Nat} (h: SE c (.Tuple vs k2 p2) x) (hn: zbp es xs) (hp: Places c xs ts) (hd: xs.Nodup) (hc: vs.all (constantsAlone 8)=false) :
    SS c (.Assign [.Tuple es k tp] (.Tuple vs k2 p2) pos) [.asgT ts x]:=fun C G K ok env A s₀ W₀ O₀ rm W O s ρ out f ev a hx Q E q=>by
  simp only [za8,xE] at hx
  obtain ⟨v,h1,h2⟩:=bind_some hx
  obtain ⟨vs',h3,h4⟩:=bind_some h2
  obtain ⟨ρ',h5,rfl⟩:=zaj h4
  cases v with
  | tuple ps=>
    replace h3:=oj h3; subst h3
    rcases zm4 (k:=k) (p:=tp) (k2:=k2) (p2:=p2) hn hd hc env with hw | hw
    · refine Assign_Tuple (h.val ok ev a rm h1 _ _ fun u s₁ e₁ r₁=>?_) rfl hw
      obtain ⟨T,us,n,rfl,hw,lo,ho,r⟩:=r₁
      have hlen: (assignEach es env).length=us.toArray.size:=by
        rw [(hn.star env).1]
        have h1:=r.length
        have h2:=zh0 hp h5
        rw [h2,<- h1]; simp
      refine wpAny_assign_Tuple rm.1 ⟨_,ho,rfl,_,rfl⟩ hlen (hn.star env).2 fun h' hx'=>?_
      have e₂:=zm3 (C:=C) hx'
      have ev₂:=(ev.ext e₁.toExt0).ext e₂.toExt0
      refine zix hn hp ev₂ (RepL.stay ((e₂.toO (O:=fun _=>False)).stay fun _ h=>False.elim h) _ _ (by simpa using r)) h5 fun s₃ e₃ ev₃=>?_
      exact q W O s₃ (((f.ext' e₁).ext' e₂).step e₃ fun b hb=>ev₂.owr hb) ev₃ (((a.ext e₁).ext e₂).extO e₃)
    · refine Assign_Tuple_swapped (h.val ok ev a rm h1 _ _ fun u s₁ e₁ r₁=>?_) rfl hw
      obtain ⟨T,us,n,rfl,hw,lo,ho,r⟩:=r₁
      have hlen: xs.length=us.toArray.size:=by
        have h1:=r.length
        have h2:=zh0 hp h5
        rw [h2,<- h1]; simp
      rw [hlen]
      refine wpAny_unpackItems_tuple rm.1 ⟨_,ho,rfl,_,rfl⟩ fun h' hx'=>?_
      have e₂:=zm3 (C:=C) hx'
      have ev₂:=(ev.ext e₁.toExt0).ext e₂.toExt0
      have r₂:=RepL.stay ((e₂.toO (O:=fun _=>False)).stay fun _ h=>False.elim h) _ _ r
      refine zum hp.rev ev₂ (by simpa using r₂.rev) (zoh (hp.nodup hd) h5) fun s₃ e₃ ev₃=>?_
      exact q W O s₃ (((f.ext' e₁).ext' e₂).step e₃ fun b hb=>ev₂.owr hb) ev₃ (((a.ext e₁).ext e₂).extO e₃)
  | _=>cases h3
end
section
variable {C: CX} {c: CE} {env: Env} {W₀ O₀ W O: Addr -> Prop} {s₀ s s': Shared} {ρ: Rho}
theorem RepL.setAt {h: Heap} {p: PV} {v: Value}: ∀ {ps: List PV} {vs: List Value} (i: Nat),RepL C h W ps vs -> Rep C h W p v -> RepL C h W (ps.set i p) (vs.set i v):=by
  intro zz
  induction zz with
  | nil=>
    intro vs i r rp
    obtain rfl:=za6 r
    exact r
  | cons q ps ih=>
    intro vs i r rp
    obtain ⟨v',u,rfl,hv,hu⟩:=zat r
    cases i with
    | zero=>
      exact ⟨_,_,rfl,rp,hu⟩
    | succ i=>
      exact ⟨_,_,rfl,hv,ih i hu rp⟩
theorem zun {A: Around} {E: Value -> Shared -> Prop} {l: Addr} {vs: List Value} {n: Nat} {k: Int} {t: Tok} {v: Value} {Q: Unit -> Shared -> Prop} (hl: s.heap.get? l=some (za5 vs n)) (h0: 0<=k) (hfit: k < 2 ^ 63) (hn: k < vs.length)
    (q: ∀ h' n',h'.get? l=some (za5 (vs.set k.toNat v) n') -> Heap.SameBut l s.heap h' -> Q () { s with heap:=h' }): wpAny (model C.prog C.w) A (setItem (.ref l) (.int k t) v) Q E s:=by
  have ty: s.heap.IsList l vs.toArray:=⟨_,hl,rfl,_,rfl⟩
  have hd: (za5 vs n).data = .seq vs.toArray n:=rfl
  unfold setItem
  try with_reducible refine wpAny_holding ?_
  first | refine wpAny_bind (wpAny_pure ?_) | skip
  refine wpAny_bind (wpAny_sequenceKey ty.typeIs (by decide) (wpAny_bind (wpAny_callSpecial?_slot (name:=Str.ofString "__setitem__") ty.typeIs slot_list_setitem
    (wpAny_call_entry slot_list_setitem ty.typeIs entry_list_setitem ?_ (args_list_setitem _ _ _)))))
  show wpAny _ _ (Builtin.List.listSubscript? (.int k t) >>= _) _ _ s
  refine wpAny_bind (wpAny_listSubscript_int (fitsIndex_of h0 hfit) ?_)
  clear hfit
  obtain ⟨j,rfl⟩:=Int.eq_ofNat_of_zero_le h0
  have hj: j < vs.toArray.size:=by simp only [List.size_toArray]; exact Int.ofNat_lt.mp ‹_›
  show wpAny _ _ ((seqItemAt l j >>= fun r=>pure (r.map (j,·))) >>= _) _ _ s
  refine wpAny_bind (wpAny_bind (wpAny_seqItemAt hl hd (wpAny_pure ?_)))
  rw [Array.getElem?_eq_getElem hj]
  show wpAny _ _ (setSeqItemAt l j v >>= _) _ _ s
  have hm: ∃ n',Obj.mapSeq (·.setIfInBounds j v) (za5 vs n)=za5 (vs.set j v) n':=⟨_,by simp only [Obj.mapSeq,za5,List.setIfInBounds_toArray]; rfl⟩
  obtain ⟨n',hm⟩:=hm
  have fin: (s.heap.update l (Obj.mapSeq (·.setIfInBounds j v))).get? l=some (za5 (vs.set j v) n'):=by rw [Heap.get?_update_self _ hl (by rw [hm]; rfl),hm]
  refine wpAny_bind (wpAny_setSeqItemAt hl hd ?_)
  first
    | exact wpAny_bind (wpAny_pure (wpAny_pure ⟨.none,rfl,wpAny_pure (q _ n' fin (Heap.SameBut.update ..))⟩))
    | exact wpAny_pure ⟨.none,rfl,wpAny_pure (q _ n' fin (Heap.SameBut.update ..))⟩
theorem zuo {i e: Expr} {y x: PE} {nm: Str} {j: Nat} {op: Operator} {p tpos pos: Pos} (h1: SE c i y) (h2: SE c e x) (hi: idx c.σ nm=some j) (hk: visK c.base j (c.sc.names.lookup nm)=true)
    (hd: (nm == ("__debug__" : Str))=false) (hcd: (nm == ("__classdict__" : Str))=false) (hst: ∀ ov iv new,augStore i ov iv new=(do holding [new,ov,iv] (setItem ov iv new); release [new,ov,iv] []; pure .next)) :
    SS c (.AugAssign (.Subscript (.Name nm p) i tpos) op e pos) [.augIdx j y op x]:=fun C G K ok env A s₀ W₀ O₀ rm W O s ρ out f ev a hp Q E q=>by
  simp only [za8,xE] at hp
  obtain ⟨xs,h0,g0⟩:=bind_some hp
  have hsl:=zj3 h0
  obtain ⟨kv,hkv,g1⟩:=bind_some g0
  obtain ⟨yv,hyv,g1'⟩:=bind_some g1
  obtain ⟨kk,rfl,g1''⟩:=zgz (y:=kv) g1'
  obtain ⟨hkk,g2⟩:=zck g1''
  simp only [Bool.and_eq_true,decide_eq_true_eq] at hkk
  obtain ⟨xv,hxv,g3⟩:=bind_some g2
  obtain ⟨z,hz,rfl⟩:=zaj g3
  obtain ⟨v,hv,r⟩:=ev.vars nm j _ hi hk hsl
  cases r with
  | own w lo l r zz=>
  rename_i ad vs n
  refine wpAny_AugAssign_SubscriptAny (wpAny_Name (zb7 ev hcd hv ?_) hd) hst
  refine h1.val ok ev a rm hkv _ _ fun iv s₁ e₁ r₁=>?_
  obtain ⟨t,rfl⟩:=zah r₁
  have l₁:=e₁.new _ _ lo l
  obtain ⟨old,go,ro⟩:=(r.ext e₁.toExt0).get _ hxv
  refine wpAny_getItem_list (items:=vs.toArray) ⟨_,l₁,rfl,_,rfl⟩ hkk.1 (by lia) (by simpa using go) ?_
  refine h2.val ok (ev.ext e₁.toExt0) (a.ext e₁) rm hyv _ _ fun u s₂ e₂ r₂=>?_
  refine (zue hz (ro.ext e₂.toExt0) r₂).up _ _ fun new s₃ e₃ r₃=>?_
  have e₁₃:=(e₁.trans e₂).trans e₃
  have ev₃:=ev.ext e₁₃.toExt0
  have l₃:=e₁₃.new _ _ lo l
  have hlt: kk.toNat < vs.length:=by
    have:=(List.getElem?_eq_some_iff.mp go).1
    exact this
  refine zun l₃ hkk.1 (by lia) (by lia) fun h' ne hl₂ hs'=>?_
  obtain ⟨ex,ev₄,_,_⟩:=zh6 (xs':=xs.set kk.toNat z) ev₃ hi hk hsl (hv.keep e₁₃.new (ev.lo _ ev.loc)) hs' hl₂ (RepL.setAt _ (r.ext e₁₃.toExt0) r₃) (by rw [List.length_set]; exact zz)
  exact q W O _ ((f.ext' e₁₃).step ex fun b hb=>hb) ev₄ ((a.ext e₁₃).extO ex)
end
noncomputable def isSlice (e: Expr): Bool:=Nat.beq e.ctorIdx 26
theorem zln {i: Expr} (h: isSlice i=false) (ov iv new: Value): augStore i ov iv new=(do holding [new,ov,iv] (setItem ov iv new); release [new,ov,iv] []; pure .next):=by
  cases i <;> first | rfl | exact tf h
variable {c: CE} {p₁ pos: Pos}
theorem z31 {e: Expr} {x: PE} (h: SE c e x) (hk: c.sc.names.lookup (Str.ofString "reversed")=some .globalImplicit): SI c (.Call (.Name "reversed" p₁) [e] [] pos) (.revd x) true where
  f:=zd7 rfl
  v:=fun C G K ok env W O s ρ A items ev a rm hi _ Q E q=>by
    simp only [pE] at hi
    obtain ⟨p,h1,h2⟩:=bind_some hi
    obtain ⟨xs,hx,g⟩:=zaj h2
    cases zl1 hx
    cases g
    refine wpAny_Call_NameR (zn8 ev a (by decide) hk ok.revd ?_)
    have hst: (backTo pos (starEach [e] env)).any (·.1)=false:=by rw [h.ns]; rfl
    refine zcc hst (za3 hst ?_)
    rw [h.ns]
    refine spliced_cons (h.val ok ev a rm h1 _ _ fun v s₁ e₁ r₁=>spliced_nil ?_)
    have a₁:=a.ext e₁
    show wpAny _ A (call (.type "reversed") [v]) _ E s₁
    obtain ⟨l,vs,n,rfl,hw,hn,ho,hl,hz⟩:=zbg r₁
    have hL: s₁.heap.IsList l vs.toArray:=⟨_,ho,rfl,_,rfl⟩
    have hlt: l < s₁.heap.objs.size:=Heap.lt_size ho
    have hfr: s.heap.get? s₁.heap.objs.size=none:=by
      cases hh: s.heap.get? s₁.heap.objs.size with
      | none=>rfl
      | some o=>have:=e₁.new _ o a₁.low hh; rw [zar] at this; exact zae this
    refine call_reversed_list hL (wpAny_pyIter_revIter (i:=(vs.toArray.size: Int) - 1) ⟨_,Heap.get?_push_size _ rfl,rfl,rfl⟩ ?_)
    refine q _ _ [s₁.heap.objs.size,l] [s₁.heap.objs.size] _ (e₁.trans zcd) (.one (Walks.listRev rm.1 _ l (Nat.ne_of_lt hlt) vs.toArray) (by rw [List.length_reverse]; exact ziy hl) (fun i h st=>zcy (by obtain ⟨o,ho,hc,_⟩:=st.2.1; exact ⟨o,ho,zfl hc (by decide)⟩)) fun i v hi hv=>?_)
      ⟨Nat.zero_le _,⟨_,Heap.get?_push_size _ rfl,rfl,by simp [revObj]⟩,hL.push _⟩ (zcy ⟨a₁.low,hfr⟩) (zd8 ⟨a₁.low,.inl List.mem_cons_self⟩ ⟨hn,.inr hw⟩) (zd8 ⟨_,Heap.get?_push_size _ rfl⟩ ⟨_,Heap.get?_push_of_some _ ho⟩)
    obtain ⟨x,g1,g2⟩:=zmz hl zpp (vs.toArray.size - 1 - i) v (Nat.lt_of_le_of_lt (Nat.sub_le _ _) (Nat.sub_lt (Nat.lt_of_le_of_lt (Nat.zero_le i) hi) Nat.one_pos)) (by simpa using hv)
    have hz:=ziy hl
    refine ⟨x,?_,g2⟩
    rw [List.getElem?_reverse (by lia),<- hz]
    exact g1
variable {c: CE} {p₁ pos: Pos}
theorem zpw {a: Expr} {x: PE} {nm: Str} {j: Nat} (ha: SE c a x) (hi: idx c.σ nm=some j) (hk: visK c.base j (c.sc.names.lookup nm)=true) (hd: (nm == ("__debug__" : Str))=false) (hcd: (nm == ("__classdict__" : Str))=false)
    (hm: behindInMarks .NotIn (.Name nm p₁)=false): SE c (.Compare a [.NotIn] [.Name nm p₁] pos) (.notinOwn x j):=by
  have key: ∀ (C: CX) (G: GT) (K: Nat) (_: FnOk C G K) (env: Env) (W O: Addr -> Prop) (s: Shared) (ρ: Rho) (A: Around) (z: Bool),zam C c env W O s.heap ρ -> At C W s -> Room A K ->
      za2 G (.notinOwn x j) ρ=some z ->
      ∀ (Q E: Value -> Shared -> Prop),(∀ s',Ext C s s' -> Q (.bool z) s') ->
        wpAny (model C.prog C.w) A (eval a env) (fun a s₁=>wpAny (model C.prog C.w) A (eval (.Name nm p₁) env) (fun b s₂=>wpAny (model C.prog C.w) A (compareOp .NotIn a b) Q E s₂) E s₁) E s:=by
    intro C G K ok env W O s ρ A z ev at' rm h Q E q
    simp only [tE] at h
    obtain ⟨u,h1,h⟩:=bind_some h
    obtain ⟨kvs,h0,g⟩:=bind_some h
    have hr:=zl0 h0
    obtain ⟨k,rfl,rfl⟩:=mapS (y:=u) g
    obtain ⟨v,hv,r⟩:=ev.vars nm j _ hi hk hr
    cases r with
    | ownD ho lo l r=>
    rename_i ad vs
    refine ha.val ok ev at' rm h1 _ _ fun u' s₁ e₁ r₁=>?_
    refine wpAny_Name (zb7 (ev.ext e₁.toExt0) hcd (hv.keep e₁.new (ev.lo _ ev.loc)) ?_) hd
    obtain ⟨t,rfl,_⟩:=za4 r₁
    obtain ⟨o,q1,q2,ho',hr'⟩:=l
    have hd': s₁.heap.DictOf (strKind C.prog C.w) ad vs:=⟨o,q1,q2,e₁.new _ _ lo ho',hr'⟩
    have hkey: (strKind C.prog C.w).is k (.str k t)=true:=strKind_is _ _ _ _
    have hiff: (valueAt vs k).isSome=(kvs.lookup k).isSome:=by
      cases hl: kvs.lookup k with
      | none=>rw [zpj r hl]; rfl
      | some z=>obtain ⟨w,g1,_⟩:=ziv r hl; rw [g1]; rfl
    refine wpAny_notIn_of hkey (ztx lo) hd'.mapOf ?_
    rw [hiff]
    exact q _ (e₁.trans .tok1)
  have e1: ∀ G ρ,zag G (.notinOwn x j) ρ=(za2 G (.notinOwn x j) ρ).map .bool:=fun G ρ=>by
    simp only [eE,tE]
    cases zag G x ρ with
    | none=>rfl
    | some u=>
      simp only [Option.bind_some]
      cases zgr ρ j with
      | none=>rfl
      | some kvs=>cases strOf u <;> rfl
  exact {
    v:=fun C G K ok env W O s ρ A p ev at' rm h Q E q=>by
      rw [e1] at h
      obtain ⟨z,h1,h⟩:=zaj h
      subst h
      exact wpAny_Compare1 (key C G K ok env W O s ρ A z ev at' rm h1 _ _ fun s' e'=>q _ s' e' za1) hm
    ns:=fun _ _=>rfl
    t:=fun C G K ok env W O s ρ A p ev at' rm h Q E q=>by
      exact wpAny_isTrue_Compare1 (key C G K ok env W O s ρ A p ev at' rm h _ _ fun s' e'=>wpAny_truthy_bool (q s' e')) hm }
section
variable {C: CX} {c: CE} {env: Env} {W₀ O₀ W O: Addr -> Prop} {s₀ s s': Shared} {ρ: Rho}
theorem zsb {i: Nat} {x: Str} {xs xs': List (Str × PV)} {ad: Addr} {vs': List (Str × Value)} {h': Heap} (ev: zam C c env W O s.heap ρ) (hi: idx c.σ x=some i) (hk: visK c.base i (c.sc.names.lookup x)=true) (hsl: ρ[i]? = some (some (.ownD xs)))
    (hv: zbl s.heap env C.n₀ x (.ref ad)) (hs: Heap.SameBut ad s.heap h') (hl: h'.DictOf (strKind C.prog C.w) ad vs') (hr: RepD C s.heap W xs' vs') :
    ExtO C O s { s with heap:=h' } /\ zam C c env W O h' (setR ρ i (.ownD xs'))/\zbl h' env C.n₀ x (.ref ad) /\
      (∀ y j t,y ≠ x -> idx c.σ y=some j -> visK c.base j (c.sc.names.lookup y)=true -> ρ[j]? = some (some t) -> t.isOwn=true -> ¬ zbl s.heap env C.n₀ y (.ref ad)):=by
  obtain ⟨u,g1,g2⟩:=ev.vars x i _ hi hk hsl
  have:=g1.fn hv
  subst this
  cases g2 with
  | ownD w lo l r=>
  have hO:=w.1
  have hL:=w.2
  have hcell: ∀ b v,s.heap.IsCell b v -> b ≠ ad:=fun b v hb=>Ne.symm (zft l hb)
  have hap: ∀ y j t,y ≠ x -> idx c.σ y=some j -> visK c.base j (c.sc.names.lookup y)=true -> ρ[j]? = some (some t) -> t.isOwn=true -> ¬ zbl s.heap env C.n₀ y (.ref ad):=fun y j t hy h1 h2 h3 h4 h5=>by
    have:=ev.apart y x j i t _ _ h1 hi h2 hk h3 hsl h4 rfl h5 hv
    subst this
    exact hy (zcq h1 hi)
  have hS: Stay C s.heap h' W W:=fun b o hb hw eb=>⟨(hs.2 b fun h=>hw (ev.ow _ (h ▸ hO))).trans eb,hw⟩
  have keepV: ∀ y u,zbl s.heap env C.n₀ y u -> zbl h' env C.n₀ y u:=fun y u hy=>by
    cases hy with
    | loc k' n' e'=>
      obtain ⟨o,es,ep,ho,rr⟩:=n'
      exact .loc k' ⟨o,es,ep,(hs.2 _ (Ne.symm hL)).trans ho,rr⟩ e'
    | cell k' l' lo' i'=>
      obtain ⟨o,ho,hd⟩:=i'
      exact .cell k' l' lo' ⟨o,(hs.2 _ (hcell _ _ ⟨o,ho,hd⟩)).trans ho,hd⟩
  have ex: ExtO C O s { s with heap:=h' }:=.sameBut hs hO lo (by obtain ⟨o,_,_,h,_⟩:=hl; exact ⟨o,h⟩) (fun o eo=>by
    obtain ⟨o',es,ep,e',_,hd,_⟩:=l
    rw [e'] at eo; replace eo:=oj eo; subst eo; exact zq3 hd) (Nat.le_refl _)
  refine ⟨ex,?_,keepV x _ hv,hap⟩
  exact {
    glob:=ev.glob
    bui:=ev.bui
    kind:=ev.kind
    ow:=ev.ow
    lo:=ev.lo
    loc:=ev.loc
    ns:=by obtain ⟨m,o,es,ep,ho,rr⟩:=ev.ns; exact ⟨m,o,es,ep,(hs.2 _ (Ne.symm hL)).trans ho,rr⟩
    names:=ev.names
    cells:=fun y hy=>by obtain ⟨a,v,h1,h2,o,ho,hd⟩:=ev.cells y hy; exact ⟨a,v,h1,h2,o,(hs.2 _ (hcell _ _ ⟨o,ho,hd⟩)).trans ho,hd⟩
    cinj:=ev.cinj
    top:=fun j t hj=>by
      rcases zbi hj with ⟨rfl,_⟩ | ⟨_,hj⟩
      · exact zfr hi
      · exact ev.top j t hj
    vars:=fun y j t h1 h2 h3=>by
      rcases zbi h3 with ⟨rfl,rfl⟩ | ⟨hne,h3⟩
      · have:=zcq h1 hi; subst this
        exact ⟨_,keepV _ _ hv,.ownD ⟨hO,hL⟩ lo hl (RepD.stay hS _ _ hr)⟩
      · obtain ⟨u,k1,k2⟩:=ev.vars y j t h1 h2 h3
        have hy: y ≠ x:=fun e'=>by subst e'; rw [hi] at h1; replace h1:=oj h1; subst h1; exact hne rfl
        refine ⟨u,keepV _ _ k1,?_⟩
        induction k2 with
        | val r=>exact .val (Rep.stay hS _ _ r)
        | own w' lo' l' r' z'=>exact .own w' lo' ((hs.2 _ (fun h=>by subst h; exact hap y j _ hy h1 h2 h3 rfl k1)).trans l') (RepL.stay hS _ _ r') z'
        | ownD w' lo' g' r'=>
          have hne': ∀ {b l},s.heap.DictOf (strKind C.prog C.w) b l -> zbl s.heap env C.n₀ y (.ref b) -> b ≠ ad:=fun _ hvb h=>by subst h; exact hap y j _ hy h1 h2 h3 rfl hvb
          have h0:=hne' g' k1
          obtain ⟨o,e1,e2,ho,hr'⟩:=g'
          exact .ownD w' lo' ⟨o,e1,e2,(hs.2 _ h0).trans ho,hr'⟩ (RepD.stay hS _ _ r')
    apart:=fun y z j k t u v h1 h2 k1 k2 h3 h4 h5 h6 h7 h8=>by
      have back: ∀ {y: Str} {j: Nat} {v: Value},idx c.σ y=some j -> visK c.base j (c.sc.names.lookup y)=true -> (∃ t: Slot,ρ[j]? = some (some t)) -> zbl h' env C.n₀ y v -> zbl s.heap env C.n₀ y v:=fun {y j v} h1 h2 z h7=>by
        obtain ⟨t',h3⟩:=z
        obtain ⟨u,k1,_⟩:=ev.vars y j t' h1 h2 h3
        rw [h7.fn (keepV _ _ k1)]; exact k1
      have sl1: ∃ t',ρ[j]? = some (some t')/\t'.isOwn=true:=by
        rcases zbi h3 with ⟨rfl,rfl⟩ | ⟨_,h3⟩
        · exact ⟨_,hsl,rfl⟩
        · exact ⟨_,h3,h5⟩
      have sl2: ∃ t',ρ[k]? = some (some t')/\t'.isOwn=true:=by
        rcases zbi h4 with ⟨rfl,rfl⟩ | ⟨_,h4⟩
        · exact ⟨_,hsl,rfl⟩
        · exact ⟨_,h4,h6⟩
      obtain ⟨t',q1,q2⟩:=sl1
      obtain ⟨u',q3,q4⟩:=sl2
      exact ev.apart y z j k t' u' v h1 h2 k1 k2 q1 q3 q2 q4 (back h1 k1 ⟨_,q1⟩ h7) (back h2 k2 ⟨_,q3⟩ h8) }
end
section
variable {C: CX} {c: CE} {env: Env} {W₀ O₀ W O: Addr -> Prop} {s₀ s s': Shared} {ρ: Rho}
theorem RepD.length {h: Heap}: ∀ {kvs: List (Str × PV)} {l: List (Str × Value)},RepD C h W kvs l -> l.length=kvs.length:=by
  intro zz
  induction zz with
  | nil=>intro _ r; obtain rfl: _=_:=r; rfl
  | cons zq t ih=>
    obtain ⟨q,y⟩:=zq
    intro l r
    obtain ⟨v,l',rfl,_,r⟩:=r
    simp [ih r]
theorem z32 {e: Expr} {x: PE} {y: Str} {i: Nat} {p p₁ pos spos: Pos} (h: SE c e x) (hi: idx c.σ y=some i) (hvis: visK c.base i (c.sc.names.lookup y)=true)
    (hd: (y == ("__debug__" : Str))=false) (hcd: (y == ("__classdict__" : Str))=false) (hline: (p₁.endLine == pos.line)=true) :
    SS c (.Expr (.Call (.Attribute (.Name y p) (Str.ofString "update") p₁) [e] [] pos) spos) [.upd i x]:=fun C G K ok env A s₀ W₀ O₀ rm W O s ρ out f ev a hp Q E k=>by
  simp only [za8,xE] at hp
  obtain ⟨xs,h0,g⟩:=bind_some hp
  have hsl:=zl0 h0
  obtain ⟨u,hu,g1⟩:=bind_some g
  obtain ⟨l₂,h1,g2⟩:=bind_some g1
  cases zr2 h1
  obtain ⟨hz,rfl⟩:=zau g2
  obtain ⟨v,hv,r⟩:=ev.vars y i _ hi hvis hsl
  cases r with
  | ownD w lo l r=>
  rename_i ad vs
  refine wpAny_Expr_any ?_ (zbw ev.kind) rfl
  have hst: (backTo pos (starEach [e] env)).any (·.1)=false:=by rw [h.ns]; rfl
  refine wpAny_Call_method_late (zeq rfl) (by rw [h.ns]; rfl) hline rfl (wpAny_Name (zb7 ev hcd hv ?_) hd)
  refine ⟨"dict","dict.update",F.plainAttrs_dict,F.slot_dict_update,F.type_dict_update,l.typeIs,l.mapOf.noDict,?_⟩
  refine callWith_builtin hst (za3 hst ?_)
  rw [h.ns]
  refine spliced_cons (h.val ok ev a rm hu _ _ fun u' s₁ e₁ r₁=>spliced_nil ?_)
  have ev₁:=ev.ext e₁.toExt0
  obtain ⟨b,ml,rfl,hw,lob,hdb,hrb⟩:=r₁
  obtain ⟨o,q1,q2,ho',hr'⟩:=l
  have hd₁: s₁.heap.DictOf (strKind C.prog C.w) ad vs:=⟨o,q1,q2,e₁.new _ _ lo ho',hr'⟩
  have hr₁:=RepD.stay (e₁.toExt0.stay W) _ _ r
  have hne: ad ≠ b:=fun h=>hw (h ▸ ev.ow _ w.1)
  have hl1:=hr₁.length
  have hl2:=hrb.length
  refine call_meetsIn PySem.F.slot_dict_update hd₁.typeIs PySem.F.entry_dict_update (PySem.F.args_dict_update_2 _ _) (meets_dict_update (strKind C.prog C.w) ad b hne (ztx lob)) ⟨vs,ml,hd₁,hdb,?_,fun h' hm _ hs=>?_⟩
  · rw [hl1,hl2,sizeLine_eq]; exact Nat.le_trans ‹_› (by decide)
  · obtain ⟨ex,ev₂,hv₂,hap⟩:=zsb (xs':=zfm xs l₂) ev₁ hi hvis hsl (hv.keep e₁.new (ev.lo _ ev.loc)) hs hm (ziw hr₁ hrb)
    exact k W O _ ((f.ext' e₁).step ex fun b hb=>hb) ev₂ ((a.ext e₁).extO ex)
end
variable {c: CE} {pos: Pos}
theorem zup: SEF c (.Dict [] [] pos) (.dict [] []):=fun C G K ok env W O s ρ A p ev at' rm h Q E q=>by
  simp [eE,pE,zhp,zfm] at h
  subst h
  rw [arm_eval_Dict]
  refine wpAny_bind (wpAny_standAt ?_)
  show wpAny _ A newDict Q E s
  refine wpAny_newObj_type (T:="dict") ?_
  exact q s.heap.objs.size _ zcd ⟨[],Heap.DictOf.new s.heap,rfl⟩ at'.low zar at'.nw
section
variable {C: CX} {h h': Heap} {W W': Addr -> Prop} {ad: Addr} {p: PV}
theorem zog.stay (o: zog C h W ad p) (lo: C.n₀<=ad) (k: Stay C h h' (fun b=>W b \/ b=ad) (fun b=>W' b \/ b=ad)) (ha: ∀ o,h.get? ad=some o -> h'.get? ad=some o): zog C h' W' ad p:=by
  cases p with
  | list xs=>
    obtain ⟨vs,n,h1,h2,h3⟩:=o
    exact ⟨vs,n,ha _ h1,RepL.stay k _ _ h2,h3⟩
  | dict kvs=>
    obtain ⟨l,⟨o,q1,q2,ho,hr⟩,h2⟩:=o
    exact ⟨l,⟨o,q1,q2,ha _ ho,hr⟩,RepD.stay k _ _ h2⟩
  | _=>exact o.elim
theorem zog.occ (o: zog C h W ad p): ∃ o,h.get? ad=some o:=by
  cases p with
  | list xs=>obtain ⟨vs,n,h,_⟩:=o; exact ⟨_,h⟩
  | dict kvs=>obtain ⟨l,⟨o,_,_,h,_⟩,_⟩:=o; exact ⟨o,h⟩
  | _=>exact o.elim
end
end Mine
namespace Mine
open PySem PySem.Calls PyProof.Rows
set_option backward.match.sparseCases false
variable {c: CE}
noncomputable def OwnW (C: CX) (h: Heap) (W: Addr -> Prop) (ad: Addr): PV -> Prop
  | .list xs=>∃ vs n,h.get? ad=some (za5 vs n)/\RepL C h W xs vs/\xs.length<=sizeLine
  | .dict kvs=>∃ l,h.DictOf (strKind C.prog C.w) ad l/\RepD C h W kvs l
  | _=>False
theorem z07 {C: CX} {env: Env} {W O: Addr -> Prop} {h: Heap} {ρ: Rho} {ad: Addr} (ev: zam C c env W O h ρ) (hW: W ad) (lo: C.n₀<=ad): zam C c env W (fun b=>O b \/ b=ad) h ρ:=
  {
      glob:=ev.glob
      bui:=ev.bui
      kind:=ev.kind
      ow:=fun b hb=>by rcases hb with hb | rfl; exact ev.ow b hb; exact hW
      lo:=fun b hb=>by rcases hb with hb | rfl; exact ev.lo b hb; exact lo
      loc:=.inl ev.loc
      ns:=ev.ns
      names:=ev.names
      cells:=fun y hy=>by obtain ⟨b,v,h1,h2,h3⟩:=ev.cells y hy; exact ⟨b,v,h1,.inl h2,h3⟩
      cinj:=ev.cinj
      top:=ev.top
      vars:=fun y j t h1 h2 h3=>by
        obtain ⟨v,k1,k2⟩:=ev.vars y j t h1 h2 h3
        refine ⟨v,k1,?_⟩
        induction k2 with
        | val r=>exact .val r
        | own w lo l r z=>exact .own ⟨.inl w.1,w.2⟩ lo l r z
        | ownD w lo g' r=>exact .ownD ⟨.inl w.1,w.2⟩ lo g' r
      apart:=ev.apart }
theorem zsc {C: CX} {env: Env} {W O: Addr -> Prop} {s: Shared} {ρ: Rho} {M: Model} {A: Around} {x: Str} {i: Nat} {p: PV} {sl: Slot} {ad: Addr} {Q: Unit -> Shared -> Prop} {E: Value -> Shared -> Prop}
    (ev: zam C c env W O s.heap ρ) (hW: W ad) (hO: ¬ O ad) (hp: ownOf p=some sl) (ho: OwnW C s.heap W ad p) (lo: C.n₀<=ad)
    (hi: idx c.σ x=some i) (hk: c.sc.names.lookup x=some .local \/ c.sc.names.lookup x=some .cell)
    (q: ∀ s',ExtO C (OWr c env) s s' -> zam C c env W (fun b=>O b \/ b=ad) s'.heap (setR ρ i sl) -> Q () s'): wpAny M A (storeName env x (.ref ad)) Q E s:=by
  have hL: ad ≠ env.locals:=fun h=>hO (h ▸ ev.loc)
  have ev₂:=z07 ev hW lo
  have hsl: RepS C s.heap W (fun b=>(O b \/ b=ad)/\b ≠ env.locals) sl (.ref ad):=by
    cases p with
    | list xs=>simp only [vE] at hp; replace hp:=oj hp; subst hp; obtain ⟨vs,n,h1,h2,h3⟩:=ho; exact .own ⟨.inr rfl,hL⟩ lo h1 h2 h3
    | dict kvs=>simp only [vE] at hp; replace hp:=oj hp; subst hp; obtain ⟨l,h1,h2⟩:=ho; exact .ownD ⟨.inr rfl,hL⟩ lo h1 h2
    | _=>exact ho.elim
  refine zbn ev₂ hi hk hsl (fun _ z j t hz hj hvj ht hto hvz=>?_) fun s₃ e₃ ev₃=>q s₃ e₃ ev₃
  obtain ⟨v,k1,k2⟩:=ev.vars z j t hj hvj ht
  have:=k1.fn hvz
  subst this
  cases k2 with
  | val r=>exact ft hto
  | own w _ _ _ _=>exact hO w.1
  | ownD w _ _ _=>exact hO w.1
end Mine
namespace Mine
open PySem PySem.Calls PyProof.Rows
variable {c: CE} {pos: Pos}
inductive SEFs (c: CE): List Expr -> List PE -> Prop
  | nil: SEFs c [] []
  | cons {e: Expr} {x: PE} {es: List Expr} {xs: List PE}: SEF c e x -> (∀ r env,starEach (e :: r) env=(false,eval e env) :: starEach r env) -> SEFs c es xs -> SEFs c (e :: es) (x :: xs)
inductive zlo (C: CX) (h: Heap) (W: Addr -> Prop): List Addr -> List PV -> Prop
  | nil: zlo C h W [] []
  | cons {ad: Addr} {p: PV} {ads: List Addr} {ps: List PV}: OwnW C h W ad p -> C.n₀<=ad -> zlo C h W ads ps -> zlo C h W (ad :: ads) (p :: ps)
theorem OwnW.of {C: CX} {h h': Heap} {W W': Addr -> Prop} {ad: Addr} {p: PV} (o: zog C h W ad p) (k: Stay C h h' (fun b=>W b \/ b=ad) W') (ha: ∀ o,h.get? ad=some o -> h'.get? ad=some o): OwnW C h' W' ad p:=by
  cases p with
  | list xs=>obtain ⟨vs,n,h1,h2,h3⟩:=o; exact ⟨vs,n,ha _ h1,RepL.stay k _ _ h2,h3⟩
  | dict kvs=>obtain ⟨l,⟨o,q1,q2,ho,hr⟩,h2⟩:=o; exact ⟨l,⟨o,q1,q2,ha _ ho,hr⟩,RepD.stay k _ _ h2⟩
  | _=>exact o.elim
theorem zxp {C: CX} {G: GT} {K: Nat} (ok: FnOk C G K) {env: Env} {O: Addr -> Prop} {ρ: Rho} {A: Around} (rm: Room A K) {E: Value -> Shared -> Prop} {es: List Expr} {xs: List PE} (hs: SEFs c es xs) :
    ∀ {W: Addr -> Prop} {s: Shared} {ps: List PV} {Q: List Value -> Shared -> Prop},zam C c env W O s.heap ρ -> At C W s -> zbe G xs ρ=some ps ->
    (∀ ads s',Ext C s s' -> zam C c env (fun b=>W b \/ b ∈ ads) O s'.heap ρ -> At C (fun b=>W b \/ b ∈ ads) s' -> zlo C s'.heap (fun b=>W b \/ b ∈ ads) ads ps -> ads.Nodup -> (∀ a ∈ ads,s.heap.get? a=none /\ ¬ W a) -> Q (ads.map .ref) s') ->
    wpAny (model C.prog C.w) A (spliced (backTo pos (starEach es env))) Q E s:=by
  induction hs with
  | nil=>
    intro W s ps Q ev a h q
    simp only [pE] at h; replace h:=oj h; subst h
    have e: (fun b=>W b \/ b ∈ ([]: List Addr))=W:=by funext b; simp
    exact spliced_nil (q [] s (.refl s) (by rw [e]; exact ev) (by rw [e]; exact a) .nil .nil fun a ha=>by cases ha)
  | cons h1 ns _ ih=>
    intro W s ps Q ev a h q
    simp only [pE] at h
    obtain ⟨p,hp,h⟩:=bind_some h
    obtain ⟨ps',hps,rfl⟩:=zaj h
    rw [ns]
    refine spliced_cons (h1 C G K ok env W O s ρ A p ev a rm hp _ _ fun ad s₁ e₁ ho lo hf hw=>?_)
    have ev₁: zam C c env (fun b=>W b \/ b=ad) O s₁.heap ρ:=ev.grow (fun b o lo eo=>e₁.new b o lo eo) (fun b hb=>.inl hb) fun b hb=>by
      rcases hb with hb | rfl
      · exact .inl hb
      · exact .inr hf
    have a₁: At C (fun b=>W b \/ b=ad) s₁:=⟨e₁.inv a.inv,fun b hb=>by
      rcases hb with hb | rfl
      · exact (a.ext e₁).wocc b hb
      · exact ⟨lo,ho.occ⟩,(a.ext e₁).tok⟩
    refine ih ev₁ a₁ hps fun ads s₂ e₂ ev₂ a₂ hos hnd hnew=>?_
    have e: (fun b=>(W b \/ b=ad) \/ b ∈ ads)=fun b=>W b \/ b ∈ ad :: ads:=by funext b; simp [or_assoc]
    rw [e] at ev₂ a₂ hos
    refine q (ad :: ads) s₂ (e₁.trans e₂) ev₂ a₂ (.cons (OwnW.of ho (Stay.grow (fun b o lo eo=>e₂.new b o lo eo) fun b hb=>?_) fun o ho=>e₂.new ad o lo ho) lo hos) (List.nodup_cons.mpr ⟨fun hm=>?_,hnd⟩) fun b hb=>?_
    · rcases hb with hb | hb
      · exact .inl (.inl hb)
      · rcases List.mem_cons.mp hb with rfl | hb
        · exact .inl (.inr rfl)
        · exact .inr (hnew b hb).1
    · exact (hnew ad hm).2 (.inr rfl)
    · rcases List.mem_cons.mp hb with rfl | hb
      · exact ⟨hf,hw⟩
      · refine ⟨?_,fun h=>(hnew b hb).2 (.inl h)⟩
        cases hh: s.heap.get? b with
        | none=>rfl
        | some o=>
          have h3:=(a₂.wocc b (.inr (.tail _ hb))).1
          have:=e₁.new b o h3 hh
          rw [(hnew b hb).1] at this; exact zae this
variable {c: CE} {pos: Pos}
theorem OwnW.stay {C: CX} {h h': Heap} {W: Addr -> Prop} {ad: Addr} {p: PV} (o: OwnW C h W ad p) (k: Stay C h h' W W) (ha: ∀ o,h.get? ad=some o -> h'.get? ad=some o): OwnW C h' W ad p:=by
  cases p with
  | list xs=>obtain ⟨vs,n,h1,h2,h3⟩:=o; exact ⟨vs,n,ha _ h1,RepL.stay k _ _ h2,h3⟩
  | dict kvs=>obtain ⟨l,⟨o,q1,q2,ho,hr⟩,h2⟩:=o; exact ⟨l,⟨o,q1,q2,ha _ ho,hr⟩,RepD.stay k _ _ h2⟩
  | _=>exact o.elim
theorem zlo.stay {C: CX} {h h': Heap} {W: Addr -> Prop} {ads: List Addr} {ps: List PV} (o: zlo C h W ads ps) (k: Stay C h h' W W): (∀ a ∈ ads,C.n₀<=a -> ∀ o,h.get? a=some o -> h'.get? a=some o) -> zlo C h' W ads ps:=by
  induction o with
  | nil=>exact fun _=>.nil
  | cons h1 lo _ ih=>exact fun ha=>.cons (h1.stay k (ha _ (.head _) lo)) lo (ih fun a hm=>ha a (.tail _ hm))
theorem zpx {C: CX} {env: Env} {W: Addr -> Prop} {A: Around} {E: Value -> Shared -> Prop} {es: List Expr} {xs: List Str} (hn: zbp es xs): ∀ {ts: List Nat} {bs: List Bool} {ads: List Addr} {ps: List PV} {O: Addr -> Prop} {s: Shared} {ρ ρ': Rho} {Q: Unit -> Shared -> Prop},
    Places c xs ts -> zam C c env W O s.heap ρ -> zlo C s.heap W ads ps -> ads.Nodup -> (∀ a ∈ ads,W a /\ ¬ O a) -> (∀ b ∈ bs,b=true) -> znx ts bs ps ρ=some ρ' ->
    (∀ s',ExtO C (fun b=>O b \/ b ∈ ads) s s' -> zam C c env W (fun b=>O b \/ b ∈ ads) s'.heap ρ' -> Q () s') ->
    wpAny (model C.prog C.w) A (assignInOrder ((assignEach es env).map (·.2)) (ads.map .ref)) Q E s:=by
  induction hn with
  | nil=>
    intro ts bs ads ps O s ρ ρ' Q hp ev ho _ _ _ hb q
    cases hp
    cases ho with
    | nil=>
      cases bs with
      | nil=>
        simp only [pE] at hb; replace hb:=oj hb; subst hb
        have e: (fun b=>O b \/ b ∈ ([]: List Addr))=O:=by funext b; simp
        exact wpAny_pure (q s (Ext.refl s).toO (by rw [e]; exact ev))
      | cons _ _=>simp [pE] at hb
    | cons _ _ _=>simp [pE] at hb
  | cons h ih=>
    intro ts bs ads ps O s ρ ρ' Q hp ev ho hnd hin hbs hb q
    cases hp with
    | cons hi hk hrest=>
      cases ho with
      | nil=>simp [pE] at hb
      | cons h1 lo hos=>
        rename_i ad p ads ps
        cases bs with
        | nil=>simp [pE] at hb
        | cons b bs=>
          obtain rfl:=hbs b (.head _)
          simp only [pE,List.head?_cons,Option.bind_some,if_true,List.tail_cons] at hb
          obtain ⟨sl,hsl,hb⟩:=bind_some hb
          obtain ⟨n1,n2⟩:=List.nodup_cons.mp hnd
          show wpAny _ A (do holding (ads.map .ref) (assign _ env (.ref ad)); assignInOrder _ (ads.map .ref)) Q E s
          refine wpAny_bind (wpAny_holding (wpAny_assign_Name (zsc ev (hin ad (.head _)).1 (hin ad (.head _)).2 hsl h1 lo hi hk fun s₁ e₁ ev₁=>?_)))
          refine ih hrest ev₁ (hos.stay (e₁.stay fun b hb=>ev.ow b (ev.owr hb)) fun a hm l o eo=>e₁.new a o l (fun h=>(hin a (.tail _ hm)).2 (ev.owr h)) eo) n2 (fun a hm=>⟨(hin a (.tail _ hm)).1,fun h=>?_⟩) (fun b hb=>hbs b (.tail _ hb)) hb fun s₂ e₂ ev₂=>?_
          · rcases h with h | rfl
            · exact (hin a (.tail _ hm)).2 h
            · exact n1 hm
          · have e: (fun b=>(O b \/ b=ad) \/ b ∈ ads)=fun b=>O b \/ b ∈ ad :: ads:=by funext b; simp [or_assoc]
            rw [e] at e₂ ev₂
            exact q s₂ ((e₁.mono fun b hb=>.inl (ev.owr hb)).trans e₂) ev₂
variable {c: CE}
theorem zlo.length {C: CX} {h: Heap} {W: Addr -> Prop} {ads: List Addr} {ps: List PV} (o: zlo C h W ads ps): ads.length=ps.length:=by
  induction o with
  | nil=>rfl
  | cons _ _ _ ih=>simp [ih]
theorem zbp.len {es: List Expr} {xs: List Str} (h: zbp es xs): es.length=xs.length:=by
  induction h with
  | nil=>rfl
  | cons _ ih=>simp [ih]
theorem SEFs.length {es: List Expr} {xs: List PE} (h: SEFs c es xs): es.length=xs.length:=by
  induction h with
  | nil=>rfl
  | cons _ _ _ ih=>simp [ih]
theorem zsd {es vs: List Expr} {k k2: Nat} {tp p2 pos: Pos} {xs: List Str} {ts: List Nat} {bs: List Bool} {ys: List PE} (hs: SEFs c vs ys) (hn: zbp es xs) (hp: Places c xs ts) (hbs: ∀ b ∈ bs,b=true) (hz: zak vs.length=true) (hlen: es.length=vs.length)
    (hw: ∀ env,swappedStores [.Tuple es k tp] (.Tuple vs k2 p2) env=pure none): SS c (.Assign [.Tuple es k tp] (.Tuple vs k2 p2) pos) [.asgTOwn ts bs ys]:=fun C G K ok env A s₀ W₀ O₀ rm W O s ρ out f ev a hx Q E q=>by
  simp only [za8,xE] at hx
  obtain ⟨ps,h1,h2⟩:=bind_some hx
  obtain ⟨ρ',h5,rfl⟩:=zaj h2
  refine Assign_Tuple (wpAny_Tuple (zxp ok rm hs ev a h1 fun ads s₁ e₁ ev₁ a₁ hos hnd hnew=>?_)) rfl (hw env)
  have hl: ads.length=vs.length:=by rw [hos.length,zdm h1,hs.length]
  refine ⟨by rw [List.length_map,hl,sizeLine_eq]; exact of_decide_eq_true hz,?_⟩
  have hes: (assignEach es env).length=(ads.map Value.ref).toArray.size:=by
    rw [(hn.star env).1]; simp [hl,<- hlen,hn.len]
  refine wpAny_assign_Tuple rm.1 ⟨_,Heap.get?_push_size _ rfl,rfl,_,rfl⟩ hes (hn.star env).2 fun h' hx'=>?_
  have e₂:=(zcd (C:=C) (s:=s₁) (o:={ cls:=.type "tuple",data:=.seq (ads.map Value.ref).toArray })).trans (zm3 (C:=C) hx')
  have ev₂:=ev₁.ext e₂.toExt0
  have ho₂:=hos.stay (e₂.toExt0.stay _) fun a _ lo o eo=>e₂.new a o lo eo
  have h0: ∀ b ∈ ads,s₀.heap.get? b=none:=fun b hb=>by
    cases hh: s₀.heap.get? b with
    | none=>rfl
    | some o=>
      obtain ⟨o',e'⟩:=f.ext.occ b o (a₁.wocc b (.inr hb)).1 hh
      rw [(hnew b hb).1] at e'; exact zae e'
  refine zpx hn hp ev₂ ho₂ hnd (fun b hb=>⟨.inr hb,fun h=>(hnew b hb).2 (ev.ow b h)⟩) hbs h5 fun s₃ e₃ ev₃=>?_
  have fx:=(f.ext' e₁).ext' e₂
  refine q _ _ s₃ (Fr'.step (W:=fun b=>W b \/ b ∈ ads) (O:=fun b=>O b \/ b ∈ ads) ⟨fx.ext,fun b hb=>?_,fun b hb=>.inl (f.w0 b hb),fun b hb=>?_,fun b hb h=>?_⟩ e₃ fun b hb=>hb) ev₃ ((a₁.ext e₂).extO e₃)
  · rcases hb with hb | hb
    · rcases f.w b hb with h | h
      · exact .inl h
      · exact .inr (.inl h)
    · exact .inr (.inr hb)
  · rcases hb with hb | hb
    · exact f.fresh b hb
    · exact .inr (h0 b hb)
  · rcases h with h | h
    · exact f.dj b hb h
    · exact (hnew b h).2 (f.w0 b hb)
noncomputable def zuq (c: CE): (es: List Expr) -> Option {xs: List Str // zbp es xs}
  | []=>some ⟨[],.nil⟩
  | .Name x p :: r=>(zuq c r).map fun a=>⟨x :: a.1,.cons a.2⟩
  | _=>none
noncomputable def tgtC (c: CE): (t: Expr) -> Option {p: List Str × Bool // zpn t p.1 p.2}
  | .Name x p=>some ⟨([x],true),.one⟩
  | .Tuple es k p=>(zuq c es).map fun a=>⟨(a.1,false),.many a.2⟩
  | _=>none
noncomputable def zi1 (c: CE): (xs: List Str) -> Option {ts: List Nat // Places c xs ts}
  | []=>some ⟨[],.nil⟩
  | x :: r=>match h: idx c.σ x with
    | some i=>if hk: c.sc.names.lookup x=some .local \/ c.sc.names.lookup x=some .cell then (zi1 c r).map fun a=>⟨i :: a.1,.cons h hk a.2⟩ else none
    | none=>none
noncomputable def gokC (c: CE) (t: Expr): Option {p: List Str × List Nat × Bool // GOk c t p.1 p.2.1 p.2.2}:=
  match tgtC c t with
  | none=>none
  | some n=>match zi1 { c with σ:=n.1.1.reverse ++ c.σ } n.1.1 with
    | none=>none
    | some ts=>if h1: n.1.1.reverse.all (fun x=>zq2 (c.sc.names.lookup x) && c.sc.names.lookup x != some .free && ((idx c.σ x).all fun i=>decide (i < c.base)))=true then
        if h2: ts.1.all (fun t=>decide (c.σ.length<=t))=true then
          some ⟨(n.1.1,ts.1,n.1.2),⟨n.2,ts.2,fun x hx=>by
            have:=List.all_eq_true.mp h1 x hx
            simp only [Bool.and_eq_true,bne_iff_ne,ne_eq,Option.all_eq_true,decide_eq_true_eq] at this
            exact ⟨this.1.1,this.1.2,fun i hi=>this.2 i hi⟩,fun t ht=>of_decide_eq_true (List.all_eq_true.mp h2 t ht)⟩⟩
        else none
      else none
noncomputable def zxq (c: CE) (scope: Scope): Bool:=scope.kind == .function && decide (scope.names.map (·.1)).Nodup &&
  scope.names.all fun n=>n.2 != .free || ((c.sc.names.lookup n.1 == some .cell || c.sc.names.lookup n.1 == some .free) && ((idx c.σ n.1).all fun i=>visK c.base i (c.sc.names.lookup n.1)))
theorem zur {c: CE} {scope: Scope} (h: zxq c scope=true): ScOk c scope:=by
  simp only [zxq,Bool.and_eq_true,beq_iff_eq,decide_eq_true_eq] at h
  obtain ⟨⟨h1,h2⟩,h3⟩:=h
  refine ⟨h1,h2,fun n hn=>?_⟩
  have:=List.all_eq_true.mp h3 _ hn
  simp only [bne_self_eq_false,Bool.false_or,Bool.and_eq_true,Bool.or_eq_true,beq_iff_eq,Option.all_eq_true] at this
  exact ⟨this.1,fun i hi=>this.2 i hi⟩
noncomputable def zse (c: CE) (x: Str) (p: Pos): Option {y: PE // SE c (.Name x p) y}:=
  if hd: (x == ("__debug__" : Str))=false then
    match hi: idx c.σ x with
    | some i=>if hcd: (x == ("__classdict__" : Str))=false then if hk: visK c.base i (c.sc.names.lookup x)=true then some ⟨.var i,z3j hd hcd hi hk⟩ else none else none
    | none=>if hk: c.sc.names.lookup x=some .globalImplicit then some ⟨.glob x,z0u hd hk⟩ else none
  else none
structure OwnN (c: CE) (x: Str) (j: Nat): Prop where
  d: (x == ("__debug__" : Str))=false
  cd: (x == ("__classdict__" : Str))=false
  i: idx c.σ x=some j
  k: visK c.base j (c.sc.names.lookup x)=true
noncomputable def ownC (c: CE) (x: Str): Option {j: Nat // OwnN c x j}:=
  if c.own.contains x then
    if hd: (x == ("__debug__" : Str))=false then if hcd: (x == ("__classdict__" : Str))=false then
      match hi: idx c.σ x with
      | some i=>if hk: visK c.base i (c.sc.names.lookup x)=true then some ⟨i,⟨hd,hcd,hi,hk⟩⟩ else none
      | none=>none
    else none else none
  else none
structure R (c: CE) (e: Expr) where
  v: Option {x: PE // SE c e x}
  i: (single: Bool) -> Option {x: PI // SI c e x single}
noncomputable def mkR {c: CE} {e: Expr} (v: Option {x: PE // SE c e x}): R c e where
  v:=v
  i:=fun single=>match single with
    | true=>if h: zh1 e=true then v.map fun x=>⟨.plain x.1,zm0 x.2 h⟩ else none
    | false=>none
noncomputable def noR {c: CE} {e: Expr}: R c e:=⟨none,fun _=>none⟩
theorem zxr {xs: List PE} {G: GT} {ρ: Rho} {p: PV} (h: zag G (.tuple xs) ρ=some p): ∃ l,p = .tuple l:=by
  simp only [eE] at h
  obtain ⟨l,_,rfl⟩:=zaj h
  exact ⟨l,rfl⟩
theorem zxs {c: CE} {pos: Pos} {ks: List (Option Expr)} {vs: List Expr} {es: List Expr} {xs ys: List PE} (e: ks=es.map some) (hk: SEs c es xs) (hv: SEs c vs ys) (h: es.length=vs.length/\es ≠ []/\es.length<=15): SE c (.Dict ks vs pos) (.dict xs ys):=by
  subst e; exact z0z hk hv h.1 h.2.1 h.2.2
theorem zxt {e: Expr} {es: List (Option Expr)} {l: List Expr} (h: es=l.map some): some e :: es=(e :: l).map some:=by rw [h]; rfl
theorem zxu {c: CE} {o: Expr} {x: PE} {m y z: Str} {p₁ p₂ p₃ pos: Pos} {k₁ k₂: Nat} (ho: SE c o x) (h: m=Str.ofString "replace" /\ zep o=true/\(p₁.endLine == pos.line)=true) :
    SE c (.Call (.Attribute o m p₁) [.Constant (.str y) k₁ p₂,.Constant (.str z) k₂ p₃] [] pos) (.repl x y z):=by
  obtain ⟨rfl,h1,h2⟩:=h
  exact z0y ho h1 h2
theorem zxv {c: CE} {e: Expr} {x: PE} {f: Str} {p₁ pos: Pos} (h: SE c e x) (hk: f=Str.ofString "enumerate" /\ c.sc.names.lookup (Str.ofString "enumerate")=some .globalImplicit): SI c (.Call (.Name f p₁) [e] [] pos) (.enum x) false:=by
  obtain ⟨rfl,h2⟩:=hk; exact z01 h h2
theorem z08 {c: CE} {e: Expr} {x: PE} {f: Str} {p₁ pos: Pos} (h: SE c e x) (hk: f=Str.ofString "reversed" /\ c.sc.names.lookup (Str.ofString "reversed")=some .globalImplicit): SI c (.Call (.Name f p₁) [e] [] pos) (.revd x) true:=by
  obtain ⟨rfl,h2⟩:=hk; exact z31 h h2
mutual
noncomputable def zbs: (e: Expr) -> (c: CE) -> R c e
  | .Constant .none _ _,_=>mkR (some ⟨.none,z0s⟩)
  | .Constant (.bool b) _ _,_=>mkR (some ⟨.bool b,z0t⟩)
  | .Constant (.int i) _ _,_=>mkR (some ⟨.int i,z3h⟩)
  | .Constant (.str s) _ _,_=>mkR (if h: zak s.length=true then some ⟨.str s,z3i h⟩ else none)
  | .Name x p,c=>mkR (zse c x p)
  | .BoolOp .And es _,c=>mkR ((zd1 es c).map fun a=>⟨.and a.1,z3q a.2⟩)
  | .BoolOp .Or es _,c=>mkR ((zd1 es c).map fun a=>⟨.or a.1,z5l a.2⟩)
  | .BinOp a op b _,c=>mkR ((zbs a c).v.bind fun x=>(zbs b c).v.map fun y=>⟨.bin op x.1 y.1,z3k x.2 y.2⟩)
  | .UnaryOp .USub a _,c=>mkR ((zbs a c).v.map fun x=>⟨.neg x.1,z3l x.2⟩)
  | .UnaryOp .Invert a _,c=>mkR ((zbs a c).v.map fun x=>⟨.inv x.1,z3m x.2⟩)
  | .UnaryOp .Not a _,c=>mkR ((zbs a c).v.map fun x=>⟨.not x.1,z3n x.2⟩)
  | .IfExp t a b _,c=>mkR ((zbs t c).v.bind fun x=>(zbs a c).v.bind fun y=>(zbs b c).v.map fun z=>⟨.ifx x.1 y.1 z.1,z3o x.2 y.2 z.2⟩)
  | .Dict [] [] _,_=>mkR (some ⟨.dict [] [],zxf⟩)
  | .Dict ks vs _,c=>mkR ((zus ks c).bind fun x=>(zd1 vs c).bind fun y=>
      if h: x.1.1.length=vs.length/\x.1.1 ≠ []/\x.1.1.length<=15 then some ⟨.dict x.1.2 y.1,zxs x.2.1 x.2.2 y.2 h⟩ else none)
  | .List es _,c=>mkR ((zd1 es c).bind fun a=>if h: zak es.length=true then some ⟨.list a.1,zt3 a.2 h⟩ else none)
  | .Tuple es _ _,c=>
    let a:=zd1 es c
    if h: zak es.length=true then
      ⟨a.map fun a=>⟨.tuple a.1,zmy a.2 h⟩,fun single=>match single with
        | true=>a.map fun a=>⟨.plain (.tuple a.1),zm0 (zmy a.2 h) rfl⟩
        | false=>a.map fun a=>⟨.plain (.tuple a.1),zt6 (zmy a.2 h) rfl fun _ _ _ h=>zxr h⟩⟩
    else noR
  | .ListComp elt (⟨t,iter,ifs,0⟩ :: gs) scope _,c=>mkR (if so: zxq c scope=true then
      match gokC (zda c scope) t with
      | none=>none
      | some g=>((zbs iter c).i g.1.2.2).bind fun it=>(zd1 ifs { zda c scope with σ:=g.1.1.reverse ++ c.σ }).bind fun fs=>
          (zut gs { zda c scope with σ:=g.1.1.reverse ++ c.σ }).bind fun ps=>(zbs elt ps.1.2).v.map fun x=>
            ⟨.comp x.1 (.mk g.1.2.1 g.1.2.2 it.1 fs.1 :: ps.1.1),zub it.2 (zur so) g.2 fs.2 ps.2 x.2⟩
    else none)
  | .Compare a [.NotIn] [.Name x p] _,c=>mkR (match ownC c x with
      | some o=>(zbs a c).v.map fun y=>⟨.notinOwn y.1 o.1,zpw y.2 o.2.i o.2.k o.2.d o.2.cd rfl⟩
      | none=>(zbs a c).v.bind fun y=>(zse c x p).map fun z=>⟨.cmp .NotIn y.1 z.1,zzu y.2 z.2 rfl⟩)
  | .Compare a [op] [b] _,c=>mkR ((zbs a c).v.bind fun x=>(zbs b c).v.bind fun y=>if h: behindInMarks op b=false then some ⟨.cmp op x.1 y.1,zzu x.2 y.2 h⟩ else none)
  | .Call (.Attribute o m p₁) [.Constant (.str y) _ _,.Constant (.str z) _ _] [] pos,c=>mkR (
      if h: m=Str.ofString "replace" /\ zep o=true/\(p₁.endLine == pos.line)=true then (zbs o c).v.map fun x=>⟨.repl x.1 y z,zxu x.2 h⟩ else none)
  | .Call (.Attribute o m p₁) args [] pos,c=>mkR (
      if h: zep o=true/\decide (args.length < 30)=true/\(p₁.endLine == pos.line)=true then (zbs o c).v.bind fun x=>(zd1 args c).map fun xs=>⟨.meth x.1 m xs.1,z0x x.2 xs.2 h.1 h.2.1 h.2.2⟩ else none)
  | .Call (.Name f p₁) [y] [] _,c=>
    let a:=(zbs y c).v
    ⟨(zse c f p₁).bind fun g=>a.map fun x=>⟨.call g.1 [x.1],zpm g.2 (.cons x.2 .nil)⟩,fun single=>match single with
      | true=>if h: f=Str.ofString "reversed" /\ c.sc.names.lookup (Str.ofString "reversed")=some .globalImplicit then a.map fun x=>⟨.revd x.1,z08 x.2 h⟩
        else (zse c f p₁).bind fun g=>a.map fun x=>⟨.plain (.call g.1 [x.1]),zm0 (zpm g.2 (.cons x.2 .nil)) rfl⟩
      | false=>if h: f=Str.ofString "enumerate" /\ c.sc.names.lookup (Str.ofString "enumerate")=some .globalImplicit then a.map fun x=>⟨.enum x.1,zxv x.2 h⟩ else none⟩
  | .Call (.Name f p₁) args [] _,c=>mkR ((zse c f p₁).bind fun g=>(zd1 args c).map fun xs=>⟨.call g.1 xs.1,zpm g.2 xs.2⟩)
  | .Subscript a (.Slice none none (some (.UnaryOp .USub (.Constant (.int 1) _ _) _)) _) _,c=>mkR ((zbs a c).v.map fun x=>⟨.rev x.1,z3r x.2⟩)
  | .Subscript a (.Slice lo hi none _) _,c=>mkR ((zbs a c).v.bind fun x=>(z33 lo c).bind fun l=>(z33 hi c).map fun h=>⟨.slice x.1 l.1 h.1,zxd x.2 l.2 h.2⟩)
  | .Subscript (.Name x p) i _,c=>mkR (match ownC c x with
      | some o=>(zbs i c).v.map fun y=>⟨.subOwn o.1 y.1,zt4 o.2.d o.2.cd o.2.i o.2.k y.2⟩
      | none=>(zse c x p).bind fun z=>(zbs i c).v.map fun y=>⟨.sub z.1 y.1,zzv z.2 y.2⟩)
  | .Subscript a i _,c=>mkR ((zbs a c).v.bind fun x=>(zbs i c).v.map fun y=>⟨.sub x.1 y.1,zzv x.2 y.2⟩)
  | _,_=>noR
noncomputable def z33: (o: Option Expr) -> (c: CE) -> Option {x: Option PE // zq4 c o x}
  | none,_=>some ⟨none,trivial⟩
  | some e,c=>(zbs e c).v.map fun x=>⟨some x.1,x.2⟩
noncomputable def zd1: (es: List Expr) -> (c: CE) -> Option {xs: List PE // SEs c es xs}
  | [],_=>some ⟨[],.nil⟩
  | e :: es,c=>(zbs e c).v.bind fun x=>(zd1 es c).map fun xs=>⟨x.1 :: xs.1,.cons x.2 xs.2⟩
noncomputable def zus: (ks: List (Option Expr)) -> (c: CE) -> Option {p: List Expr × List PE // ks=p.1.map some/\SEs c p.1 p.2}
  | [],_=>some ⟨([],[]),rfl,.nil⟩
  | some e :: es,c=>(zbs e c).v.bind fun x=>(zus es c).map fun xs=>⟨(e :: xs.1.1,x.1 :: xs.1.2),zxt xs.2.1,.cons x.2 xs.2.2⟩
  | none :: _,_=>none
noncomputable def zut: (gs: List Comprehension) -> (c: CE) -> Option {p: List PG × CE // SGs c gs p.1 p.2}
  | [],c=>some ⟨([],c),.nil⟩
  | ⟨t,iter,ifs,0⟩ :: gs,c=>match gokC c t with
      | none=>none
      | some g=>((zbs iter c).i g.1.2.2).bind fun it=>(zd1 ifs { c with σ:=g.1.1.reverse ++ c.σ }).bind fun fs=>
          (zut gs { c with σ:=g.1.1.reverse ++ c.σ }).map fun ps=>⟨(.mk g.1.2.1 g.1.2.2 it.1 fs.1 :: ps.1.1,ps.1.2),.cons it.2 g.2 fs.2 ps.2⟩
  | _,_=>none
end
end Mine
namespace Mine
open PySem PySem.Calls PyProof.Rows
set_option backward.match.sparseCases false
section
variable {c: CE} {pos: Pos}
theorem zxw {ks: List (Option Expr)} {vs es: List Expr} {xs ys: List PE} (eks: ks=es.map some) (hk: SEs c es xs) (hv: SEs c vs ys) (hl: es.length=vs.length/\es ≠ []/\es.length<=15): SEF c (.Dict ks vs pos) (.dict xs ys):=fun C G K ok env W O s ρ A p ev at' rm h Q E q=>by
  subst eks
  simp only [eE] at h
  obtain ⟨kp,h1,h⟩:=bind_some h
  obtain ⟨vp,h2,h⟩:=bind_some h
  obtain ⟨kst,h3,h⟩:=bind_some h
  split at h
  · replace h:=oj h; subst h
    have hne: zc8 env pos es vs ≠ []:=fun h=>hl.2.1 (List.length_eq_zero_iff.mp (by rw [<- zb0 (pos:=pos) env hl.1,h]; rfl))
    refine wpAny_Dict_pairs (knd:=strKind C.prog C.w) (zd0 env hl.1) hne (by rw [zb0 env hl.1]; exact hl.2.2) ?_
    have e1: Ext C s { s with heap:=s.heap.push { cls:=.type "dict",data:=.dict #[] } }:=⟨.push _ _,Nat.le_refl _⟩
    have hfr: s.heap.get? s.heap.objs.size=none:=zar
    have ev1: zam C c env (fun b=>W b \/ b=s.heap.objs.size) O (s.heap.push { cls:=.type "dict",data:=.dict #[] }) ρ:=
      ev.grow (fun b o _ eb=>Heap.get?_push_of_some _ eb) (fun b hb=>.inl hb) (fun b hb=>by rcases hb with hb | rfl; exact .inl hb; exact .inr hfr)
    have at1: At C (fun b=>W b \/ b=s.heap.objs.size) { s with heap:=s.heap.push { cls:=.type "dict",data:=.dict #[] } }:=
      ⟨(at'.ext e1).inv,fun b hb=>by rcases hb with hb | rfl; exact (at'.ext e1).wocc b hb; exact ⟨at'.low,_,Heap.get?_push_size _ rfl⟩,at'.tok⟩
    refine zhz ok rm hk hv hl.1 ev1 at1 h1 h3 h2 _ _ fun l s₂ e₂ _ ⟨kvs,hc,hd⟩=>⟨kvs,hc,?_,fun h' hD hs=>?_⟩
    · obtain ⟨o,a1,a2,ho,hr⟩:=Heap.DictOf.new (knd:=strKind C.prog C.w) s.heap
      exact ⟨o,a1,a2,e₂.new _ _ at'.low ho,hr⟩
    · have hm:=ziw (kvs:=[]) (l:=[]) rfl hd
      obtain ⟨x1,x2⟩:=zq6 (k:=s₂.toks + l.length) at' rfl e₂ hD hs hm (Nat.le_add_right _ _)
      refine q _ _ x1 ⟨_,hD,?_⟩ at'.low hfr at'.nw
      refine RepD.stay (fun b o hb hw eb=>⟨?_,hw⟩) _ _ hm
      exact (hs.2 b (fun h=>hw (.inr h))).trans eb
  · exact zae h
theorem zuu {xs: List PE} {G: GT} {ρ: Rho} {p: PV} (h: zag G (.list xs) ρ=some p): ∃ l,p = .list l:=by
  simp only [eE] at h
  obtain ⟨l,_,rfl⟩:=zaj h
  exact ⟨l,rfl⟩
noncomputable def z34 (e: Expr): Prop:=∀ r env,starEach (e :: r) env=(false,eval e env) :: starEach r env
noncomputable def z35: (e: Expr) -> (c: CE) -> Option {x: PE // SEF c e x/\z34 e}
  | .List es _,c=>(zd1 es c).bind fun a=>if h: zak es.length=true then some ⟨.list a.1,zxl a.2 h,fun _ _=>rfl⟩ else none
  | .BinOp (.List es _) .Add b _,c=>(zd1 es c).bind fun a=>(zbs b c).v.bind fun y=>if h: zak es.length=true then some ⟨.bin .Add (.list a.1) y.1,z03 (zt3 a.2 h) y.2 fun _ _ _ h=>zuu h,fun _ _=>rfl⟩ else none
  | .Dict [] [] _,_=>some ⟨.dict [] [],zup,fun _ _=>rfl⟩
  | .Dict ks vs _,c=>(zus ks c).bind fun x=>(zd1 vs c).bind fun y=>
      if h: x.1.1.length=vs.length/\x.1.1 ≠ []/\x.1.1.length<=15 then some ⟨.dict x.1.2 y.1,zxw x.2.1 x.2.2 y.2 h,fun _ _=>rfl⟩ else none
  | _,_=>none
noncomputable def zzw: (es: List Expr) -> (c: CE) -> Option {xs: List PE // SEFs c es xs}
  | [],_=>some ⟨[],.nil⟩
  | e :: es,c=>(z35 e c).bind fun x=>(zzw es c).map fun xs=>⟨x.1 :: xs.1,.cons x.2.1 x.2.2 xs.2⟩
end
noncomputable abbrev Fz:=List (Nat × List Str)
noncomputable def lineOf (s: Stmt): Nat:=s.pos.line
noncomputable def fzsC (c: CE): (xs: List Str) -> Option {l: List PS // Fzs c l}
  | []=>some ⟨[],.nil⟩
  | x :: r=>match hi: idx c.σ x with
    | some i=>if hk: visK c.base i (c.sc.names.lookup x)=true then (fzsC c r).map fun a=>⟨.freeze i :: a.1,.cons hi hk a.2⟩ else none
    | none=>none
structure LocN (c: CE) (x: Str) (j: Nat): Prop where
  i: idx c.σ x=some j
  k: c.sc.names.lookup x=some .local \/ c.sc.names.lookup x=some .cell
noncomputable def locC (c: CE) (x: Str): Option {j: Nat // LocN c x j}:=match hi: idx c.σ x with
  | some i=>if hk: c.sc.names.lookup x=some .local \/ c.sc.names.lookup x=some .cell then some ⟨i,⟨hi,hk⟩⟩ else none
  | none=>none
theorem zpy {ts vs: List Expr} {k k2: Nat} {p p2: Pos} (h: (ts.length == 2 || ts.length == 3)=false) (env: Env): swappedStores [.Tuple ts k p] (.Tuple vs k2 p2) env=pure none:=by
  unfold swappedStores
  simp [h]
theorem z09 {c: CE} {e: Expr} {x: PE} {y m: Str} {i: Nat} {p p₁ pos spos: Pos} (h: SE c e x) (o: OwnN c y i) (hm: m=Str.ofString "append" /\ (p₁.endLine == pos.line)=true) :
    SS c (.Expr (.Call (.Attribute (.Name y p) m p₁) [e] [] pos) spos) [.app i x]:=by obtain ⟨rfl,hl⟩:=hm; exact z3w h o.i o.k o.d o.cd hl
theorem z1a {c: CE} {e: Expr} {x: PE} {y m: Str} {i: Nat} {p p₁ pos spos: Pos} (h: SE c e x) (o: OwnN c y i) (hm: m=Str.ofString "update" /\ (p₁.endLine == pos.line)=true) :
    SS c (.Expr (.Call (.Attribute (.Name y p) m p₁) [e] [] pos) spos) [.upd i x]:=by obtain ⟨rfl,hl⟩:=hm; exact z32 h o.i o.k o.d o.cd hl
theorem z1b {c: CE} {y m: Str} {i: Nat} {p p₁ pos spos: Pos} (o: OwnN c y i) (hm: m=Str.ofString "reverse" /\ (p₁.endLine == pos.line)=true) :
    SS c (.Expr (.Call (.Attribute (.Name y p) m p₁) [] [] pos) spos) [.revI i]:=by obtain ⟨rfl,hl⟩:=hm; exact z3x o.i o.k o.d o.cd hl
noncomputable def z5m (c: CE) (t v: Expr) (pos: Pos): Option {l: List PS // SS c (.Assign [t] v pos) l}:=match t with
  | .Name x p=>(locC c x).bind fun i=>
      if c.own.contains x then (z35 v c).bind fun e=>if hc: zdi v=false then some ⟨[.asgOwn i.1 e.1],zui e.2.1 hc i.2.i i.2.k⟩ else none
      else match v with
        | .ListComp elt (⟨t,iter,ifs,0⟩ :: gs) scope _=>if so: zxq c scope=true then
            match gokC (zda c scope) t with
            | none=>none
            | some g=>((zbs iter c).i g.1.2.2).bind fun it=>(zd1 ifs { zda c scope with σ:=g.1.1.reverse ++ c.σ }).bind fun fs=>
                (zut gs { zda c scope with σ:=g.1.1.reverse ++ c.σ }).bind fun ps=>(zbs elt ps.1.2).v.map fun x=>
                  ⟨[.asg i.1 (.comp x.1 (.mk g.1.2.1 g.1.2.2 it.1 fs.1 :: ps.1.1))],zpt it.2 (zur so) g.2 fs.2 ps.2 x.2 i.2.i i.2.k⟩
            else none
        | v=>(zbs v c).v.bind fun e=>if hc: zdi v=false then some ⟨[.asg i.1 e.1],z3u e.2 hc i.2.i i.2.k⟩ else none
  | .Tuple es k p=>(zuq c es).bind fun xs=>(zi1 c xs.1).bind fun ts=>
      match v with
      | .Tuple vs k2 p2=>
        if xs.1.any c.own.contains then
          (zzw vs c).bind fun ys=>if h: zak vs.length=true/\es.length=vs.length/\(es.length == 2 || es.length == 3)=false then
            some ⟨[.asgTOwn ts.1 (es.map fun _=>true) ys.1],zsd ys.2 xs.2 ts.2 (fun b hb=>by obtain ⟨_,_,h⟩:=List.mem_map.mp hb; exact h.symm) h.1 h.2.1 (zpy h.2.2)⟩ else none
        else (zbs (.Tuple vs k2 p2) c).v.bind fun x=>if h: xs.1.Nodup/\vs.all (constantsAlone 8)=false then some ⟨[.asgT ts.1 x.1],zxo x.2 xs.2 ts.2 h.1 h.2⟩ else none
      | v=>(zbs v c).v.bind fun x=>if h: zdi v=false/\zuj v=false then some ⟨[.asgT ts.1 x.1],z06 x.2 xs.2 ts.2 h.1 h.2⟩ else none
  | _=>none
mutual
noncomputable def z5n: (st: Stmt) -> (c: CE) -> (fz: Fz) -> Option {l: List PS // SS c st l}
  | .Assign [t] v pos,c,fz=>z5m c t v pos
  | .AugAssign (.Name x p) op v pos,c,fz=>(locC c x).bind fun i=>(zbs v c).v.bind fun e=>
      if h: visK c.base i.1 (c.sc.names.lookup x)=true/\(x == ("__classdict__" : Str))=false then some ⟨[.aug i.1 op e.1],z3v e.2 i.2.i i.2.k h.1 h.2⟩ else none
  | .AugAssign (.Subscript (.Name x p) k _) op v pos,c,fz=>(ownC c x).bind fun o=>(zbs k c).v.bind fun y=>(zbs v c).v.bind fun e=>
      if h: isSlice k=false then some ⟨[.augIdx o.1 y.1 op e.1],zuo y.2 e.2 o.2.i o.2.k o.2.d o.2.cd (zln h)⟩ else none
  | .Expr (.Call (.Attribute (.Name y p) m p₁) [e] [] pos) spos,c,fz=>(ownC c y).bind fun o=>(zbs e c).v.bind fun x=>
      if h: m=Str.ofString "append" /\ (p₁.endLine == pos.line)=true then some ⟨[.app o.1 x.1],z09 x.2 o.2 h⟩
      else if h: m=Str.ofString "update" /\ (p₁.endLine == pos.line)=true then some ⟨[.upd o.1 x.1],z1a x.2 o.2 h⟩ else none
  | .Expr (.Call (.Attribute (.Name y p) m p₁) [] [] pos) spos,c,fz=>(ownC c y).bind fun o=>
      if h: m=Str.ofString "reverse" /\ (p₁.endLine == pos.line)=true then some ⟨[.revI o.1],z1b o.2 h⟩ else none
  | .Return (some e) _,c,fz=>(zbs e c).v.map fun x=>⟨[.ret x.1],z3s x.2⟩
  | .If t a b _,c,fz=>(zbs t c).v.bind fun x=>(zjn a c fz).bind fun l=>(zjn b c fz).map fun r=>⟨[.ite x.1 l.1 r.1],z3t x.2 l.2 r.2⟩
  | .For t it body [] _,c,fz=>(tgtC c t).bind fun n=>(zi1 c n.1.1).bind fun ts=>((zbs it c).i n.1.2).bind fun i=>(zjn body c fz).map fun l=>⟨[.forS ts.1 n.1.2 i.1 l.1],z3z i.2 n.2 ts.2 l.2⟩
  | .While t body [] _,c,fz=>(zbs t c).v.bind fun x=>(zjn body c fz).map fun l=>⟨[.whileS x.1 l.1],zxn x.2 l.2⟩
  | .Try body (h₀ :: hs) [] [] _,c,fz=>(zjn body c fz).map fun l=>⟨[.tryS l.1],z30 l.2⟩
  | .Raise a b p,_,_=>some ⟨[.fail],z04⟩
  | _,_,_=>none
noncomputable def zjn: (ss: List Stmt) -> (c: CE) -> (fz: Fz) -> Option {l: List PS // SSs c ss l}
  | [],_,_=>some ⟨[],z02⟩
  | st :: ss,c,fz=>(fzsC c ((fz.lookup (lineOf st)).getD [])).bind fun f=>(z5n st c fz).bind fun a=>(zjn ss c fz).map fun b=>⟨(f.1 ++ a.1) ++ b.1,zxk (zud f.2 a.2) b.2⟩
end
end Mine
namespace Mine
open PySem PySem.Calls PyProof.Rows
theorem zkl {ns: List Str} {vs: List Value} (h: ns.length=vs.length) (n: Str) (hn: n ∈ ns): ((ns.zip vs).lookup n).isSome=true:=by
  obtain ⟨p,hp,e⟩:=List.mem_map.mp (by rw [List.map_fst_zip (Nat.le_of_eq h)]; exact hn: n ∈ (ns.zip vs).map (·.1))
  exact List.lookup_isSome_iff.mpr ⟨p,hp,by rw [e]; exact beq_self_eq_true n⟩
theorem zh7: ∀ {ns: List Str} {vs: List Value} (pre: List (Str × Value)),ns.length=vs.length -> ns.Nodup -> (∀ n ∈ ns,∀ x ∈ pre,x.1 ≠ n) ->
    ns.filterMap (fun n=>((pre ++ ns.zip vs).lookup n).map fun v=>(n,v))=ns.zip vs
  | [],_,_,_,_,_=>rfl
  | m :: ns,[],_,hl,_,_=>by cases hl
  | m :: ns,v :: vs,pre,hl,hn,hp=>by
    have hn':=List.nodup_cons.mp hn
    have h1: ∀ (pre: List (Str × Value)),(∀ x ∈ pre,x.1 ≠ m) -> (pre ++ (m,v) :: ns.zip vs).lookup m=some v:=fun pre=>by
      induction pre with
      | nil=>intro _; simp [List.lookup_cons]
      | cons x r ih=>
        intro h
        obtain ⟨a,b⟩:=x
        have: (m == a)=false:=by simpa using fun e=>h (a,b) List.mem_cons_self e.symm
        rw [List.cons_append,List.lookup_cons,this]
        exact ih fun y hy=>h y (List.mem_cons_of_mem _ hy)
    rw [List.zip_cons_cons,List.filterMap_cons,h1 pre (hp m List.mem_cons_self)]
    simp only [Option.map_some]
    congr 1
    have:=zh7 (ns:=ns) (vs:=vs) (pre ++ [(m,v)]) (by simpa using hl) hn'.2 (fun n hn x hx=>by
      rcases List.mem_append.mp hx with hx | hx
      · exact hp n (List.mem_cons_of_mem _ hn) x hx
      · obtain rfl: x=(m,v):=by simpa using hx
        intro e
        have e': m=n:=e
        subst e'
        exact hn'.1 hn)
    rw [List.append_assoc] at this
    exact this
theorem zfv {fd: FuncData} {as: List Arg} {vals: List Value} (hp: fd.params = ⟨[],as,none,[],[],none,[]⟩) (hd: fd.defaults = .none) (hl: as.length=vals.length) (hn: (as.map (·.arg)).Nodup) :
    bindArgs fd ⟨vals,[]⟩ = pure ((as.map (·.arg)).zip vals):=by
  have hl': (as.map (·.arg)).length=vals.length:=by simpa using hl
  have h1: (((as.map (·.arg)).take ((as.map (·.arg)).length - 0)).filter fun n=>(((as.map (·.arg)).zip vals).lookup n).isNone)=[]:=by
    rw [List.filter_eq_nil_iff]
    intro n hn
    have:=zkl hl' n (List.mem_of_mem_take hn)
    simpa [Option.isNone_iff_eq_none,Option.isSome_iff_ne_none] using this
  have h2:=zh7 [] hl' hn (fun _ _ _ h=>nomatch h)
  simp only [List.nil_append] at h2
  cases fd
  dsimp only at hp hd
  subst hp hd
  refine Eq.trans (if_neg (c:=(decide (vals.length > (as.map (·.arg)).length) && true)=true) ?_) ?_
  · rw [List.length_map,hl,decide_eq_false (Nat.lt_irrefl _)]; exact Bool.false_ne_true
  dsimp only
  generalize hds: (List.drop (((none: Option (Array Value)).getD #[]).toList.length - (List.map (fun x: Arg=>x.arg) [] ++ List.map (fun x=>x.arg) as).length) ((none: Option (Array Value)).getD #[]).toList)=ds
  obtain rfl: ds=[]:=hds.symm.trans List.drop_nil
  refine Eq.trans (if_neg (c:=(!(((as.map (·.arg)).take ((as.map (·.arg)).length - 0)).filter fun n=>(((as.map (·.arg)).zip vals).lookup n).isNone).isEmpty)=true) ?_) ?_
  · rw [h1]; exact Bool.false_ne_true
  rw [List.zip_nil_right]
  show (pure ((as.map (fun x: Arg=>x.arg) ++ []).filterMap (fun n=>(((as.map (fun x: Arg=>x.arg)).zip vals).lookup n).map (n,·))): Sem (List (Str × Value)))=_
  rw [List.append_nil,h2]
theorem zgd {prog: Program} {w: World} {A: Around} {s: Shared} {R: Result -> Shared -> Prop} {a: Addr} {o: Obj} {fd: FuncData} {body: List Stmt} {vals: List Value} {binds: List (Str × Value)}
    (hroom: A.depth < recursionLimit) (ho: s.heap.get? a=some o) (hdata: o.data = .func fd) (hlim: s.heap.NoLimit) (hcd: s.heap.CodeRec fd.code fd.qualname)
    (hbody: fd.body = .stmts body) (hbind: bindArgs fd ⟨vals,[]⟩ = pure binds) (hclo: fd.closure=[])
    (hkind: ∀ x ∈ binds,fd.scope.names.lookup x.1=some .local \/ (fd.scope.names.lookup x.1=some .cell/\((cellsFrom (s.heap.objs.size + 1) fd.scope.names []).lookup x.1).isSome=true))
    (hco: fd.scope.isCoroutine=false) (hgen: fd.scope.isGenerator=false) (hk: fd.scope.kind = .function)
    (h: ∀ s₁,InCallC s (callEnvC fd s.heap.objs.size a).locals (bindL (callEnvC fd s.heap.objs.size a).kindOf binds fun _=>none) (callEnvC fd s.heap.objs.size a).cells
        (bindC (callEnvC fd s.heap.objs.size a).kindOf binds fun _=>none) s₁ -> s.toks<=s₁.toks ->
      wpAny (model prog w) (A.deeper (callEnvC fd s.heap.objs.size a)) (execs body (callEnvC fd s.heap.objs.size a)) (fun f s'=>R (.ok (.ret (match f with | .ret v=>v | _=>.none))) s')
        (fun e s'=>wpAny (model prog w) (A.deeper (callEnvC fd s.heap.objs.size a)) (leaving (callEnvC fd s.heap.objs.size a) e) (fun _ s''=>R (.error e) s'') (fun e' s''=>R (.error e') s'') s') s₁) :
    codeAny (model prog w) A (.call (.ref a) ⟨vals,[]⟩) R s:=by
  refine codeAny_call_function hroom ho hdata hco hgen hbody hcd ?_
  rw [hbind,hclo]
  refine wpAny_pure (wpAny_with_toks (Nat.le_refl s.toks) (wpAny_newFunctionEnv_cells hk hkind fun env he s' x htk=>?_))
  subst he
  exact ⟨hlim.keeps x.toInCall.keep,codeAny_func (h s' x htk)⟩
theorem zcp: ∀ {ts: List Nat} {ps: List PV} {ρ ρ': Rho},zcw ts ps ρ=some ρ' -> ∀ {i: Nat} {s: Slot},ρ'[i]? = some (some s) -> (ρ[i]? = some (some s)/\i ∉ ts) \/ ∃ (j: Nat) (p: PV),ts[j]? = some i/\ps[j]? = some p/\s = .val p
  | [],[],ρ,ρ',h,i,s,e=>by simp only [pE] at h; replace h:=oj h; subst h; exact .inl ⟨e,by simp⟩
  | [],_ :: _,_,_,h,_,_,_=>by simp [pE] at h
  | _ :: _,[],_,_,h,_,_,_=>by simp [pE] at h
  | t :: ts,p :: ps,ρ,ρ',h,i,s,e=>by
    simp only [pE] at h
    rcases zcp h e with ⟨h1,h2⟩ | ⟨j,q,h1,h2,h3⟩
    · rcases zbi h1 with ⟨rfl,rfl⟩ | ⟨hne,h1⟩
      · exact .inr ⟨0,p,rfl,rfl,rfl⟩
      · exact .inl ⟨h1,by simp [hne,h2]⟩
    · exact .inr ⟨j + 1,q,by simpa using h1,by simpa using h2,h3⟩
theorem Places.at {c: CE} {xs: List Str} {ts: List Nat} (hp: Places c xs ts): ∀ {j i: Nat},ts[j]? = some i -> ∃ x,xs[j]? = some x/\idx c.σ x=some i/\(c.sc.names.lookup x=some .local \/ c.sc.names.lookup x=some .cell):=by
  induction hp with
  | nil=>intro j i h; simp at h
  | @cons x i xs is h1 h2 _ ih=>
    intro j i' h
    cases j with
    | zero=>simp at h; subst h; exact ⟨x,rfl,h1,h2⟩
    | succ j=>simpa using ih (by simpa using h)
theorem Places.length {c: CE} {xs: List Str} {ts: List Nat} (hp: Places c xs ts): xs.length=ts.length:=by induction hp <;> simp [*]
theorem zzx (k: Str -> Option NameKind) (n: Str) (v: Value) (r: List (Str × Value)) (m: Str -> Option Value): bindL k ((n,v) :: r) m=bindL k r (if k n=some .local then fun y=>if y=n then some v else m y else m):=rfl
theorem zxx {k: Str -> Option NameKind}: ∀ {xs: List Str} {vs: List Value} {m: Str -> Option Value} {j: Nat} {x: Str} {v: Value},xs.Nodup -> xs[j]? = some x -> vs[j]? = some v -> k x=some .local -> bindL k (xs.zip vs) m x=some v:=by
  have keep: ∀ {xs: List Str} {vs: List Value} {m: Str -> Option Value} {x: Str},x ∉ xs -> bindL k (xs.zip vs) m x=m x:=by
    intro xs
    induction xs with
    | nil=>intro vs m x _; rfl
    | cons y ys ih=>
      intro vs m x hx
      cases vs with
      | nil=>rfl
      | cons u us=>
        rw [List.zip_cons_cons,zzx,ih (fun h=>hx (List.mem_cons_of_mem _ h))]
        by_cases hk: k y=some .local
        · rw [if_pos hk]
          exact if_neg fun h: x=y=>hx (by rw [h]; exact List.mem_cons_self)
        · rw [if_neg hk]
  intro xs
  induction xs with
  | nil=>intro vs m j x v _ h; simp at h
  | cons y ys ih=>
    intro vs m j x v hn hx hv hk
    cases vs with
    | nil=>simp at hv
    | cons u us=>
      rw [List.zip_cons_cons,zzx]
      cases j with
      | zero=>
        simp at hx hv; subst hx hv
        rw [keep (List.nodup_cons.mp hn).1,if_pos hk]; simp
      | succ j=>exact ih (List.nodup_cons.mp hn).2 (by simpa using hx) (by simpa using hv) hk
theorem zxy {k: Str -> Option NameKind}: ∀ {xs: List Str} {vs: List Value} {m: Str -> Option Value} {j: Nat} {x: Str} {v: Value},xs.Nodup -> xs[j]? = some x -> vs[j]? = some v -> k x=some .cell -> bindC k (xs.zip vs) m x=some v:=by
  have keep: ∀ {xs: List Str} {vs: List Value} {m: Str -> Option Value} {x: Str},x ∉ xs -> bindC k (xs.zip vs) m x=m x:=by
    intro xs
    induction xs with
    | nil=>intro vs m x _; rfl
    | cons y ys ih=>
      intro vs m x hx
      cases vs with
      | nil=>rfl
      | cons u us=>
        rw [List.zip_cons_cons,bindC,ih (fun h=>hx (List.mem_cons_of_mem _ h))]
        split
        · rfl
        · show (if x=y then _ else _)=_
          rw [if_neg (fun h: x=y=>hx (by rw [h]; exact List.mem_cons_self))]
  intro xs
  induction xs with
  | nil=>intro vs m j x v _ h; simp at h
  | cons y ys ih=>
    intro vs m j x v hn hx hv hk
    cases vs with
    | nil=>simp at hv
    | cons u us=>
      rw [List.zip_cons_cons,bindC]
      cases j with
      | zero=>
        simp at hx hv; subst hx hv
        rw [keep (List.nodup_cons.mp hn).1,if_neg (by rw [hk]; decide)]; simp
      | succ j=>exact ih (List.nodup_cons.mp hn).2 (by simpa using hx) (by simpa using hv) hk
theorem zdq {names: List (Str × NameKind)} {n: Nat} {acc: List (Str × Addr)} {x: Str} (h: names.lookup x=some .cell/\(names.map (·.1)).Nodup): ((cellsFrom n names acc).lookup x).isSome=true:=by
  obtain ⟨a,ha⟩:=zkj (n:=n) (acc:=acc) (zaq h.1)
  exact zdn ha
structure ze8 (sc: Scope): Prop where
  kind: sc.kind = .function
  nodup: (sc.names.map (·.1)).Nodup
  nofree: ∀ x,sc.names.lookup x ≠ some .free
  nogen: sc.isGenerator=false
  noco: sc.isCoroutine=false
section
variable {C: CX}
noncomputable def allO (env: Env) (b: Addr): Prop:=b=env.locals \/ ∃ x,env.cells.lookup x=some b
noncomputable def entO (c: CE) (env: Env) (b: Addr): Prop:=b=env.locals \/ ∃ x,c.sc.names.lookup x ≠ none/\env.cells.lookup x=some b
theorem entO.all {c: CE} {env: Env} {b: Addr} (h: entO c env b): allO env b:=h.imp_right fun ⟨x,h⟩=>⟨x,h.2⟩
theorem zh8 {c: CE} {fd: FuncData} {a: Addr} {s s₁: Shared} {W: Addr -> Prop} {xs: List Str} {ts: List Nat} {vs: List Value} {args: List PV} {ρ₀ ρ: Rho} (hsc: ∀ x,c.sc.names.lookup x=fd.scope.names.lookup x \/ c.sc.names.lookup x=none) (hb: c.base=0) (fs: ze8 fd.scope) (hgl: fd.globals=mainGlobals) (hbu: fd.builtins=builtinsNs)
    (hp: Places c xs ts) (hn: xs.Nodup) (hr: RepL C s.heap W args vs) (at': At C W s) (h0: ∀ i: Nat,ρ₀[i]? ≠ some none -> ρ₀[i]? = none) (htk: s.toks<=s₁.toks) (hbind: zcw ts args ρ₀=some ρ)
    (ic: InCallC s (callEnvC fd s.heap.objs.size a).locals (bindL (callEnvC fd s.heap.objs.size a).kindOf (xs.zip vs) fun _=>none) (callEnvC fd s.heap.objs.size a).cells (bindC (callEnvC fd s.heap.objs.size a).kindOf (xs.zip vs) fun _=>none) s₁) :
    Ext C s s₁/\(∀ b,allO (callEnvC fd s.heap.objs.size a) b -> s.heap.get? b=none)/\zam C c (callEnvC fd s.heap.objs.size a) (fun b=>W b \/ allO (callEnvC fd s.heap.objs.size a) b) (entO c (callEnvC fd s.heap.objs.size a)) s₁.heap ρ/\At C (fun b=>W b \/ allO (callEnvC fd s.heap.objs.size a) b) s₁:=by
  have hkind': ∀ x,c.sc.names.lookup x ≠ none -> (callEnvC fd s.heap.objs.size a).kindOf x=c.sc.names.lookup x:=fun x hx=>by
    rcases hsc x with h | h
    · rw [h]; rfl
    · exact absurd h hx
  have hkinds: ∀ x,(callEnvC fd s.heap.objs.size a).kindOf x=c.sc.names.lookup x \/ c.sc.names.lookup x=none:=fun x=>(hsc x).imp_left fun h=>h.symm
  have hkind: ∀ {x k},c.sc.names.lookup x=some k -> (callEnvC fd s.heap.objs.size a).kindOf x=some k:=fun {x k} h=>(hkind' x (by rw [h]; simp)).trans h
  clear hkind'
  generalize henv: callEnvC fd s.heap.objs.size a=env at ic hkind hkinds ⊢
  have hloc: env.locals=s.heap.objs.size:=by rw [<- henv]; rfl
  obtain ⟨h',tk,es,keep⟩:=ic.done
  have hlow:=at'.low
  have hfresh: ∀ b,s.heap.objs.size<=b -> s.heap.get? b=none:=fun b hb=>by
    cases hq: s.heap.get? b with
    | none=>rfl
    | some o=>exact absurd (Heap.lt_size hq) (Nat.not_lt.mpr hb)
  have keep₁: ∀ b o,s.heap.get? b=some o -> s₁.heap.get? b=some o:=ic.toInCall.keep
  have habove: ∀ x b,env.cells.lookup x=some b -> s.heap.objs.size < b:=fun x b h=>hloc ▸ ic.above x b (mem_of_lookup h)
  have ext: Ext C s s₁:=by
    subst es
    exact ⟨.grow keep,htk⟩
  have hOf: ∀ b,allO env b -> s.heap.objs.size<=b:=fun b hb=>by
    rcases hb with rfl | ⟨x,hx⟩
    · exact Nat.le_of_eq hloc.symm
    · exact Nat.le_of_lt (habove x b hx)
  obtain ⟨om,hom⟩: ∃ o,s₁.heap.get? env.locals=some o:=by obtain ⟨o,_,_,e,_⟩:=ic.toInCall.ns; exact ⟨o,e⟩
  refine ⟨ext,fun b hb=>hfresh b (hOf b hb),?_,⟨ext.inv at'.inv,fun b hb=>?_,Nat.lt_of_lt_of_le at'.tok htk⟩⟩
  · exact {
      glob:=by rw [<- henv]; exact hgl
      bui:=by rw [<- henv]; exact hbu
      kind:=by rw [<- henv]; exact fs.kind
      ow:=fun b hb=>.inr hb.all
      lo:=fun b hb=>Nat.le_trans hlow (hOf b hb.all)
      loc:=.inl rfl
      ns:=⟨_,ic.toInCall.ns⟩
      names:=fun x=>by
        rcases hkinds x with h | h
        · exact .inl h
        · exact .inr (.inr h)
      cells:=fun x hx=>by
        rcases hx with hx | hx
        · have h1: (env.cells.lookup x).isSome=true:=by
            rw [<- henv]
            exact zdq (⟨(by rcases hsc x with h | h; exact h.symm.trans hx; rw [h] at hx; exact zae hx),fs.nodup⟩)
          obtain ⟨b,hb⟩:=Option.isSome_iff_exists.mp h1
          exact ⟨b,_,hb,.inr ⟨x,by rw [hx]; simp,hb⟩,ic.cell x b hb⟩
        · rcases hsc x with h | h
          · rw [h] at hx; exact absurd hx (fs.nofree x)
          · rw [h] at hx; exact zae hx
      cinj:=fun x y b h1 h2=>name_of_addr ic.apart (mem_of_lookup h1) (mem_of_lookup h2)
      top:=fun i sl h=>by
        rcases zcp hbind h with ⟨h1,_⟩ | ⟨j,p,h1,_,_⟩
        · have:=h0 i (by rw [h1]; simp); rw [h1] at this; cases this
        · obtain ⟨x,_,hx,_⟩:=hp.at h1
          exact zfr hx
      vars:=fun x i sl h1 _ h3=>by
        rcases zcp hbind h3 with ⟨h1,_⟩ | ⟨j,p,g1,g2,rfl⟩
        · have:=h0 i (by rw [h1]; simp); rw [h1] at this; cases this
        · obtain ⟨y,hy,hyi,hyk⟩:=hp.at g1
          obtain rfl:=zcq hyi h1
          obtain ⟨v,hv,rv⟩:=hr.get j g2
          refine ⟨v,?_,.val (Rep.stay (Stay.grow (fun b o _ e=>keep₁ b o e) fun b hb=>?_) _ _ rv)⟩
          · rcases hyk with hk | hk
            · exact .loc (hkind hk) ic.toInCall.ns (zxx hn hy hv (hkind hk))
            · have h1: (env.cells.lookup y).isSome=true:=by
                rw [<- henv]
                exact zdq (⟨(by rcases hsc y with h | h; exact h.symm.trans hk; rw [h] at hk; exact zae hk),fs.nodup⟩)
              obtain ⟨b,hb⟩:=Option.isSome_iff_exists.mp h1
              have:=ic.cell y b hb
              rw [zxy hn hy hv (hkind hk)] at this
              exact .cell (.inl (hkind hk)) hb (Nat.le_trans hlow (Nat.le_of_lt (habove y b hb))) this
          · rcases hb with hb | hb
            · exact .inl hb
            · exact .inr (hfresh b (hOf b hb))
      apart:=fun x y i j sl tl v _ _ _ _ h5 _ h7 _ _ _=>by
        rcases zcp hbind h5 with ⟨h1,_⟩ | ⟨_,p,_,_,rfl⟩
        · have:=h0 i (by rw [h1]; simp); rw [h1] at this; cases this
        · cases h7 }
  · rcases hb with hb | hb
    · exact (at'.ext ext).wocc b hb
    · refine ⟨Nat.le_trans hlow (hOf b hb),?_⟩
      rcases hb with rfl | ⟨x,hx⟩
      · exact ⟨om,hom⟩
      · obtain ⟨o,e,_⟩:=ic.cell x b hx
        exact ⟨o,e⟩
end
noncomputable def z36: Option Out -> Option PV
  | some (.ret v)=>some v
  | _=>none
theorem zuv {o: Option Out} {v: PV} (h: z36 o=some v): o=some (.ret v):=by
  cases o with
  | none=>exact zae h
  | some x=>cases x with
    | next=>exact zae h
    | ret u=>exact congrArg (fun z=>some (Out.ret z)) (Option.some.inj h)
noncomputable def zei (G: GT) (ts: List Nat) (ss: List PS) (n: Nat) (args: List PV): Option PV:=
  (zcw ts args (List.replicate n none)).bind fun ρ=>z36 (zap G ss ρ)
theorem zi2: ∀ {ts: List Nat} {ps: List PV} {ρ ρ': Rho},zcw ts ps ρ=some ρ' -> ts.length=ps.length
  | [],[],_,_,_=>rfl
  | [],_ :: _,_,_,h=>by simp [pE] at h
  | _ :: _,[],_,_,h=>by simp [pE] at h
  | _ :: ts,_ :: ps,_,_,h=>by simp only [pE] at h; simp [zi2 h]
theorem zgv {names: List (Str × NameKind)} {n: Nat} {x: Str} {b: Addr} (h: (cellsFrom n names []).lookup x=some b): (names.lookup x).isSome=true:=zdn (zfj names n h)
theorem z1c {C: CX} {G: GT} {K: Nat} (ok: FnOk C G K) {d: DefRec} {c: CE} {ts: List Nat} {ss: List PS} {n: Nat} {as: List Arg} {a: Addr} {o: Obj} {pm code doc: Value}
    (hsc: c.sc=d.scope) (hb: c.base=0) (fs: ze8 d.scope) (hpar: d.params = ⟨[],as,none,[],[],none,[]⟩) (hn: (as.map (·.arg)).Nodup) (hp: Places c (as.map (·.arg)) ts) (hss: SSs c d.body ss)
    (ho: ∀ h,C.Inv h -> h.get? a=some o) (hd: o.data = .func (d.data pm code doc)) (hcode: ∀ h,C.Inv h -> h.CodeRec code d.name)
    {args: List PV} {p: PV} (h: zei G ts ss n args=some p) {A: Around} {W: Addr -> Prop} {s: Shared} {vs: List Value} (rm: Room A (K + 1)) (at': At C W s) (hr: RepL C s.heap W args vs): Snd C A s W (call (.ref a) vs) p:=fun Q E q=>by
  unfold zei at h
  obtain ⟨ρ,h1,h2⟩:=bind_some h
  have hl: as.length=vs.length:=by
    rw [hr.length,<- zi2 h1,<- hp.length]; simp
  obtain ⟨r1,r2,r3⟩:=rm
  refine wpAny_call (zgd (fd:=d.data pm code doc) (by lia) (ho _ at'.inv) hd (C.nolimit at'.inv) (hcode _ at'.inv) rfl (zfv (fd:=d.data pm code doc) hpar rfl hl hn) rfl (fun x hx=>?_) fs.noco fs.nogen fs.kind fun s₁ ic htk=>?_)
  · obtain ⟨j,hj⟩:=List.mem_iff_getElem?.mp (List.of_mem_zip (a:=x.1) (b:=x.2) hx).1
    have: j < ts.length:=by
      have:=List.getElem?_eq_some_iff.mp hj
      obtain ⟨h,_⟩:=this
      rw [<- hp.length]; exact h
    obtain ⟨y,g1,g2,g3⟩:=hp.at (List.getElem?_eq_getElem this)
    rw [hj] at g1; replace g1:=oj g1; subst g1
    rw [hsc] at g3
    rcases g3 with g3 | g3
    · exact .inl g3
    · exact .inr ⟨g3,zdq (⟨g3,fs.nodup⟩)⟩
  · obtain ⟨ext,hf,ev,a₁⟩:=zh8 (c:=c) (fd:=d.data pm code doc) (a:=a) (fun x=>.inl (by rw [hsc]; rfl)) hb fs rfl rfl hp hn hr at' (fun i h=>by
      rw [List.getElem?_replicate] at h ⊢
      split at h
      · exact absurd rfl h
      · rename_i q; rw [if_neg q]) htk h1 ic
    have hv:=zuv h2
    clear h2
    have eO: ∀ b,allO (callEnvC (d.data pm code doc) s.heap.objs.size a) b -> entO c (callEnvC (d.data pm code doc) s.heap.objs.size a) b:=fun b hb=>hb.imp_right fun ⟨x,h⟩=>⟨x,(fun h1=>by
      have h2: (d.scope.names.lookup x)=none:=by rw [<- hsc]; exact h1
      have h3: (d.scope.names.lookup x).isSome=true:=zgv h
      rw [h2] at h3; exact ft h3),h⟩
    have fr: Fr' C s W (fun _=>False) (fun b=>W b \/ allO (callEnvC (d.data pm code doc) s.heap.objs.size a) b) (entO c (callEnvC (d.data pm code doc) s.heap.objs.size a)) s₁:=
      ⟨ext.toO,fun b hb=>hb.imp_right (eO b),fun b hb=>.inl hb,fun b hb=>.inr (hf b hb.all),fun b hb ho=>by
        obtain ⟨_,o,e⟩:=at'.wocc b hb
        rw [hf b ho.all] at e; exact zae e⟩
    refine hss C G K ok _ _ s W (fun _=>False) ?_ _ _ s₁ ρ _ fr ev a₁ hv _ _ fun val s' x r=>?_
    · exact ⟨r1,by show A.depth + 1 + 2 * K + 110 < recursionLimit; lia,by show A.units + 3 + 16 * K + 200 < cLine; lia⟩
    · exact q val s' ⟨⟨fun b o lo e=>x.new b o lo (fun h=>h) e,x.inv,x.gens,x.drawn,x.os⟩,x.toks⟩ r
end Mine
namespace Mine
open PySem PySem.W PySem.Calls PyProof.Rows
set_option backward.match.sparseCases false
theorem zoi {den: Code -> Sem Fin} {prog: Program} {w: World}: ∀ {n: Nat} {s: Shared} {t: Thread} {f: Flow} {s': Shared},runN den prog w n s t = .halted (.done f) s' ->
    ∃ m t',runN den prog w m s t = .running s' t'/\step den prog w s' t' = .halt (.done f) s'
  | 0,s,t,f,s',h=>nomatch h
  | n + 1,s,t,f,s',h=>by
    rw [runN] at h
    cases hs: step den prog w s t with
    | go s₁ t₁=>
      rw [hs] at h
      obtain ⟨m,t',h1,h2⟩:=zoi h
      exact ⟨m + 1,t',by rw [runN,hs]; exact h1,h2⟩
    | halt o s₁=>
      rw [hs] at h
      injection h with h1 h2
      subst h1 h2
      have e:=step_halt_same den prog w s s₁ t _ hs
      subst e
      exact ⟨0,t,rfl,hs⟩
noncomputable def zra: Step -> Bool
  | .halt (.done _) _=>true
  | _=>false
theorem zrb {o: Outcome} {s: Shared} (h: zra (finish o s)=true): zra (.halt o s)=true:=by
  unfold finish at h
  generalize leftWithCleanup s.gens=x at h
  cases x
  · exact h
  · exact absurd h Bool.false_ne_true
theorem zkm {den: Code -> Sem Fin} {prog: Program} {w: World}: ∀ {s: Shared} {t: Thread},zra (step den prog w s t)=true -> through t=true
  | s,⟨cur,code,pos,stack⟩,h=>by
    have no: ∀ {b: Bool},b=true -> b=false -> through ⟨cur,code,pos,stack⟩ = true:=fun {b} h h'=>absurd (h'.symm.trans h) Bool.false_ne_true
    cases cur with
    | pure q=>cases q with
      | again c=>exact no h rfl
      | done g=>cases stack with
        | nil=>rfl
        | cons F r=>cases F <;> exact no h rfl
    | raise e=>cases stack with
      | nil=>exact no (zrb h) rfl
      | cons F r=>cases F <;> exact no h rfl
    | finish e=>exact no (zrb (o:=.ended e) h) rfl
    | load a _ k=>delta step at h; dsimp only at h; generalize s.heap.get? a=x at h; cases x <;> exact no h rfl
    | update a _ g k=>delta step at h; dsimp only at h; generalize (s.heap.get? a).isSome=x at h; cases x <;> exact no h rfl
    | choose src n k=>cases n <;> exact no h rfl
    | genState g k=>delta step at h; dsimp only at h; generalize s.gens[g]? = x at h; cases x <;> exact no h rfl
    | resume g r l k=>
      delta step at h; dsimp only at h; generalize s.gens[g]? = x at h
      cases x with
      | none=>exact no h rfl
      | some y=>cases y with
        | fresh c=>cases r with
          | send v=>cases v <;> exact no h rfl
          | throw e=>exact no h rfl
        | _=>exact no h rfl
    | yield v g0 l kk=>delta step at h; dsimp only at h; generalize splitAtGen stack=x at h; cases x <;> exact no h rfl
    | _=>exact no h rfl
theorem zkn {den: Code -> Sem Fin} {prog: Program} {w: World} {s s': Shared} {t: Thread} {f: Flow} (h: step den prog w s t = .halt (.done f) s'): through t=true:=
  zkm ((congrArg zra h).trans rfl)
theorem zlp {prog: Program} {w: World} {t: Sem Fin} {s: Shared} {R: Shared -> Prop} (hreg: s.asleep)
    (h: wpAny (model prog w) callerA t (fun fin s'=>∃ f,fin = .done f/\R s'/\s'.gens = #[]) (fun _ _=>False) s) :
    ∃ n s' t',schedN (denote table) prog w n (.single s ⟨t,.builtin "claim.caller" {},default,[]⟩) = .running (.single s' t')/\through t'=true/\s'.heap.life=s.heap.life/\R s'/\s'.gens = #[]:=by
  obtain ⟨n,r,s₁,hn,hR⟩:=(wp_iff_halts (M:=model prog w) (c:=.builtin "claim.caller" {}) t (fun r s'=>(∃ f,r = .ok f)/\R s'/\s'.gens = #[]) default s).mp
    (wp_of_wpAny_done (R:=fun r s'=>((∃ f,r = .ok f)/\R s'/\s'.gens = #[])/\leftWithCleanup s'.gens=false) caller_in (wpAny_mono h (by
      rintro fin s' ⟨f,e,h1,h2⟩
      exact ⟨f,e,⟨⟨f,rfl⟩,h1,h2⟩,by rw [h2]; decide +kernel⟩) fun _ _ x=>x.elim) default)
  obtain ⟨⟨f,rfl⟩,hR,hg⟩:=hR
  obtain ⟨s₂,hr,hf,hc⟩:=runNI_real (model prog w).den prog w hn (outcomeOf_ends _)
  obtain rfl:=Shared.eq_of_forget_eq hf hg
  obtain ⟨m,t',h1,h2⟩:=zoi hr
  have hne: ∀ k s₂',runN (model prog w).den prog w k s ⟨t,.builtin "claim.caller" {},default,[]⟩ ≠ .halted (.unsupported "lifetime:generator-with-cleanup-left-suspended") s₂':=by
    intro k s₂' hk
    have a:=runN_mono (model prog w).den prog w n k s _ _ s₂ hr
    have b:=runN_mono (model prog w).den prog w k n s _ _ s₂' hk
    rw [Nat.add_comm,b] at a
    injection a with a1 _
    cases a1
  exact ⟨m,s₂,t',(schedN_eq_runN (model prog w).den prog w s _ hreg ⟨hc,hne⟩ m).trans (congrArg Run.lift h1),zkn h2,runN_life_running h1,hR,hg⟩
end Mine
namespace Mine
open PySem PySem.W PySem.Calls PyProof.Rows
section
variable {prog: Program} {w: World} {K: Type} [DecidableEq K] {knd: KeyKind prog w K} {A: Around} {E: Value -> Shared -> Prop} {s: Shared}
theorem zuw {es: List DictEntry} {kvs: List (K × Value)} (h: Pairs knd es kvs): ∀ {i: Nat} {e: DictEntry} {kv: K × Value},es[i]? = some e -> kvs[i]? = some kv -> knd.is kv.1 e.key=true/\e.val=kv.2:=by
  induction h with
  | nil=>intro i e kv h _; simp at h
  | cons h1 h2 _ ih=>
    intro i e kv a b
    cases i with
    | zero=>simp at a b; subst a b; exact ⟨h1,h2⟩
    | succ i=>simp at a b; exact ih a b
theorem zxz {d: Addr} {kvs: List (K × Value)} {k: K} {key v: Value} {Q: Unit -> Shared -> Prop} (hkey: knd.is k key=true) (hm: s.heap.DictOf knd d kvs)
    (hQ: ∀ h',h'.DictOf knd d (stored kvs k v) -> Heap.SameBut d s.heap h' -> Q () { s with heap:=h' })
    (hsz: kvs.length<=sizeLine): wpAny (model prog w) A (dictPut d (knd.hash k) key v) Q E s:=by
  obtain ⟨o,es,ep,ho,hc,hd,hk,hp,hn⟩:=hm
  have hes: es.size<=sizeLine:=by
    have e1:=hp.length
    have e2: es.toList.length=es.size:=by simp
    lia
  unfold dictPut
  refine wpAny_bind (wpAny_dictFind_of hkey ho hd hk ?_)
  have hidx: (es.findIdx? fun e=>knd.is k e.key)=kvs.findIdx? fun kv=>decide (kv.1=k):=by
    rw [<- hp.findIdx k]; obtain ⟨l⟩:=es; simp
  cases hi: es.findIdx? fun e=>knd.is k e.key with
  | some i=>
    have hst: stored kvs k v=kvs.map (fun kv=>if kv.1=k then (kv.1,v) else kv):=by rw [stored,if_pos (any_of_findIdx_some (hidx ▸ hi))]
    refine wpAny_updateDict ho hd (hQ _ ⟨_,_,ep,Heap.get?_update_self _ ho (Obj.isFreed_of_dict (Obj.data_mapDict hd _)),hc.mapDict _,Obj.data_mapDict hd _,hk.modify _ _,?_,?_⟩ (Heap.SameBut.update ..))
    · rw [hst]
      have hl: (es.toList.findIdx? fun e=>knd.is k e.key)=some i:=by rw [<- hi]; obtain ⟨l⟩:=es; simp
      have:=hp.modify hn hl v
      obtain ⟨l⟩:=es
      simpa using this
    · rw [hst,keys_map_store]; exact hn
  | none=>
    have hnot: k ∉ kvs.map (·.1):=not_mem_of_findIdx_none (hidx ▸ hi)
    have hany: ¬ (kvs.any fun kv=>decide (kv.1=k))=true:=by
      rw [List.any_eq_true]; rintro ⟨kv,hkv,he⟩
      exact hnot (List.mem_map.mpr ⟨kv,hkv,of_decide_eq_true he⟩)
    refine wpAny_updateDictKeys (hz:=hes) ho hd (hQ _ ⟨_,_,ep + 1,Heap.get?_update_self _ ho (Obj.isFreed_of_dict (Obj.data_mapDictKeys hd _)),hc.mapDictKeys _,Obj.data_mapDictKeys hd _,hk.push hkey _,?_,?_⟩ (Heap.SameBut.update ..))
    · rw [stored,if_neg hany]
      have:=hp.append hkey (knd.hash k) v
      obtain ⟨l⟩:=es
      simpa using this
    · rw [stored,if_neg hany,List.map_append,List.nodup_append]
      refine ⟨hn,by simp,?_⟩
      intro a ha b hb
      simp only [List.map_cons,List.map_nil,List.mem_singleton] at hb
      subst hb
      exact fun e=>hnot (e ▸ ha)
theorem zm5: isSubtype (.type "dict") (.type "dict")=pure true:=by rw [isSubtype_type]; kernel_rfl
theorem z37 {α: Type} {M: Model} {c: Prop} [Decidable c] {a b: Sem α} {Q: α -> Shared -> Prop} (h: ¬ c) (k: wpAny M A b Q E s): wpAny M A (if c then a else b) Q E s:=by rw [if_neg h]; exact k
theorem zm6 {d o: Addr} {kvs more: List (K × Value)} {Q: Unit -> Shared -> Prop} (hdo: d ≠ o) (hoS: (o == sysModules)=false)
    (hd: s.heap.DictOf knd d kvs) (hne: kvs ≠ []) (ho: s.heap.DictOf knd o more)
    (hQ: ∀ h',h'.DictOf knd d (merged kvs more) -> Heap.SameBut d s.heap h' -> Q () { s with heap:=h' })
    (hsz: kvs.length + more.length<=sizeLine) :
    wpAny (model prog w) A (mergeMapping d (.ref o) false) Q E s:=by
  obtain ⟨od,esd,epd,hod,hcd,hdd,hkd,hpd,hnd⟩:=id hd
  obtain ⟨oo,eso,epo,hoo,hco,hdo',hko,hpo,hno⟩:=id ho
  have hlen: more.length=eso.size:=by rw [<- hpo.length]; simp
  have hde: esd.isEmpty=false:=by
    cases he: esd.isEmpty with
    | false=>rfl
    | true=>
      have h1: esd.size=0:=by simpa [Array.isEmpty] using he
      have h2:=hpd.length
      have h3: esd.toList.length=esd.size:=by simp
      exact absurd (List.length_eq_zero_iff.mp (by lia)) hne
  refine wpAny_bind (m:=isInstance (.ref o) (.type "dict")) (wpAny_isInstance ho.typeIs zm5 ?_)
  refine wpAny_bind (wpAny_specialOf ho.typeIs F.slot_dict_iter.lookup ?_)
  refine z37 (c:=(o == sysModules)=true) (by rw [hoS]; exact Bool.false_ne_true) ?_
  refine wpAny_bind (wpAny_dictEntries hod hdd ?_)
  refine z37 (by rw [hde]; exact Bool.false_ne_true) ?_
  refine wpAny_bind (wpAny_dictEntries hoo hdo' ?_)
  refine wpAny_bind (wpAny_dictEpoch hoo hdo' ?_)
  refine wpAny_bind ?_
  rw [List.range_eq_range']
  refine wpAny_forIn_list _
    (fun rest _ s'=>∃ h' i,s' = { s with heap:=h' } /\ rest=List.range' i (eso.size - i)/\i<=eso.size/\h'.DictOf knd d (merged kvs (more.take i))/\h'.get? o=some oo/\Heap.SameBut d s.heap h')
    _ ?_ ?_ _ _ ⟨s.heap,0,rfl,by simp,Nat.zero_le _,by simpa [merged] using hd,hoo,Heap.SameBut.refl _ _⟩
  · rintro x rest b s' ⟨h',i,rfl,hr,hi,hd',hoo',hs'⟩
    have hlt: i < eso.size:=by
      rcases Nat.lt_or_ge i eso.size with h | h
      · exact h
      · rw [Nat.sub_eq_zero_of_le h] at hr; simp at hr
    obtain ⟨rfl,hrest⟩: x=i/\rest=List.range' (i + 1) (eso.size - (i + 1)):=by
      have e: eso.size - i=(eso.size - (i + 1)) + 1:=(Nat.sub_add_cancel (Nat.sub_pos_of_lt hlt)).symm
      rw [e,List.range'_succ] at hr
      injection hr with h1 h2
      exact ⟨h1,h2⟩
    refine wpAny_bind (wpAny_dictEntries hoo' hdo' ?_)
    rw [Array.getElem?_eq_getElem hlt]
    obtain ⟨kv,hkv⟩: ∃ kv,more[x]? = some kv:=⟨more[x]'(by rw [hlen]; exact hlt),List.getElem?_eq_getElem _⟩
    obtain ⟨k,v⟩:=kv
    obtain ⟨hkey,hval⟩:=zuw hpo (e:=eso[x]) (by simp [hlt]) hkv
    obtain ⟨k',hkey',hhash⟩:=hko eso[x] (Array.getElem_mem hlt)
    obtain rfl: k'=k:=knd.inj _ _ _ hkey' hkey
    dsimp only
    rw [hhash,hval]
    have hmx: (merged kvs (more.take x)).length<=sizeLine:=by
      have e1:=merged_length_le kvs (more.take x)
      have e2: (more.take x).length<=more.length:=by rw [List.length_take]; exact Nat.min_le_right _ _
      lia
    refine wpAny_bind (wpAny_holding (zxz hkey hd' (fun h'' hd'' hs''=>?_) hmx))
    have hoo'': h''.get? o=some oo:=(hs''.2 o (Ne.symm hdo)).trans hoo'
    refine wpAny_bind (wpAny_dictEpoch hoo'' hdo' ?_)
    rw [if_neg (by simp)]
    exact wpAny_pure ⟨h'',x + 1,rfl,hrest,hlt,by rw [merged_take_succ kvs more x (k',v) hkv]; exact hd'',hoo'',hs'.trans hs''⟩
  · rintro b s' ⟨h',i,rfl,hr,hi,hd',hoo',hs'⟩
    have hin: i=eso.size:=by
      rcases Nat.lt_or_ge i eso.size with h | h
      · have e: eso.size - i=(eso.size - (i + 1)) + 1:=(Nat.sub_add_cancel (Nat.sub_pos_of_lt h)).symm
        rw [e,List.range'_succ] at hr; cases hr
      · exact Nat.le_antisymm hi h
    subst hin
    refine wpAny_pure (hQ h' ?_ hs')
    rw [List.take_of_length_le (by lia)] at hd'
    exact hd'
end
noncomputable def LitK (k: Sem Value) (i: Int): Prop:=∀ (M: Model) (A: Around) (Q E: Value -> Shared -> Prop) (s: Shared),(∀ t tk,Q (.int i t) { s with toks:=tk }) -> wpAny M A k Q E s
noncomputable def LitV (v: Sem Value) (x: Str): Prop:=∀ (M: Model) (A: Around) (Q E: Value -> Shared -> Prop) (s: Shared),(∀ t tk,Q (.str x t) { s with toks:=tk }) -> wpAny M A v Q E s
inductive zbu: List (Sem Value × Sem Value) -> List (Int × Str) -> Prop
  | nil: zbu [] []
  | cons {k v i x ps ts}: LitK k i -> LitV v x -> zbu ps ts -> zbu ((k,v) :: ps) ((i,x) :: ts)
theorem zbu.length {ps ts} (h: zbu ps ts): ts.length=ps.length:=by induction h <;> simp [*]
theorem zbu.append {ps ts qs us} (h: zbu ps ts) (g: zbu qs us): zbu (ps ++ qs) (ts ++ us):=by
  induction h with
  | nil=>exact g
  | cons a b _ ih=>exact .cons a b ih
inductive zer: List (Int × Value) -> List (Int × Str) -> Prop
  | nil: zer [] []
  | cons {i x t l ts}: zer l ts -> zer ((i,.str x t) :: l) ((i,x) :: ts)
theorem zer.keys {l ts} (h: zer l ts): l.map (·.1)=ts.map (·.1):=by induction h <;> simp [*]
theorem zer.length {l ts} (h: zer l ts): l.length=ts.length:=by induction h <;> simp [*]
theorem zer.append {l ts l' ts'} (h: zer l ts) (g: zer l' ts'): zer (l ++ l') (ts ++ ts'):=by
  induction h with
  | nil=>exact g
  | cons _ ih=>exact .cons ih
theorem zer.at {l ts} (h: zer l ts) (k: Int): (match valueAt l k with | some v=>∃ x t,v = .str x t/\ts.lookup k=some x | none=>ts.lookup k=none):=by
  induction h with
  | nil=>rfl
  | @cons i x t l ts _ ih=>
    by_cases hk: i=k
    · subst hk
      simp [valueAt,List.lookup]
    · have h1: valueAt ((i,Value.str x t) :: l) k=valueAt l k:=by simp [valueAt,List.find?_cons,hk]
      have h2: ((i,x) :: ts).lookup k=ts.lookup k:=by
        have: (k == i)=false:=by simpa using fun h=>hk h.symm
        simp [List.lookup,this]
      rw [h1,h2]; exact ih
section
variable {prog: Program} {w: World} {A: Around} {E: Value -> Shared -> Prop} {s: Shared}
theorem zux {d: Addr}: ∀ (ps: List (Sem Value × Sem Value)) (ts done: List (Int × Str)) (l: List (Int × Value)) (s: Shared) (Q: PUnit -> Shared -> Prop),zbu ps ts -> s.heap.DictOf (intKind prog w) d l -> zer l done ->
    ((done ++ ts).map (·.1)).Nodup -> (done ++ ts).length<=sizeLine ->
    (∀ h' l' tk,h'.DictOf (intKind prog w) d l' -> zer l' (done ++ ts) -> Heap.SameBut d s.heap h' -> Q PUnit.unit { s with heap:=h',toks:=tk }) ->
    wpAny (model prog w) A (forIn ps PUnit.unit fun (x: Sem Value × Sem Value) (_: PUnit)=>(match x with | (k,v)=>do let kv <- k; let vv <- holding [kv] v; holding [kv,vv] (dictSet d kv vv); pure (ForInStep.yield PUnit.unit): Sem (ForInStep PUnit))) Q E s:=by
  intro zz
  induction zz with
  | nil=>
    intro ts done l s Q hp hd ht _ _ hQ
    cases hp
    rw [List.forIn_nil]
    exact wpAny_pure (by simpa using hQ s.heap l s.toks hd (by simpa using ht) (Heap.SameBut.refl _ _))
  | cons zq ps ih=>
    obtain ⟨k,v⟩:=zq
    intro ts done l s Q hp hd ht hn hz hQ
    cases hp with
    | @cons _ _ i x _ ts hk hv hp=>
    rw [List.forIn_cons]
    refine wpAny_bind (wpAny_bind (hk _ _ _ _ _ fun t tk=>wpAny_bind (wpAny_holding (hv _ _ _ _ _ fun t' tk'=>wpAny_bind (wpAny_holding
      (wpAny_dictSet_pairs (knd:=intKind prog w) (k:=i) (s:={ s with toks:=tk' }) (hsz:=?_) (by simp [intKind,Value.isInt]) hd fun h₁ hm₁ hs₁=>wpAny_pure ?_))))))
    rotate_left
    · rw [ht.length]; simp only [List.length_append] at hz; lia
    · have hfresh: stored l i (.str x t')=l ++ [(i,.str x t')]:=by
        unfold stored
        rw [if_neg]
        rw [List.any_eq_true]
        rintro ⟨kv,hkv,he⟩
        have h1: i ∈ l.map (·.1):=List.mem_map.mpr ⟨kv,hkv,of_decide_eq_true he⟩
        rw [ht.keys] at h1
        rw [List.map_append,List.map_cons,List.nodup_append] at hn
        exact hn.2.2 i h1 i (List.mem_cons_self ..) rfl
      rw [hfresh] at hm₁
      refine ih ts (done ++ [(i,x)]) _ _ Q hp hm₁ (ht.append (.cons .nil)) (by simpa using hn) (by simpa using hz) fun h' l' tk'' a b c=>?_
      have:=hQ h' l' tk'' a (by simpa using b) (hs₁.trans c)
      exact this
theorem zsf: ∀ (ps: List (Sem Value × Sem Value)) (ts: List (Int × Str)) (s: Shared) (Q: List (Value × Value) -> Shared -> Prop),zbu ps ts ->
    (∀ vs l tk,Carries (intKind prog w) vs l -> zer l ts -> Q vs { s with toks:=tk }) -> wpAny (model prog w) A (evalPairs ps) Q E s:=by
  intro zz
  induction zz with
  | nil=>intro ts s Q hp hQ; cases hp; exact evalPairs_nil (hQ [] [] s.toks trivial .nil)
  | cons zq ps ih=>
    obtain ⟨k,v⟩:=zq
    intro ts s Q hp hQ
    cases hp with
    | @cons _ _ i x _ ts hk hv hp=>
    refine evalPairs_cons (hk _ _ _ _ _ fun t tk=>hv _ _ _ _ _ fun t' tk'=>ih ts _ _ hp fun vs l tk'' hc ht=>?_)
    exact hQ _ ((i,.str x t') :: l) tk'' ⟨by simp [intKind,Value.isInt],rfl,hc⟩ (.cons ht)
theorem zrc {ps: List (Sem Value × Sem Value)} {ts: List (Int × Str)} {Q: Addr -> Shared -> Prop} (hp: zbu ps ts) (hn: (ts.map (·.1)).Nodup) (hz: ts.length<=sizeLine)
    (hQ: ∀ h' l tk,h'.DictOf (intKind prog w) s.heap.objs.size l -> zer l ts -> (∀ b o,s.heap.get? b=some o -> h'.get? b=some o) -> s.heap.objs.size<=h'.objs.size -> Q s.heap.objs.size { s with heap:=h',toks:=tk }) :
    wpAny (model prog w) A (subDict ps) Q E s:=by
  by_cases hl: ps.length<=15
  · refine wpAny_subDict (knd:=intKind prog w) hl (zsf ps ts _ _ hp fun vs l tk hc ht=>⟨l,hc,Heap.DictOf.new _,fun h' hD hs=>?_⟩)
    rw [merged_nil_of_nodup l (by rw [ht.keys]; exact hn)] at hD
    exact hQ h' l _ hD ht (fun b o e=>(hs.2 b (Nat.ne_of_lt (Heap.lt_size e))).trans (Heap.get?_push_of_some _ e)) (by rw [hs.1,Heap.size_push]; exact Nat.le_succ _)
  · unfold subDict
    refine wpAny_bind (wpAny_alloc (wpAny_bind (wpAny_holding ?_)))
    rw [if_neg hl]
    refine wpAny_bind (wpAny_rule (wpAny_bind (zux ps ts [] [] _ _ hp (Heap.DictOf.new _) .nil (by simpa using hn) (by simpa using hz) fun h' l tk hD ht hs=>wpAny_pure ?_)))
    exact wpAny_pure (hQ h' l tk hD (by simpa using ht) (fun b o e=>(hs.2 b (Nat.ne_of_lt (Heap.lt_size e))).trans (Heap.get?_push_of_some _ e)) (by rw [hs.1,Heap.size_push]; exact Nat.le_succ _))
end
inductive zx0 (prog: Program) (w: World) (s: Shared) (tbl: List (Int × Str)) (main: Option Addr) (run rest: List (Sem Value × Sem Value)) (s': Shared): Prop
  | mk (h': Heap) (tk: Tok) (done tr tt: List (Int × Str)) (e: s' = { s with heap:=h',toks:=tk }) (hk: ∀ b o,s.heap.get? b=some o -> h'.get? b=some o) (hz: s.heap.objs.size<=h'.objs.size) (h1: zbu run tr) (h2: zbu rest tt) (he: done ++ (tr ++ tt)=tbl)
    (hm: (main=none/\done=[]) \/ ∃ d l,main=some d/\s.heap.objs.size<=d/\h'.DictOf (intKind prog w) d l/\zer l done/\done ≠ [])
section
variable {prog: Program} {w: World} {A: Around} {E: Value -> Shared -> Prop} {s: Shared}
theorem zko {tbl: List (Int × Str)} {main: Option Addr} {run rest: List (Sem Value × Sem Value)} {s': Shared} {Q: Option Addr -> Shared -> Prop} (low: sysModules < s.heap.objs.size) (hn: (tbl.map (·.1)).Nodup) (hz: tbl.length<=sizeLine)
    (h: zx0 prog w s tbl main run rest s') (hQ: ∀ main' s'',zx0 prog w s tbl main' [] rest s'' -> Q main' s'') :
    wpAny (model prog w) A (if run.isEmpty=true then pure main else match (generalizing:=false) main with
      | none=>do return some (<- subDict run)
      | some d=>do
        let sub <- holding [.ref d] (subDict run)
        (holding [.ref d,.ref sub] (mergeMapping d (.ref sub) false)).onRaise fun x=>do let _ <- holding [.ref d,x] (runValue (.builtin "proto.let_go" {}))
        return some d) Q E s':=by
  obtain ⟨h',tk,done,tr,tt,rfl,hk,hsz,hr,ht,he,hm⟩:=h
  by_cases hrun: run.isEmpty=true
  · rw [if_pos hrun]
    have hr0: run=[]:=List.isEmpty_iff.mp hrun
    subst hr0
    exact wpAny_pure (hQ _ _ ⟨h',tk,done,tr,tt,rfl,hk,hsz,hr,ht,he,hm⟩)
  · rw [if_neg hrun]
    have hne: tr ≠ []:=fun e=>hrun (by have:=hr.length; rw [e] at this; exact List.isEmpty_iff.mpr (List.length_eq_zero_iff.mp this.symm))
    have hz2: done.length + tr.length<=sizeLine:=by rw [<- he] at hz; simp only [List.length_append] at hz; lia
    have hn2: ((done ++ tr).map (·.1)).Nodup:=by
      rw [<- he,<- List.append_assoc,List.map_append,List.nodup_append] at hn
      exact hn.1
    have hn3: (tr.map (·.1)).Nodup:=by
      rw [List.map_append,List.nodup_append] at hn2
      exact hn2.2.1
    rcases hm with ⟨rfl,rfl⟩ | ⟨d,l,rfl,hd0,hD,hT,hdn⟩
    · refine wpAny_bind (zrc (s:={ s with heap:=h',toks:=tk }) hr hn3 (by lia) fun h₂ l tk₂ hD ht₂ hk₂ hs₂=>wpAny_pure ?_)
      exact hQ _ _ ⟨h₂,tk₂,tr,[],tt,rfl,fun b o e=>hk₂ b o (hk b o e),Nat.le_trans hsz hs₂,.nil,ht,by simpa using he,.inr ⟨_,l,rfl,hsz,hD,ht₂,hne⟩⟩
    · refine wpAny_bind (wpAny_holding (zrc (s:={ s with heap:=h',toks:=tk }) hr hn3 (by lia) fun h₂ l₂ tk₂ hD₂ ht₂ hk₂ hs₂=>?_))
      have hlt: d < h'.objs.size:=by obtain ⟨_,_,_,ho,_⟩:=hD; exact Heap.lt_size ho
      have hD': h₂.DictOf (intKind prog w) d l:=by obtain ⟨o,es,ep,ho,r⟩:=hD; exact ⟨o,es,ep,hk₂ _ _ ho,r⟩
      have hsys: h'.objs.size ≠ sysModules:=Nat.ne_of_gt (Nat.lt_of_lt_of_le low hsz)
      refine wpAny_bind (wpAny_onRaise (wpAny_holding (zm6 (knd:=intKind prog w) (s:={ s with heap:=h₂,toks:=tk₂ }) (Nat.ne_of_lt hlt) ?_ hD' ?_ hD₂ (fun h₃ hD₃ hs₃=>wpAny_pure ?_) ?_)))
      · exact beq_eq_false_iff_ne.mpr hsys
      · intro e
        subst e
        exact hdn (by have:=hT.length; exact List.length_eq_zero_iff.mp this.symm)
      · have e1: merged l l₂=l ++ l₂:=merged_append_of_fresh l l₂ (by rw [List.map_append,hT.keys,ht₂.keys,<- List.map_append]; exact hn2)
        rw [e1] at hD₃
        refine hQ _ _ ⟨h₃,tk₂,done ++ tr,[],tt,rfl,fun b o e=>?_,?_,.nil,ht,by simpa using he,.inr ⟨d,_,rfl,hd0,hD₃,hT.append ht₂,by simp [hdn]⟩⟩
        · exact (hs₃.2 b (fun q=>by subst q; exact absurd (Heap.lt_size e) (Nat.not_lt.mpr hd0))).trans (hk₂ b o (hk b o e))
        · rw [hs₃.1]; exact Nat.le_trans hsz hs₂
      · rw [hT.length,ht₂.length]; exact hz2
theorem zoj {tbl: List (Int × Str)} {ps: List (Sem Value × Sem Value)} {Q: Value -> Shared -> Prop} (low: sysModules < s.heap.objs.size) (hn: (tbl.map (·.1)).Nodup) (hz: tbl.length<=sizeLine) (hne: tbl ≠ []) (hp: zbu ps tbl)
    (hQ: ∀ h' tk d l,s.heap.objs.size<=d -> h'.DictOf (intKind prog w) d l -> zer l tbl -> (∀ b o,s.heap.get? b=some o -> h'.get? b=some o) -> Q (.ref d) { s with heap:=h',toks:=tk }) :
    wpAny (model prog w) A (dictDisplay (ps.map fun p=>(some p.1,p.2))) Q E s:=by
  unfold dictDisplay
  dsimp only
  refine wpAny_bind ?_
  refine wpAny_forIn_list _ (fun rest st s'=>∃ ps',rest=ps'.map (fun p=>(some p.1,p.2))/\st.2.length < 17/\zx0 prog w s tbl st.1 st.2 ps' s') _ ?_ ?_ _ _ ⟨ps,rfl,by simp,s.heap,s.toks,[],[],tbl,rfl,fun _ _ e=>e,Nat.le_refl _,.nil,hp,by simp,.inl ⟨rfl,rfl⟩⟩
  · rintro x rest ⟨main,run⟩ s' ⟨ps',hr,hlen,hS⟩
    cases ps' with
    | nil=>cases hr
    | cons p ps'=>
      obtain ⟨rfl,rfl⟩: x=(some p.1,p.2)/\rest=ps'.map (fun p=>(some p.1,p.2)):=by
        rw [List.map_cons] at hr
        exact List.cons.inj hr
      dsimp only
      have hS': zx0 prog w s tbl main (run ++ [(p.1,p.2)]) ps' s':=by
        obtain ⟨h',tk,done,tr,tt,e1,hk,hsz,h1,h2,he,hm⟩:=hS
        cases h2 with
        | @cons k v i x _ ts hk' hv' h2=>
        exact ⟨h',tk,done,tr ++ [(i,x)],ts,e1,hk,hsz,h1.append (.cons hk' hv' .nil),h2,by simpa using he,hm⟩
      split
      · refine wpAny_bind (zko low hn hz hS' fun main' s'' h''=>wpAny_pure ?_)
        exact ⟨ps',rfl,by simp,h''⟩
      · rename_i hc
        refine wpAny_pure ⟨ps',rfl,?_,hS'⟩
        simp at hc hlen ⊢
        lia
  · rintro ⟨main,run⟩ s' ⟨ps',hr,hlen,hS⟩
    have: ps'=[]:=by cases ps' with | nil=>rfl | cons _ _=>cases hr
    subst this
    dsimp only
    refine wpAny_bind (zko low hn hz hS fun main' s'' h''=>?_)
    obtain ⟨h',tk,done,tr,tt,rfl,hk,hsz,h1,h2,he,hm⟩:=h''
    cases h1; cases h2
    rcases hm with ⟨rfl,rfl⟩ | ⟨d,l,rfl,hd0,hD,hT,hdn⟩
    · exact absurd he.symm (by simpa using hne)
    · exact wpAny_pure (hQ h' tk d l hd0 hD (by simpa [<- he] using hT) hk)
end
noncomputable def mkCX (prog: Program) (w: World) (mg mb: Str -> Option Value) (h₀: Heap) (n₀: Nat) (n4: 4<=n₀) (lit: Str -> Tok -> Prop) (litNz: ∀ {x t},lit x t -> t ≠ 0) (litNe: ∀ {x y t},lit x t -> lit y t -> x=y)
    (last: ∃ b o,b + 1=n₀/\h₀.get? b=some o) (g: h₀.Ns mainGlobals mg) (b: h₀.Ns builtinsNs mb) (nl: h₀.NoLimit): CX where
  prog:=prog
  w:=w
  mg:=mg
  mb:=mb
  n₀:=n₀
  n4:=n4
  Inv:=fun h=>∀ b o,b < n₀ -> h₀.get? b=some o -> h.get? b=some o
  lit:=lit
  litNz:=litNz
  litNe:=litNe
  keep:=fun k i b o hb e=>k b o (.inl hb) (i b o hb e)
  low:=fun {h} i=>by
    obtain ⟨c,o,rfl,e⟩:=last
    exact Heap.lt_size (i c o (Nat.lt_succ_self _) e)
  g:=fun {h} i=>g.at fun o e=>i _ o (Nat.lt_of_lt_of_le (by decide) n4) e
  b:=fun {h} i=>b.at fun o e=>i _ o (Nat.lt_of_lt_of_le (by decide) n4) e
  nolimit:=fun {h} i=>nl.at fun o e=>i _ o (Nat.lt_of_lt_of_le (by decide) n4) e
noncomputable def z38 (prog: Program) (w: World) (mg mb: Str -> Option Value) (h₀: Heap) (g: h₀.Ns mainGlobals mg) (b: h₀.Ns builtinsNs mb) (nl: h₀.NoLimit): CX:=
  mkCX prog w mg mb h₀ 4 (Nat.le_refl _) (fun _ _=>False) (fun h=>h.elim) (fun h=>h.elim) (by obtain ⟨o,_,_,e,_⟩:=g; exact ⟨3,o,rfl,e⟩) g b nl
theorem zpz {prog: Program} {w: World} {mg mb: Str -> Option Value} {h₀: Heap} {g: h₀.Ns mainGlobals mg} {b: h₀.Ns builtinsNs mb} {nl: h₀.NoLimit} {s s': Shared} (e: s.heap=h₀)
    (x: Ext0 (z38 prog w mg mb h₀ g b nl) s s'): ∀ b o,s.heap.get? b=some o -> s'.heap.get? b=some o:=fun c o h=>by
  rcases Nat.lt_or_ge c 4 with q | q
  · exact x.inv (fun b' o' _ e'=>by rw [e]; exact e') c o q (e ▸ h)
  · exact x.new c o q h
theorem z1d {C: CX} {A: Around} {s: Shared} {W: Addr -> Prop} {env: Env} {i: Int} {k: Nat} {pos: Pos}: Snd C A s W (eval (.Constant (.int i) k pos) env) (.int i):=fun Q E q=>
  wpAny_Constant_int (q _ _ .tok1 zbf)
theorem zok {C: CX} {A: Around} {env: Env} {pos: Pos} {W: Addr -> Prop}: ∀ (l: List (Int × Nat × Pos)) (s: Shared),
    SndL C A s W (spliced (backTo pos (starEach (l.map fun x=>.Constant (.int x.1) x.2.1 x.2.2) env))) (l.map fun x=>.int x.1):=by
  intro zz
  induction zz with
  | nil=>exact fun s=>zjx
  | cons x l ih=>exact fun s=>zhy (z1d (k:=x.2.1) (pos:=x.2.2)) fun s' _=>ih s'
theorem zh9: ∀ (L: List Int),zgk (L.map PV.int)=some L:=by
  intro zz
  induction zz with
  | nil=>exact rfl
  | cons x L ih=>
    have ih:=ih
    unfold zgk at ih ⊢
    rw [List.map_cons,List.mapM_cons]
    simp only [vE]
    rw [ih]; rfl
theorem zx1: ∀ (L: List Int) (k: Int),((List.range L.length).map fun i=>L.getD i 0).any (· == k)=L.contains k:=fun L k=>by
  have: ((List.range L.length).map fun i=>L.getD i 0)=L:=by
    apply List.ext_getElem
    · simp
    · intro i h1 h2
      simp at h1
      simp [List.getD,h1]
  rw [this,List.contains_eq_any_beq]
  congr 1; funext x; exact Bool.beq_comm
theorem zx2: bootBuiltins "set" = some (.type "set"):=by decide +kernel
theorem zuy: bootBuiltins "list" = some (.type "list"):=by decide +kernel
theorem zsg: bootBuiltins "range" = some (.type "range"):=by decide +kernel
section
variable {prog: Program} {w: World} {A: Around} {E: Value -> Shared -> Prop} {s: Shared} {mg mb: Str -> Option Value} {c F: Addr}
theorem zm7 {x: Str} {v: Value} {p: Pos} {Q: Value -> Shared -> Prop} (hmod: prog.main.scope.kind = .module) (hd: (x == ("__debug__" : Str))=false) (g: s.heap.Ns mainGlobals mg) (b: s.heap.Ns builtinsNs mb) (h1: mg x=none) (h2: mb x=some v) (q: Q v s) :
    wpAny (model prog w) A (eval (.Name x p) (mainEnv prog c F)) Q E s:=
  Name_module hmod rfl (loadGlobal_builtin (env:=mainEnv prog c F) g h1 b h2 q) hd
theorem zx3 {l: List (Int × Nat × Pos)} {a b: Int} {k1 k2: Nat} {p1 p2 p3 p4 p5 p6 p7 p8 p9 p10: Pos} {Q: Value -> Shared -> Prop} (hmod: prog.main.scope.kind = .module) (hh: A.handled=none)
    (g: s.heap.Ns mainGlobals mg) (hb: s.heap.Ns builtinsNs mb) (nl: s.heap.NoLimit) (tok: 0 < s.toks)
    (m1: mg "set" = none) (m2: mg "list" = none) (m3: mg "range" = none) (b1: mb "set" = some (.type "set")) (b2: mb "list" = some (.type "list")) (b3: mb "range" = some (.type "range"))
    (hr: zbk a b 1=true) (hl: l.length + (zan a b 1).length < 4000)
    (h: ∀ h' tk d n,(∀ b o,s.heap.get? b=some o -> h'.get? b=some o) -> s.heap.get? d=none ->
      h'.SetOf (intKind prog w) d (fun k=>(l.map (·.1) ++ (List.range (Builtin.Range.rangeSize a b 1).toNat).map fun (k: Nat)=>a + (k: Int)).contains k) n -> Q (.ref d) { s with heap:=h',toks:=tk }) :
    wpAny (model prog w) A (eval (.Call (.Name "set" p1) [.BinOp (.List (l.map fun x=>.Constant (.int x.1) x.2.1 x.2.2) p2) .Add (.Call (.Name "list" p3) [.Call (.Name "range" p4) [.Constant (.int a) k1 p5,.Constant (.int b) k2 p6] [] p7] [] p8) p9] [] p10) (mainEnv prog c F)) Q E s:=by
  let C:=z38 prog w mg mb s.heap g hb nl
  have low: ∀ s': Shared,Ext0 C s s' -> C.Inv s'.heap:=fun s' x=>x.inv fun b o _ e=>e
  have at0: At C (fun _=>False) s:=⟨fun b o _ e=>e,fun b h=>h.elim,tok⟩
  have sl: Snd C A s (fun _=>False) (eval (.List (l.map fun x=>.Constant (.int x.1) x.2.1 x.2.2) p2) (mainEnv prog c F)) (.list (l.map fun x=>PV.int x.1)):=fun Q E q=>by
    refine wpAny_List (zok (C:=C) (W:=fun _=>False) l s _ _ fun vs s₁ e₁ r₁=>?_)
    have hl1: (l.map fun x=>PV.int x.1).length<=sizeLine:=by rw [List.length_map,sizeLine_eq]; lia
    exact ⟨by rw [r₁.length]; exact hl1,zn6 (n:=0) (k:=s₁.toks) (Nat.le_refl _) (at0.ext e₁) r₁ hl1 fun v s₂ e₂ r₂=>q v s₂ (e₁.trans e₂) r₂⟩
  refine wpAny_Call_NameR (zm7 hmod (by decide) g hb m1 b1 ?_)
  refine zcc (args:=backTo p10 (starEach [.BinOp _ _ _ _] _)) rfl (za3 rfl ?_)
  refine (zhy (C:=C) (W:=fun _=>False) (A:=A) (p:=.list (l.map (fun x=>PV.int x.1) ++ zan a b 1)) (ps:=[]) (fun Q E q=>wpAny_BinOp ?_) fun s' _=>zjx) _ _ fun vs s₁ e₁ r₁=>?_
  · refine sl _ _ fun v s₂ e₂ r₂=>?_
    have a2: At C (fun _=>False) s₂:=at0.ext e₂
    have in2:=a2.inv
    refine wpAny_Call_NameR (zm7 hmod (by decide) (C.g in2) (C.b in2) m2 b2 ?_)
    refine zcc (args:=backTo p8 (starEach [.Call _ _ _ _] _)) rfl (za3 rfl ?_)
    refine (zhy (C:=C) (W:=fun _=>False) (A:=A) (p:=.range a b 1) (ps:=[]) (fun Q E q=>?_) fun s' _=>zjx) _ _ fun vs s₃ e₃ r₃=>?_
    · refine wpAny_Call_NameR (zm7 hmod (by decide) (C.g in2) (C.b in2) m3 b3 ?_)
      refine zcc (args:=backTo p7 (starEach [.Constant _ _ _,.Constant _ _ _] _)) rfl (za3 rfl ?_)
      refine (zok (C:=C) (W:=fun _=>False) [(a,k1,p5),(b,k2,p6)] s₂) _ _ fun vs s₃ e₃ r₃=>?_
      exact (zpl (n:="range") (args:=[.int a,.int b]) (ztq hr) (a2.ext e₃) hh r₃).up _ _ fun v s₄ e₄ r₄=>q v s₄ (e₃.trans e₄) r₄
    · refine (zpl (n:="list") (args:=[.range a b 1]) (z:=.list (zan a b 1)) rfl (a2.ext e₃) hh r₃).up _ _ fun v' s₄ e₄ r₄=>?_
      refine (zmu (op:=.Add) (x:=.list (l.map fun x=>PV.int x.1)) (y:=.list (zan a b 1)) (z:=.list (l.map (fun x=>PV.int x.1) ++ zan a b 1)) ?_ ((a2.ext e₃).ext e₄) ((r₂.ext e₃.toExt0).ext e₄.toExt0) r₄).up _ _ fun v'' s₅ e₅ r₅=>?_
      · show (if decide ((l.map fun x=>PV.int x.1).length + (zan a b 1).length<=16777216)=true then some (PV.list (l.map (fun x=>PV.int x.1) ++ zan a b 1)) else none)=_
        rw [List.length_map,if_pos (by simp; exact Nat.le_of_lt (Nat.lt_of_lt_of_le ‹_› (by decide)))]
      · exact q v'' s₅ (((e₂.trans e₃).trans e₄).trans e₅) r₅
  · obtain ⟨v,u,rfl,rx,r⟩:=zat r₁
    obtain rfl:=za6 r
    obtain ⟨ad,vs,n,rfl,_,_,ho,hrl,_⟩:=zbg rx
    have hvs: IntsAre vs (l.map (·.1) ++ (List.range (Builtin.Range.rangeSize a b 1).toNat).map fun (k: Nat)=>a + (k: Int)):=by
      refine zmv ?_ hrl
      have: (l.map (fun x=>PV.int x.1) ++ zan a b 1)=((l.map (·.1) ++ (List.range (Builtin.Range.rangeSize a b 1).toNat).map fun (k: Nat)=>a + (k: Int))).map PV.int:=by
        simp [zan]
        rfl
      rw [this]
      exact zh9 _
    have hsz: vs.length < 4000:=by rw [hrl.length,List.length_append,List.length_map]; exact hl
    refine call_set_list (items:=vs.toArray) hh ⟨_,ho,rfl,n,rfl⟩ hvs (by unfold scanBound; simp; exact Nat.lt_of_le_of_lt ‹_› (by decide)) fun h' tk hS hk=>?_
    have es: ({ s₁ with heap:=h',toks:=tk }: Shared) = { s with heap:=h',toks:=tk }:=by
      have h1:=e₁.gens; have h2:=e₁.drawn; have h3:=e₁.os
      cases s; cases s₁; simp_all
    rw [es]
    have hkeep:=zpz (s:=s) rfl e₁.toExt0
    refine h h' tk _ _ (fun c o e=>hk c o (Heap.lt_size (hkeep c o e)) (hkeep c o e)) ?_ (SetOf_congr hS (fun k=>?_) rfl)
    · cases hq: s.heap.get? s₁.heap.objs.size with
      | none=>rfl
      | some o=>exact absurd (Heap.lt_size (hkeep _ _ hq)) (Nat.lt_irrefl _)
    · have hln: vs.toArray.size=(l.map (·.1) ++ (List.range (Builtin.Range.rangeSize a b 1).toNat).map fun (k: Nat)=>a + (k: Int)).length:=by
        rw [List.size_toArray]; exact IntsAre.length hvs
      rw [firstMet_any,hln,zx1]
end
noncomputable abbrev Fact:=Addr -> Value -> Heap -> Prop
noncomputable def zkp (P: Fact): Prop:=∀ Pl v h h',(∀ b o,b ≠ Pl -> b ≠ mainGlobals -> h.get? b=some o -> h'.get? b=some o) -> P Pl v h -> P Pl v h'
structure zej (h₀: Heap) (mg₀: Str -> Option Value) (c Pl: Addr) (s: Shared) (mg: Str -> Option Value) (poss: List (Nat × Nat)) (facts: List (Str × Fact)) (names: List Str): Prop where
  main: ∃ l: List (Pos × Addr),s.heap.Main mg c Pl (triples l).toArray/\poss=l.map fun x=>(x.1.line,x.1.col)
  keep: ∀ b o,b ≠ Pl -> b ≠ mainGlobals -> h₀.get? b=some o -> s.heap.get? b=some o
  held: ∀ p ∈ facts,∃ v,mg p.1=some v/\p.2 Pl v s.heap
  stab: ∀ p ∈ facts,zkp p.2
  fnames: ∀ p ∈ facts,p.1 ∈ names
  others: ∀ x,x ∉ names -> mg x=mg₀ x
  tok: 0 < s.toks
inductive z39 (d: DefRec) (Pl: Addr) (v: Value) (h: Heap): Prop where
  | mk (a: Addr) (o: Obj) (pm: Value) (code: Addr) (doc: Value) (P: Addr) (e: v = .ref a) (n1: a ≠ Pl) (n2: a ≠ mainGlobals) (ho: h.get? a=some o) (hd: o.data = .func (d.data pm (.ref code) doc)) (hc: h.CodeRec (.ref code) d.name) (n3: code ≠ Pl) (n4: code ≠ mainGlobals)
    (hh: CodeHd h code P) (hP: h.get? P=some (tabObj #[])) (n5: P ≠ Pl) (n6: P ≠ mainGlobals)
noncomputable abbrev zmf (d: DefRec): Fact:=z39 d
theorem zia {h h': Heap} {c P: Addr} (x: CodeHd h c P) (k: ∀ o,h.get? c=some o -> h'.get? c=some o): CodeHd h' c P:=
  by obtain ⟨o,vs,file,tf,flags,tg,inF,text,tt,e,r⟩:=x; exact ⟨o,vs,file,tf,flags,tg,inF,text,tt,k _ e,r⟩
theorem zm8 (d: DefRec): zkp (zmf d):=fun Pl v h h' k z=>by
  obtain ⟨a,o,pm,code,doc,P,e,n1,n2,ho,hd,hc,n3,n4,hh,hP,n5,n6⟩:=z
  exact ⟨a,o,pm,code,doc,P,e,n1,n2,k _ _ n1 n2 ho,hd,hc.at fun o=>k _ o n3 n4,n3,n4,zia hh fun o=>k _ o n3 n4,k _ _ n5 n6 hP,n5,n6⟩
theorem z1e {M: Model} {A: Around} {E: Value -> Shared -> Prop} {s: Shared} {prog: Program} {c Pl F: Addr} {d: DefRec} {mg} {ps: Array Value} {Q: Flow -> Shared -> Prop} (hd: d.Plain prog) (hmod: prog.main.scope.kind = .module)
    (hm: s.heap.Main mg c Pl ps) (hnf: codeAmong d.pos ps.toList=none)
    (h: ∀ a c' doc h' tk,s.heap.objs.size<=a -> h'.Main (fun x=>if x=d.name then some (.ref a) else mg x) c Pl (ps ++ #[rawInt d.pos.line,rawInt d.pos.col,.ref c']) ->
      h'.get? a=some { cls:=.type "function",data:=.func (d.data ((mg "__name__").getD .none) (.ref c') doc) } -> (s.heap.objs.size<=c'/\h'.CodeRec (.ref c') d.name) -> (∃ P',s.heap.objs.size<=P'/\h'.IsCode c' P' #[]/\h'.TableAt c' P' #[]) ->
      (∀ b o,b ≠ Pl -> b ≠ mainGlobals -> s.heap.get? b=some o -> h'.get? b=some o) -> Q .next { s with heap:=h',toks:=tk }) :
    wpAny M A (exec d.stmt (mainEnv prog c F)) Q E s:=by
  cases hdoc: docOf d.body with
  | none=>exact wpAny_plainDefN hd.tree hd.free hdoc hd.loc hd.qual hm (fun a c' h' tk ha hm' hf hc ht keep=>h a c' .none h' tk ha hm' hf hc ht keep) hd.nb hmod hnf
  | some t=>exact plainDef_docN hd.tree hd.free hdoc hd.loc hd.qual hm (fun a c' tk₀ h' tk ha hm' hf hc ht keep=>h a c' (.str t tk₀) h' tk ha hm' hf hc ht keep) hd.nb hmod hnf
noncomputable def zi3 (i: Int): Fact:=fun _ v _=>∃ t,v = .int i t
theorem zlq (i: Int): zkp (zi3 i):=fun _ _ _ _ _ h=>h
noncomputable def zp0 (Q: Addr -> Heap -> Prop): Fact:=fun Pl v h=>∃ a,v = .ref a/\a ≠ Pl/\a ≠ mainGlobals/\Q a h
theorem zgw {Q: Addr -> Heap -> Prop} (hq: ∀ a h h',(∀ o,h.get? a=some o -> h'.get? a=some o) -> Q a h -> Q a h'): zkp (zp0 Q):=fun Pl v h h' k z=>by
  obtain ⟨a,e,n1,n2,q⟩:=z
  exact ⟨a,e,n1,n2,hq a h h' (fun o=>k a o n1 n2) q⟩
structure zcl (s s': Shared): Prop where
  gens: s'.gens=s.gens
  drawn: s'.drawn=s.drawn
  os: s'.os=s.os
section
variable {prog: Program} {w: World} {A: Around} {E: Value -> Shared -> Prop} {s: Shared} {c Pl F: Addr} {h₀: Heap} {mg₀ mg: Str -> Option Value} {poss: List (Nat × Nat)} {facts: List (Str × Fact)} {names: List Str}
theorem z1f {d: DefRec} {Q: Flow -> Shared -> Prop} (hd: d.Plain prog) (hmod: prog.main.scope.kind = .module) (T: zej h₀ mg₀ c Pl s mg poss facts names) (hn: (facts.map (·.1)).contains d.name=false) (hp: poss.contains (d.pos.line,d.pos.col)=false)
    (q: ∀ s' mg',zej h₀ mg₀ c Pl s' mg' (poss ++ [(d.pos.line,d.pos.col)]) ((d.name,zmf d) :: facts) (d.name :: names) -> zcl s s' -> Q .next s') :
    wpAny (model prog w) A (exec d.stmt (mainEnv prog c F)) Q E s:=by
  obtain ⟨l,hm,rfl⟩:=T.main
  refine wpAny_with_toks (Nat.le_refl s.toks) (z1e hd hmod hm ?_ fun a c' doc h' tk ha hm' hf hc ⟨P',hP1,hP2,hP3⟩ keep htk=>?_)
  · rw [List.toList_toArray]
    refine codeAmong_triples _ _ fun x hx e=>?_
    have: (l.map fun x=>(x.1.line,x.1.col)).contains (d.pos.line,d.pos.col)=true:=by
      rw [List.contains_iff_mem]
      exact List.mem_map.mpr ⟨x,hx,by rw [e.1,e.2]⟩
    rw [hp] at this; exact ft this
  · have hPl: Pl < s.heap.objs.size:=hm.code.lt.2
    have hG: mainGlobals < s.heap.objs.size:=hm.g.lt
    refine q _ _ ⟨⟨l ++ [(d.pos,c')],by rw [triples_append]; simpa using hm',by simp⟩,fun b o h1 h2 e=>keep b o h1 h2 (T.keep b o h1 h2 e),?_,?_,?_,?_,Nat.lt_of_lt_of_le T.tok htk⟩ ⟨rfl,rfl,rfl⟩
    · intro p hp'
      rcases List.mem_cons.mp hp' with rfl | hp'
      · refine ⟨.ref a,by simp,a,_,_,c',doc,P',rfl,Nat.ne_of_gt (Nat.lt_of_lt_of_le hPl ha),Nat.ne_of_gt (Nat.lt_of_lt_of_le hG ha),hf,rfl,hc.2,Nat.ne_of_gt (Nat.lt_of_lt_of_le hPl hc.1),Nat.ne_of_gt (Nat.lt_of_lt_of_le hG hc.1),CodeHd.of hP2 hP3,hP3.2,Nat.ne_of_gt (Nat.lt_of_lt_of_le hPl hP1),Nat.ne_of_gt (Nat.lt_of_lt_of_le hG hP1)⟩
      · obtain ⟨v,hv,hP⟩:=T.held p hp'
        refine ⟨v,?_,T.stab p hp' _ _ _ _ keep hP⟩
        show (if p.1=d.name then _ else mg p.1)=_
        rw [if_neg]
        · exact hv
        · intro e
          have: (facts.map (·.1)).contains d.name=true:=by
            rw [List.contains_iff_mem]
            exact List.mem_map.mpr ⟨p,hp',e⟩
          rw [hn] at this; exact ft this
    · intro p hp'
      rcases List.mem_cons.mp hp' with rfl | hp'
      · exact zm8 d
      · exact T.stab p hp'
    · intro p hp'
      rcases List.mem_cons.mp hp' with rfl | hp'
      · exact List.mem_cons_self
      · exact List.mem_cons_of_mem _ (T.fnames p hp')
    · intro x hx
      show (if x=d.name then _ else mg x)=_
      rw [if_neg (fun e=>hx (by rw [e]; exact List.mem_cons_self))]
      exact T.others x fun h=>hx (List.mem_cons_of_mem _ h)
theorem zm9 {x: Str} {pos' pos: Pos} {value: Expr} {P: Fact} {Q: Flow -> Shared -> Prop} (hmod: prog.main.scope.kind = .module) (hloc: prog.main.scope.names.lookup x=some .local) (hnb: x ≠ "__builtins__")
    (T: zej h₀ mg₀ c Pl s mg poss facts names) (hn: (facts.map (·.1)).contains x=false) (st: zkp P)
    (hs: swapsWith value (some (.Name x pos')) pos.line (mainEnv prog c F)=pure false)
    (hval: ∀ Q' E': Value -> Shared -> Prop,(∀ v s',(∀ b o,s.heap.get? b=some o -> s'.heap.get? b=some o) -> zcl s s' -> (∀ h',(∀ b o,b ≠ Pl -> b ≠ mainGlobals -> s'.heap.get? b=some o -> h'.get? b=some o) -> P Pl v h') -> Q' v s') -> wpAny (model prog w) A (eval value (mainEnv prog c F)) Q' E' s)
    (q: ∀ s' mg',zej h₀ mg₀ c Pl s' mg' poss ((x,P) :: facts) (x :: names) -> zcl s s' -> Q .next s') :
    wpAny (model prog w) A (exec (.Assign [.Name x pos'] value pos) (mainEnv prog c F)) Q E s:=by
  refine wpAny_with_toks (Nat.le_refl s.toks) (wpAny_Assign_Name (hval _ _ fun v s₁ hk₁ r₁ hP=>?_) hs)
  obtain ⟨l,hm,rfl⟩:=T.main
  have g₁:=hm.g.keeps hk₁
  refine wpAny_storeName_local (env:=mainEnv prog c F) hloc g₁ (fun h' hg' hs' htk=>?_)
    (by show (prog.main.scope.kind == .class || (prog.main.scope.kind == .module && mainGlobals != mainGlobals))=false; rw [hmod]; rfl)
  obtain ⟨bm,o,hbm,hne0,hneG,hneP,hbo,hrest⟩:=hm.bmod
  have keep': ∀ b o,b ≠ Pl -> b ≠ mainGlobals -> s₁.heap.get? b=some o -> h'.get? b=some o:=fun b o _ hG e=>(hs'.2 _ hG).trans e
  have keep: ∀ b o,b ≠ Pl -> b ≠ mainGlobals -> s.heap.get? b=some o -> h'.get? b=some o:=fun b o h1 h2 e=>keep' b o h1 h2 (hk₁ b o e)
  refine q _ _ ⟨⟨l,⟨hg',(hm.code.keeps hk₁).sameBut hs' (Nat.ne_of_gt hm.low.1) (Nat.ne_of_gt hm.low.2),hm.low,
      ⟨bm,o,by simp only [Ne.symm hnb,if_false]; exact hbm,hne0,hneG,hneP,(hs'.2 _ hneG).trans (hk₁ _ _ hbo),hrest⟩⟩,rfl⟩,fun b o h1 h2 e=>keep b o h1 h2 (T.keep b o h1 h2 e),?_,?_,?_,?_,Nat.lt_of_lt_of_le T.tok htk⟩ ⟨r₁.gens,r₁.drawn,r₁.os⟩
  · intro p hp'
    rcases List.mem_cons.mp hp' with rfl | hp'
    · exact ⟨v,by simp,hP _ keep'⟩
    · obtain ⟨v',hv,hP'⟩:=T.held p hp'
      refine ⟨v',?_,T.stab p hp' _ _ _ _ keep hP'⟩
      show (if p.1=x then _ else mg p.1)=_
      rw [if_neg]
      · exact hv
      · intro e
        have: (facts.map (·.1)).contains x=true:=by
          rw [List.contains_iff_mem]
          exact List.mem_map.mpr ⟨p,hp',e⟩
        rw [hn] at this; exact ft this
  · intro p hp'
    rcases List.mem_cons.mp hp' with rfl | hp'
    · exact st
    · exact T.stab p hp'
  · intro p hp'
    rcases List.mem_cons.mp hp' with rfl | hp'
    · exact List.mem_cons_self
    · exact List.mem_cons_of_mem _ (T.fnames p hp')
  · intro y hy
    show (if y=x then _ else mg y)=_
    rw [if_neg (fun e=>hy (by rw [e]; exact List.mem_cons_self))]
    exact T.others y fun h=>hy (List.mem_cons_of_mem _ h)
theorem zej.drop {p: Str × Fact} (T: zej h₀ mg₀ c Pl s mg poss (p :: facts) names): zej h₀ mg₀ c Pl s mg poss facts names:=
  ⟨T.main,T.keep,fun q hq=>T.held q (List.mem_cons_of_mem _ hq),fun q hq=>T.stab q (List.mem_cons_of_mem _ hq),fun q hq=>T.fnames q (List.mem_cons_of_mem _ hq),T.others,T.tok⟩
theorem zcl.trans {a b c: Shared} (x: zcl a b) (y: zcl b c): zcl a c:=⟨y.gens.trans x.gens,y.drawn.trans x.drawn,y.os.trans x.os⟩
theorem zx4 {x y: Str} {k: Nat} {p' p₁ pos: Pos} {Q: Flow -> Shared -> Prop} (hmod: prog.main.scope.kind = .module) (hloc: prog.main.scope.names.lookup x=some .local) (hnb: x ≠ "__builtins__")
    (T: zej h₀ mg₀ c Pl s mg poss facts names) (hn: (facts.map (·.1)).contains x=false)
    (q: ∀ s' mg',zej h₀ mg₀ c Pl s' mg' poss facts (x :: names) -> zcl s s' -> Q .next s') :
    wpAny (model prog w) A (exec (.Assign [.Name x p'] (.Constant (.str y) k p₁) pos) (mainEnv prog c F)) Q E s:=
  zm9 (P:=fun _ _ _=>True) hmod hloc hnb T hn (fun _ _ _ _ _ h=>h) rfl (fun Q' E' h=>Constant_str (h _ _ (fun _ _ e=>e) ⟨rfl,rfl,rfl⟩ fun _ _=>trivial)) fun s' mg' T' r=>q s' mg' T'.drop r
theorem z1g {x: Str} {i: Int} {k: Nat} {p' p₁ pos: Pos} {Q: Flow -> Shared -> Prop} (hmod: prog.main.scope.kind = .module) (hloc: prog.main.scope.names.lookup x=some .local) (hnb: x ≠ "__builtins__")
    (T: zej h₀ mg₀ c Pl s mg poss facts names) (hn: (facts.map (·.1)).contains x=false)
    (q: ∀ s' mg',zej h₀ mg₀ c Pl s' mg' poss ((x,zi3 i) :: facts) (x :: names) -> zcl s s' -> Q .next s') :
    wpAny (model prog w) A (exec (.Assign [.Name x p'] (.Constant (.int i) k p₁) pos) (mainEnv prog c F)) Q E s:=
  zm9 (P:=zi3 i) hmod hloc hnb T hn (zlq i) rfl (fun Q' E' h=>wpAny_Constant_int (h _ _ (fun _ _ e=>e) ⟨rfl,rfl,rfl⟩ fun _ _=>⟨_,rfl⟩)) q
end
theorem zol (env: Env): ∀ as: List Arg,(as.all (·.annotation.isNone))=true -> annotationsOf as env=[]
  | [],_=>rfl
  | ⟨n,none,p⟩ :: r,h=>by
    have: annotationsOf (⟨n,none,p⟩ :: r) env=annotationsOf r env:=rfl
    rw [this]
    exact zol env r (by simpa using h)
  | ⟨n,some a,p⟩ :: r,h=>by simp at h
noncomputable def zom (a: Arguments): Bool:=a.posonlyargs.isEmpty && (a.vararg.isNone && (a.kwonlyargs.isEmpty && (a.kw_defaults.isEmpty && (a.kwarg.isNone && (a.defaults.isEmpty && a.args.all (·.annotation.isNone))))))
theorem zi4 {name: Str} {params: Arguments} {body: List Stmt} {scope: Scope} {pos: Pos} (h: zom params=true): PlainDefTree name params body scope pos:=by
  obtain ⟨po,as,va,ko,kd,kw,df⟩:=params
  cases po with
  | cons=>exact ft h
  | nil=>cases va with
  | some=>exact ft h
  | none=>cases ko with
  | cons=>exact ft h
  | nil=>cases kd with
  | cons=>exact ft h
  | nil=>cases kw with
  | some=>exact ft h
  | none=>cases df with
  | cons=>exact ft h
  | nil=>
    intro env
    have e: (fun e=>annotationsOf (as ++ [] ++ (none: Option Arg).toList ++ [] ++ (none: Option Arg).toList) e ++ ((evalOpt none e).map ((("return" : Str),·))).toList)=fun _=>[]:=by
      funext e
      show annotationsOf (as ++ [] ++ [] ++ [] ++ []) e ++ []=[]
      rw [List.append_nil,List.append_nil,List.append_nil,List.append_nil,List.append_nil,zol e as h]
    show defStmt name name ⟨[],as,none,[],[],none,[]⟩ body scope pos env [] none [] [] (defaultsOf ⟨[],as,none,[],[],none,[]⟩ env) (fun e=>annotationsOf (as ++ [] ++ (none: Option Arg).toList ++ [] ++ (none: Option Arg).toList) e ++ ((evalOpt none e).map ((("return" : Str),·))).toList) (.FunctionDef name ⟨[],as,none,[],[],none,[]⟩ body [] none [] scope none name pos)=_
    rw [e]
    rfl
noncomputable def z1h (p: Program) (d: DefRec): Bool:=zom d.params && d.scope.names.all (fun x=>x.2 != .free) && p.main.scope.names.lookup d.name == some .local &&
  (qualnameIn { scope:=p.main.scope,locals:=mainGlobals,globals:=mainGlobals,cells:=[] } d.name d.name == d.name) && d.name != "__builtins__"
theorem zp1 {p: Program} {d: DefRec} (h: z1h p d=true): d.Plain p:=by
  simp only [z1h,Bool.and_eq_true,List.all_eq_true,bne_iff_ne,beq_iff_eq] at h
  obtain ⟨⟨⟨⟨h1,h2⟩,h3⟩,h4⟩,h5⟩:=h
  exact ⟨zi4 h1,fun x hx=>h2 x hx,h3,h4,h5⟩
theorem zsh {p: Program} {w: World} (hop: opening p=plainProg p.main.scope.names): (∃ s,AfterRun (opening p) w s) /\
    ∀ s,AfterRun (opening p) w s -> s.gens = #[]/\0 < s.toks /\ ∃ mb mg c Pl,BootLeft9 (opening p) s.heap mb mg c Pl:=by
  have hbody: (opening p).main.body=[]:=by rw [hop]; rfl
  have hmore: (opening p).main.more=[]:=by rw [hop]; rfl
  have h9: (∃ s,AfterImport (opening p) w s) /\ ∀ s,AfterImport (opening p) w s -> s.gens = #[] /\ ∃ mb mg c Pl,BootLeft9 (opening p) s.heap mb mg c Pl:=
    AfterImport.of_wp (wpAny_boot9 (M:=model (opening p) w) (A:={}) (E:=fun _ _=>False) (opening p) (fun s'=>(s'.gens = #[] /\ ∃ mb mg c Pl,BootLeft9 (opening p) s'.heap mb mg c Pl)/\s'.gens = #[])
      (fun hp tk mb mg c Pl F hB=>by
        rw [hbody]
        exact codeAny_body rfl rfl (wpAny_execs_nil ⟨⟨_,rfl⟩,⟨rfl,mb,mg,c,Pl,hB⟩,rfl⟩)) hmore _ default boot_in)
  refine ⟨h9.1,fun s hs=>?_⟩
  obtain ⟨hg,hB⟩:=h9.2 s hs
  refine ⟨hg,?_,hB⟩
  have hb:=boot_plain w p.main.scope.names
  rw [<- hop] at hb
  obtain ⟨s',hs',hv⟩:=Option.map_eq_some_iff.mp hb
  rw [<- table_eq_tree] at hs'
  have e:=AfterImport.unique (AfterImport.of_importEnds hs') hs
  subst e
  have: s'.toks=boot_toks:=congrArg (fun x=>x.2.2.2) hv
  rw [this]
  decide
structure zzy (p: Program) (s₁: Shared) (mg mb: Str -> Option Value) (facts: List (Str × Fact)): Prop where
  asleep: s₁.asleep
  gens: s₁.gens = #[]
  g: s₁.heap.Ns mainGlobals mg
  b: s₁.heap.Ns builtinsNs mb
  blt: ∀ x: Str,x ≠ "__name__" -> mb x=bootBuiltins x
  nolimit: s₁.heap.NoLimit
  tok: 0 < s₁.toks
  bmain: BMain s₁.heap mg
  mods: ∃ mm,s₁.heap.Ns sysModules mm
  statics: s₁.heap.Ns cStatics fun _=>none
  held: ∀ q ∈ facts,∃ v Pl,mg q.1=some v/\q.2 Pl v s₁.heap
theorem zx5 {p: Program} {w: World} {facts: List (Str × Fact)} {names: List Str} (hop: opening p=plainProg p.main.scope.names) (hbeh: behindTheImports p=p.main.body) (hf: ∀ s,fenceModules? p s=some s)
    (hann: hasAnns p.main.body=false) (hdoc: docOf p.main.body=none) (hnm: names.all p.boundNames.contains=true) (hnm2: bootMainNames.all (startupNames.contains)=true) (hlaid: laidNames.all (fun x=>!names.contains x)=true)
    (walk: ∀ (s: Shared) (mg mb: Str -> Option Value) (c Pl F: Addr) (Q: Flow -> Shared -> Prop),zej s.heap mg c Pl s mg [] [] [] -> s.heap.Ns builtinsNs mb -> (∀ x: Str,x ≠ "__name__" -> mb x=bootBuiltins x) -> s.heap.NoLimit -> (∀ x,x ∉ bootMainNames -> mg x=none) -> (∃ mm,s.heap.Ns sysModules mm) ->
      (∀ s' mg' poss,zej s.heap mg c Pl s' mg' poss facts names -> zcl s s' -> Q .next s') -> wpAny (model p w) (callerA.deeper (mainEnv p c F)) (execs p.main.body (mainEnv p c F)) Q (fun _ _=>False) s) :
    (∃ s,AfterRun (opening p) w s) /\ ∀ s,AfterRun (opening p) w s -> ∃ s₀,fenceModules? p s=some s₀/\s₀.gens = #[] /\ ∃ s₁,TopRan p w s₀ s₁ /\ ∃ mg mb,zzy p s₁ mg mb facts:=by
  obtain ⟨hex,hall⟩:=zsh (w:=w) hop
  refine ⟨hex,fun s hs=>⟨s,hf s,(hall s hs).1,?_⟩⟩
  obtain ⟨hg,ht,mb,mg,c₀,Pl₀,B⟩:=hall s hs
  have hz: s.asleep:=AfterImport.life hs
  have key:=zlp (prog:=p) (w:=w) (s:=s) (t:=(topStub p).cur) (R:=fun s'=>s'.os=s.os /\ ∃ mg' c Pl poss,s.heap.get? c=none/\s.heap.get? Pl=none/\zej s.heap mg c Pl s' mg' poss facts names) hz ?_
  · obtain ⟨n,s',t',hsch,hthr,hlife,⟨hos,mg',c,Pl,poss,hc,hP,T⟩,hgens⟩:=key
    obtain ⟨l,hm,_⟩:=T.main
    have keep: ∀ b o,b ≠ mainGlobals -> s.heap.get? b=some o -> s'.heap.get? b=some o:=fun b o h1 e=>T.keep b o (fun h=>by rw [h,hP] at e; exact zae e) h1 e
    have b': s'.heap.Ns builtinsNs mb:=B.b.at fun o=>keep _ o (by decide)
    have st': s'.heap.Ns cStatics fun _=>none:=B.statics.at fun o=>keep _ o (by decide)
    have gl: ∀ x,globalOf s'.heap x=mg' x:=fun x=>PySem.Claim2Try.globalOf_of_ns hm.g x
    have gl0: ∀ x,globalOf s.heap x=mg x:=fun x=>PySem.Claim2Try.globalOf_of_ns B.g x
    have bm: ∃ bm o,mg' "__builtins__" = some (.ref bm)/\s'.heap.get? bm=some o/\o.cls = .type "module" /\ o.dict=some builtinsNs:=by
      obtain ⟨bm,o,h1,h2,h3,h4,h5,h6,h7,h8⟩:=hm.bmod
      exact ⟨bm,o,h1,h5,h6,h7⟩
    refine ⟨s',⟨⟨n,t',hsch,hthr⟩,hlife,Shared.rest_eq hos,fun b o e hn=>keep b o (fun h=>hn (.inl h)) e,?_,?_,PySem.Pin.keysAreStrs_of_ns hm.g,?_,?_,?_,?_,?_⟩,mg',mb,
      ⟨Shared.asleep_of_life hlife hz,hgens,hm.g,b',B.builtins,Heap.NoLimit.at ⟨_,B.statics,rfl⟩ fun o=>keep _ o (by decide),T.tok,(by obtain ⟨bm,o,h1,h2,_,_,h5,h6,h7,h8⟩:=hm.bmod; exact ⟨bm,o,h1,h2,h5,h6,h7,h8⟩),?_,st',fun q hq=>by obtain ⟨v,h1,h2⟩:=T.held q hq; exact ⟨v,Pl,h1,h2⟩⟩⟩
    · intro key v hv
      rw [PySem.Pin.staticOf_of_ns st'] at hv; exact zae hv
    · intro key
      exact .inl (by rw [PySem.Pin.staticOf_of_ns st',PySem.Pin.staticOf_of_ns B.statics])
    · intro x hx
      rw [PySem.Pin.builtinOf_of_ns b']
      exact B.builtins x hx
    · obtain ⟨bm,o,h1,h2,h3,h4⟩:=bm
      exact ⟨bm,o,(gl _).trans h1,h2,h3,h4⟩
    · intro g hg'
      rw [hgens] at hg'
      simp at hg'
    · intro x v hv
      rw [gl] at hv
      by_cases hx: x ∈ names
      · exact .inr (List.contains_iff_mem.mp (List.all_eq_true.mp hnm x hx))
      · rw [T.others x hx] at hv
        by_cases hy: x ∈ bootMainNames
        · exact .inl (List.contains_iff_mem.mp (List.all_eq_true.mp hnm2 x hy))
        · rw [B.others x hy] at hv; exact zae hv
    · intro x hx
      rw [gl,gl0]
      have:=List.all_eq_true.mp hlaid x hx
      refine T.others x fun h=>?_
      rw [List.contains_iff_mem.mpr h] at this; exact ft this
    · obtain ⟨mm,hmm,_⟩:=B.noPylong
      exact ⟨mm,hmm.at fun o=>keep _ o (by decide)⟩
  · show wpAny _ _ (do
      let code <- moduleCode p.main
      let frame <- newBodyFrame code mainNs mainNs
      let _ <- run (.body (behindTheImports p) { scope:=p.main.scope,locals:=mainNs,globals:=mainNs,cells:=[],code,frame:=some frame })
      ret .none) _ _ s
    refine wpAny_bind (wpAny_with_toks (Nat.le_refl s.toks) (wpAny_moduleCode fun c Pl h₁ tk₁ hk₁ hc hP hcode htk=>?_))
    have g₁: h₁.Ns mainGlobals mg:=B.g.keeps hk₁
    unfold newBodyFrame
    refine wpAny_bind (wpAny_bind (wpAny_nsGet g₁ (wpAny_alloc ?_)))
    have hlt: ∀ b o,s.heap.get? b=some o -> b < s.heap.objs.size:=fun b o e=>Heap.lt_size e
    have hk₂: ∀ b o,s.heap.get? b=some o -> ∀ o',(h₁.push o').get? b=some o:=fun b o e o'=>Heap.get?_push_of_some _ (hk₁ b o e)
    have fresh: ∀ b,s.heap.objs.size<=b -> s.heap.get? b=none:=fun b hb=>by
      cases hq: s.heap.get? b with
      | none=>rfl
      | some o=>exact absurd (hlt b o hq) (Nat.not_lt.mpr hb)
    rw [hbeh]
    refine wpAny_bind (wpAny_run (codeAny_body hann hdoc (wpAny_mono (walk _ mg mb c Pl _ _ ⟨⟨[],⟨g₁.push _,hcode.push _,⟨Nat.lt_of_lt_of_le B.g.lt hc,Nat.lt_of_lt_of_le B.g.lt hP⟩,?_⟩,rfl⟩,fun _ _ _ _ e=>e,(fun _ h=>nomatch h),(fun _ h=>nomatch h),(fun _ h=>nomatch h),fun _ _=>rfl,?_⟩ ?_ B.builtins ?_ B.others ?_ fun s' mg' poss T r=>?_) (fun _ _ x=>x) fun _ _ x=>x.elim)))
    · obtain ⟨bm,o,h1,h2,h3,h4,h5,h6⟩:=B.bmod
      exact ⟨bm,o,h1,h2,h3,Nat.ne_of_lt (Nat.lt_of_lt_of_le (hlt _ _ h5) hP),hk₂ _ _ h5 _,h6⟩
    · exact Nat.lt_of_lt_of_le ht htk
    · exact B.b.at fun o e=>hk₂ _ _ e _
    · exact Heap.NoLimit.at ⟨_,B.statics,rfl⟩ fun o e=>hk₂ _ _ e _
    · obtain ⟨mm,hmm,_⟩:=B.noPylong
      exact ⟨mm,hmm.at (h':=h₁.push _) fun o e=>hk₂ _ _ e _⟩
    · refine wpAny_pure ⟨_,rfl,⟨r.os,mg',c,Pl,poss,fresh c hc,fresh Pl hP,⟨T.main,fun b o h1 h2 e=>T.keep b o h1 h2 (hk₂ b o e _),T.held,T.stab,T.fnames,T.others,T.tok⟩⟩,r.gens.trans hg⟩
end Mine
namespace Mine
open PySem PySem.W PySem.Calls PyProof.Rows
set_option genCtorIdx true in
inductive Step
  | fn (d: DefRec)
  | txt (x: Str)
  | int (x: Str) (i: Int)
  | set (x: Str) (ks: List Int)
  | dict (x: Str) (tbl: List (Int × Str))
inductive Tree
  | fn (d: DefRec)
  | txt (x t: Str) (k: Nat) (px pc pos: Pos)
  | int (x: Str) (i: Int) (k: Nat) (px pc pos: Pos)
  | set (x: Str) (li: List (Int × Nat × Pos)) (a b: Int) (ka kb: Nat) (px p1 p2 p3 p4 p5 p6 p7 p8 p9 p10 pos: Pos)
  | dict (x: Str) (l: List ((Int × Nat × Pos) × (Str × Nat × Pos))) (px pd pos: Pos)
noncomputable def intE (x: Int × Nat × Pos): Expr:=.Constant (.int x.1) x.2.1 x.2.2
noncomputable def strE (x: Str × Nat × Pos): Expr:=.Constant (.str x.1) x.2.1 x.2.2
noncomputable def Tree.stmt: Tree -> Stmt
  | .fn d=>.FunctionDef d.name d.params d.body [] none [] d.scope none d.name d.pos
  | .txt x t k px pc pos=>.Assign [.Name x px] (.Constant (.str t) k pc) pos
  | .int x i k px pc pos=>.Assign [.Name x px] (.Constant (.int i) k pc) pos
  | .set x li a b ka kb px p1 p2 p3 p4 p5 p6 p7 p8 p9 p10 pos=>.Assign [.Name x px] (.Call (.Name "set" p1) [.BinOp (.List (li.map intE) p2) .Add (.Call (.Name "list" p3) [.Call (.Name "range" p4) [.Constant (.int a) ka p5,.Constant (.int b) kb p6] [] p7] [] p8) p9] [] p10) pos
  | .dict x l px pd pos=>.Assign [.Name x px] (.Dict (l.map fun q=>some (intE q.1)) (l.map fun q=>strE q.2) pd) pos
noncomputable def intsOf: List Expr -> List (Int × Nat × Pos)
  | .Constant (.int i) k p :: r=>(i,k,p) :: intsOf r
  | _=>[]
noncomputable def strsOf: List Expr -> List (Str × Nat × Pos)
  | .Constant (.str i) k p :: r=>(i,k,p) :: strsOf r
  | _=>[]
noncomputable def z1i (x: Str) (px pos: Pos): Expr -> Option Tree
  | .Call (.Name _ p1) [.BinOp (.List es p2) _ (.Call (.Name _ p3) [.Call (.Name _ p4) [.Constant (.int a) ka p5,.Constant (.int b) kb p6] _ p7] _ p8) p9] _ p10=>some (.set x (intsOf es) a b ka kb px p1 p2 p3 p4 p5 p6 p7 p8 p9 p10 pos)
  | .Constant (.int i) k pc=>some (.int x i k px pc pos)
  | .Constant (.str t) k pc=>some (.txt x t k px pc pos)
  | .Dict ks vs pd=>some (.dict x ((intsOf (ks.filterMap id)).zip (strsOf vs)) px pd pos)
  | _=>none
noncomputable def treeOf: Stmt -> Option Tree
  | .FunctionDef name a b _ _ _ sc _ _ pos=>some (.fn ⟨name,a,b,sc,pos⟩)
  | .Assign [.Name x px] v pos=>z1i x px pos v
  | _=>none
noncomputable def Tree.step: Tree -> Step
  | .fn d=>.fn d
  | .txt x _ _ _ _ _=>.txt x
  | .int x i _ _ _ _=>.int x i
  | .set x li a b _ _ _ _ _ _ _ _ _ _ _ _ _ _=>.set x (li.map (·.1) ++ (List.range (Builtin.Range.rangeSize a b 1).toNat).map fun (k: Nat)=>a + (k: Int))
  | .dict x l _ _ _=>.dict x (l.map fun q=>(q.1.1,q.2.1))
noncomputable def kvP (env: Env) (pos: Pos) (q: (Int × Nat × Pos) × (Str × Nat × Pos)): Sem Value × Sem Value:=(eval (intE q.1) env,do let x <- eval (strE q.2) env; standAt pos; pure x)
theorem zp2 (env: Env) (pos: Pos): ∀ l: List ((Int × Nat × Pos) × (Str × Nat × Pos)),zbu (l.map (kvP env pos)) (l.map fun q=>(q.1.1,q.2.1)) /\
    (evalEachOpt (l.map fun q=>some (intE q.1)) env).zip ((evalEach (l.map fun q=>strE q.2) env).map fun v=>do let x <- v; standAt pos; pure x)=(l.map (kvP env pos)).map fun p=>(some p.1,p.2):=by
  intro zz
  induction zz with
  | nil=>exact ⟨.nil,rfl⟩
  | cons q l ih=>
    obtain ⟨g1,g2⟩:=ih
    refine ⟨.cons (fun M A Q E s q=>wpAny_Constant_int (q _ _)) (fun M A Q E s q=>wpAny_bind (Constant_str (wpAny_bind (wpAny_standAt (wpAny_pure (q _ _)))))) g1,?_⟩
    rw [List.map_cons,List.map_cons,arm_evalEachOpt_cons,arm_evalEach_cons,arm_evalOpt_some,List.map_cons,List.zip_cons_cons,g2]
    rfl
noncomputable def rising: List Int -> Bool
  | a :: b :: r=>decide (a < b) && rising (b :: r)
  | _=>true
theorem zuz (a b: Int) (r: List Int): rising (a :: b :: r)=(decide (a < b) && rising (b :: r)):=rfl
theorem zu0: ∀ {l: List Int} {a: Int},rising (a :: l)=true -> ∀ b ∈ l,a < b:=by
  intro zz
  induction zz with
  | nil=>intro a _ b h; simp at h
  | cons c l ih=>
    intro a hr b h
    rw [zuz,Bool.and_eq_true,decide_eq_true_eq] at hr
    rcases List.mem_cons.mp h with rfl | h
    · exact hr.1
    · exact Int.lt_trans hr.1 (ih hr.2 b h)
theorem zp3 {l: List Int} {a: Int} (h: rising (a :: l)=true): rising l=true:=by
  cases l with
  | nil=>rfl
  | cons b r=>rw [zuz,Bool.and_eq_true] at h; exact h.2
theorem zjo: ∀ {l: List Int},rising l=true -> l.Nodup:=by
  intro zz
  induction zz with
  | nil=>exact fun _=>List.nodup_nil
  | cons a l ih=>exact fun h=>List.nodup_cons.mpr ⟨fun hm=>Int.lt_irrefl _ (zu0 h a hm),ih (zp3 h)⟩
noncomputable def Tree.ok: Tree -> Bool
  | .set _ li a b _ _ _ _ _ _ _ _ _ _ _ _ _ _=>zbk a b 1 && decide (li.length + (zan a b 1).length < 4000)
  | .dict _ l _ _ _=>rising (l.map fun q=>q.1.1) && decide (l.length<=4000) && !l.isEmpty
  | _=>true
noncomputable def zi5 (prog: Program) (w: World) (ks: List Int): Fact:=zp0 fun a h=>∃ n,h.SetOf (intKind prog w) a (fun k=>ks.contains k) n
noncomputable def zge (prog: Program) (w: World) (tbl: List (Int × Str)): Fact:=zp0 fun a h=>∃ l,h.DictOf (intKind prog w) a l/\zer l tbl/\a ≠ sysModules
theorem zlr {prog: Program} {w: World} {ks: List Int}: zkp (zi5 prog w ks):=zgw fun a h h' k z=>by obtain ⟨n,o,es,ep,t,ho,r⟩:=z; exact ⟨n,o,es,ep,t,k o ho,r⟩
theorem zkq {prog: Program} {w: World} {tbl: List (Int × Str)}: zkp (zge prog w tbl):=zgw fun a h h' k z=>by obtain ⟨l,⟨o,es,ep,ho,r⟩,t⟩:=z; exact ⟨l,⟨o,es,ep,k o ho,r⟩,t⟩
noncomputable def Step.name: Step -> Str
  | .fn d=>d.name
  | .txt x=>x
  | .int x _=>x
  | .set x _=>x
  | .dict x _=>x
noncomputable def Step.facts (prog: Program) (w: World): Step -> List (Str × Fact)
  | .fn d=>[(d.name,zmf d)]
  | .txt _=>[]
  | .int x i=>[(x,zi3 i)]
  | .set x ks=>[(x,zi5 prog w ks)]
  | .dict x tbl=>[(x,zge prog w tbl)]
noncomputable def Step.keys: Step -> List Str
  | .txt _=>[]
  | st=>[st.name]
theorem Step.facts_keys (prog: Program) (w: World) (st: Step): (st.facts prog w).map (·.1)=st.keys:=by cases st <;> rfl
noncomputable def Step.poss: Step -> List (Nat × Nat)
  | .fn d=>[(d.pos.line,d.pos.col)]
  | _=>[]
noncomputable def okFn (p: Program) (poss: List (Nat × Nat)): Step -> Bool
  | .fn d=>z1h p d && !poss.contains (d.pos.line,d.pos.col)
  | _=>true
noncomputable def zrd (p: Program) (poss: List (Nat × Nat)) (keys: List Str) (st: Step): Bool:=
  !keys.contains st.name && (p.main.scope.names.lookup st.name == some .local && (st.name != "__builtins__" && (st.name != "set" && (st.name != "list" && (st.name != "range" && okFn p poss st)))))
inductive z4a (p: Program) (poss: List (Nat × Nat)) (keys: List Str) (st: Step): Prop where
  | mk (k1: keys.contains st.name=false) (k2: p.main.scope.names.lookup st.name=some .local) (k3: st.name ≠ "__builtins__") (n1: st.name ≠ "set") (n2: st.name ≠ "list") (n3: st.name ≠ "range") (k4: okFn p poss st=true)
theorem nott {b: Bool} (h: (!b)=true): b=false:=by cases b with
  | false=>rfl
  | true=>exact ft h
theorem zmg {p: Program} {poss: List (Nat × Nat)} {keys: List Str} {st: Step} (h: zrd p poss keys st=true): z4a p poss keys st:=by
  have h1:=Bool.and_eq_true_iff.mp h
  have h2:=Bool.and_eq_true_iff.mp h1.2
  have h3:=Bool.and_eq_true_iff.mp h2.2
  have h4:=Bool.and_eq_true_iff.mp h3.2
  have h5:=Bool.and_eq_true_iff.mp h4.2
  have h6:=Bool.and_eq_true_iff.mp h5.2
  exact ⟨nott h1.1,eq_of_beq h2.1,bne_iff_ne.mp h3.1,bne_iff_ne.mp h4.1,bne_iff_ne.mp h5.1,bne_iff_ne.mp h6.1,h6.2⟩
noncomputable def zkr (p: Program): List (Nat × Nat) -> List Str -> List Step -> Bool
  | _,_,[]=>true
  | poss,keys,st :: r=>zrd p poss keys st && zkr p (poss ++ st.poss) (st.keys ++ keys) r
theorem zx6 (p: Program) (poss: List (Nat × Nat)) (keys: List Str) (st: Step) (r: List Step): zkr p poss keys (st :: r)=(zrd p poss keys st && zkr p (poss ++ st.poss) (st.keys ++ keys) r):=rfl
noncomputable def zfw (prog: Program) (w: World): List Step -> List (Str × Fact) -> List (Str × Fact)
  | [],fs=>fs
  | st :: r,fs=>zfw prog w r (st.facts prog w ++ fs)
noncomputable def zjy: List Step -> List Str -> List Str
  | [],ns=>ns
  | st :: r,ns=>zjy r (st.name :: ns)
section
variable {prog: Program} {w: World} {A: Around} {E: Value -> Shared -> Prop} {c Pl F: Addr} {h₀: Heap} {mg₀ mb: Str -> Option Value}
theorem zej.nil {s: Shared} {mg: Str -> Option Value} {poss: List (Nat × Nat)} {facts: List (Str × Fact)} {names: List Str} (T: zej h₀ mg₀ c Pl s mg poss facts names): zej h₀ mg₀ c Pl s mg (poss ++ []) facts names:=(List.append_nil poss).symm ▸ T
theorem zx7 {s: Shared} {mg: Str -> Option Value} {poss: List (Nat × Nat)} {facts: List (Str × Fact)} {names: List Str} {stmt: Stmt} {st: Step} {tr: Tree} {Q: Flow -> Shared -> Prop} (hmod: prog.main.scope.kind = .module) (hh: A.handled=none) (hst: stmt=tr.stmt) (hst2: st=tr.step) (htr: tr.ok=true)
    (T: zej h₀ mg₀ c Pl s mg poss facts names) (ok: zrd prog poss (facts.map (·.1)) st=true)
    (hb: h₀.Ns builtinsNs mb) (blt: ∀ x: Str,x ≠ "__name__" -> mb x=bootBuiltins x) (nl: h₀.NoLimit) (oth: ∀ x,x ∉ bootMainNames -> mg₀ x=none) (hPl: mainGlobals < Pl) (hsm: ∃ mm,h₀.Ns sysModules mm) (hns: names.contains "set" = false/\names.contains "list" = false/\names.contains "range" = false)
    (q: ∀ s' mg',zej h₀ mg₀ c Pl s' mg' (poss ++ st.poss) (st.facts prog w ++ facts) (st.name :: names) -> zcl s s' -> Q .next s') :
    wpAny (model prog w) A (exec stmt (mainEnv prog c F)) Q E s:=by
  obtain ⟨k1,k2,k3,_,_,_,k4⟩:=zmg ok
  have hb': s.heap.Ns builtinsNs mb:=hb.at fun o=>T.keep _ o (Nat.ne_of_lt (Nat.lt_trans (by decide) hPl)) (by decide)
  have nl': s.heap.NoLimit:=nl.at fun o=>T.keep _ o (Nat.ne_of_lt (Nat.lt_trans (by decide) hPl)) (by decide)
  have hsm': sysModules < s.heap.objs.size:=by obtain ⟨mm,x⟩:=hsm; exact (x.at (h':=s.heap) fun o=>T.keep _ o (Nat.ne_of_lt (Nat.lt_trans (by decide) hPl)) (by decide)).lt
  have hg: s.heap.Ns mainGlobals mg:=by obtain ⟨_,m,_⟩:=T.main; exact m.g
  have hPlive: ∃ o,s.heap.get? Pl=some o:=by
    obtain ⟨l,m,_⟩:=T.main
    obtain ⟨_,_,_,_,_,_,_,_,_,op,_,_,_,_,_,_,_,e,_⟩:=m.code
    exact ⟨op,e⟩
  have hGlive: ∃ o,s.heap.get? mainGlobals=some o:=by obtain ⟨o,_,_,e,_⟩:=hg; exact ⟨o,e⟩
  have newNe: ∀ d,s.heap.get? d=none -> d ≠ Pl/\d ≠ mainGlobals:=by
    intro d hd
    constructor
    · intro e
      obtain ⟨o,ho⟩:=hPlive
      rw [e,ho] at hd; cases hd
    · intro e
      obtain ⟨o,ho⟩:=hGlive
      rw [e,ho] at hd; cases hd
  subst hst2 hst
  cases tr with
  | fn d=>
    have k5:=Bool.and_eq_true_iff.mp k4
    exact z1f (zp1 k5.1) hmod T k1 (nott k5.2) q
  | int x i k px pc pos=>exact z1g hmod k2 k3 T k1 fun s' mg' T'=>q s' mg' T'.nil
  | txt x t k px pc pos=>exact zx4 hmod k2 k3 T k1 fun s' mg' T'=>q s' mg' T'.nil
  | set x li a b ka kb px p1 p2 p3 p4 p5 p6 p7 p8 p9 p10 pos=>
    have hr:=Bool.and_eq_true_iff.mp htr
    have mgn: ∀ x: Str,names.contains x=false -> x ∉ bootMainNames -> mg x=none:=fun x h1 h2=>by
      rw [T.others x (fun h=>by rw [List.contains_iff_mem.mpr h] at h1; exact tf h1)]; exact oth x h2
    refine zm9 (P:=zi5 prog w _) hmod k2 k3 T k1 zlr rfl (fun Q' E' h=>zx3 hmod hh hg hb' nl' T.tok (mgn _ hns.1 (by decide)) (mgn _ hns.2.1 (by decide)) (mgn _ hns.2.2 (by decide))
      ((blt _ (by decide)).trans zx2) ((blt _ (by decide)).trans zuy) ((blt _ (by decide)).trans zsg) hr.1 (of_decide_eq_true hr.2) fun h' tk d n hk hd hS=>h _ _ hk ⟨rfl,rfl,rfl⟩ fun h'' k=>?_) fun s' mg' T'=>q s' mg' T'.nil
    obtain ⟨e1,e2⟩:=newNe d hd
    obtain ⟨o,es,ep,t,ho,r⟩:=hS
    exact ⟨d,rfl,e1,e2,n,o,es,ep,t,k _ _ e1 e2 ho,r⟩
  | dict x l px pd pos=>
    have hr: (rising (l.map fun q=>q.1.1) && decide (l.length<=4000) && !l.isEmpty)=true:=htr
    rw [Bool.and_eq_true,Bool.and_eq_true] at hr
    obtain ⟨g1,g2⟩:=zp2 (mainEnv prog c F) pd l
    refine zm9 (P:=zge prog w _) hmod k2 k3 T k1 zkq rfl (fun Q' E' h=>?_) fun s' mg' T'=>q s' mg' T'.nil
    rw [arm_eval_Dict,g2]
    refine wpAny_bind (wpAny_standAt (zoj hsm' (by rw [List.map_map]; exact zjo hr.1.1) (by rw [List.length_map,sizeLine_eq]; exact Nat.le_trans (of_decide_eq_true hr.1.2) (by decide)) (fun e=>by rw [List.map_eq_nil_iff] at e; subst e; exact absurd hr.2 (by decide)) g1 fun h' tk d l' hd hD hT hk=>h _ _ hk ⟨rfl,rfl,rfl⟩ fun h'' k=>?_))
    have hdn: s.heap.get? d=none:=by
      cases hq: s.heap.get? d with
      | none=>rfl
      | some o=>exact absurd (Heap.lt_size hq) (Nat.not_lt.mpr hd)
    obtain ⟨e1,e2⟩:=newNe d hdn
    obtain ⟨o,es,ep,ho,r⟩:=hD
    exact ⟨d,rfl,e1,e2,l',⟨o,es,ep,k _ _ e1 e2 ho,r⟩,hT,Nat.ne_of_gt (Nat.lt_of_lt_of_le hsm' hd)⟩
theorem zu1 (hmod: prog.main.scope.kind = .module) (hh: A.handled=none) (hb: h₀.Ns builtinsNs mb) (blt: ∀ x: Str,x ≠ "__name__" -> mb x=bootBuiltins x) (nl: h₀.NoLimit) (oth: ∀ x,x ∉ bootMainNames -> mg₀ x=none) (hPl: mainGlobals < Pl) (hsm: ∃ mm,h₀.Ns sysModules mm) :
    ∀ (trs: List Tree) (s: Shared) (mg: Str -> Option Value) (poss: List (Nat × Nat)) (facts: List (Str × Fact)) (names: List Str) (Q: Flow -> Shared -> Prop),trs.all Tree.ok=true -> zej h₀ mg₀ c Pl s mg poss facts names -> zkr prog poss (facts.map (·.1)) (trs.map Tree.step)=true ->
      names.contains "set" = false/\names.contains "list" = false/\names.contains "range" = false ->
      (∀ s' mg' poss',zej h₀ mg₀ c Pl s' mg' poss' (zfw prog w (trs.map Tree.step) facts) (zjy (trs.map Tree.step) names) -> zcl s s' -> Q .next s') -> wpAny (model prog w) A (execs (trs.map Tree.stmt) (mainEnv prog c F)) Q E s:=by
  intro zz
  induction zz with
  | nil=>exact fun s mg poss facts names Q _ T _ _ q=>wpAny_execs_nil (q s mg poss T ⟨rfl,rfl,rfl⟩)
  | cons tr trs ih=>
    intro s mg poss facts names Q h T ok hns q
    rw [List.all_cons,Bool.and_eq_true] at h
    rw [List.map_cons,zx6,Bool.and_eq_true] at ok
    refine wpAny_execs_cons (zx7 hmod hh rfl rfl h.1 T ok.1 hb blt nl oth hPl hsm hns fun s₁ mg₁ T₁ r₁=>?_)
    refine ih s₁ mg₁ _ _ _ Q h.2 T₁ (by rw [List.map_append,Step.facts_keys]; exact ok.2) ?_ fun s' mg' poss' T' r'=>q s' mg' poss' T' (r₁.trans r')
    obtain ⟨_,_,_,n1,n2,n3,_⟩:=zmg ok.1
    refine ⟨?_,?_,?_⟩
    · rw [List.contains_cons,hns.1,Bool.or_false,beq_eq_false_iff_ne]; exact fun e=>n1 e.symm
    · rw [List.contains_cons,hns.2.1,Bool.or_false,beq_eq_false_iff_ne]; exact fun e=>n2 e.symm
    · rw [List.contains_cons,hns.2.2,Bool.or_false,beq_eq_false_iff_ne]; exact fun e=>n3 e.symm
end
end Mine
namespace Mine
open PySem PySem.W PySem.Calls PyProof.Rows
noncomputable def trees (p: Program): List Tree:=p.main.body.filterMap treeOf
noncomputable def steps (p: Program): List Step:=(trees p).map Tree.step
noncomputable def z1j (p: Program): Bool:=(trees p).all Tree.ok && zkr p [] [] (steps p) && !hasAnns p.main.body && (docOf p.main.body).isNone && (importedModules p.main.body).isEmpty &&
  (zjy (steps p) []).all p.boundNames.contains && laidNames.all (fun x=>!(zjy (steps p) []).contains x) && p.main.scope.kind == .module
theorem zu2 {p: Program} {w: World} (ok: z1j p=true) (hbody: (trees p).map Tree.stmt=p.main.body) (hop: opening p=plainProg p.main.scope.names) (hbeh: behindTheImports p=p.main.body) (hf: ∀ s,fenceModules? p s=some s) :
    (∃ s,AfterRun (opening p) w s) /\ ∀ s,AfterRun (opening p) w s -> ∃ s₀,fenceModules? p s=some s₀/\s₀.gens = #[] /\ ∃ s₁,TopRan p w s₀ s₁ /\ ∃ mg mb,zzy p s₁ mg mb (zfw p w (steps p) []):=by
  simp only [z1j,Bool.and_eq_true,Bool.not_eq_true',Option.isNone_iff_eq_none,List.isEmpty_iff,beq_iff_eq] at ok
  obtain ⟨⟨⟨⟨⟨⟨⟨h1,h2⟩,h3⟩,h4⟩,_⟩,h6⟩,h7⟩,h8⟩:=ok
  refine zx5 hop hbeh hf h3 h4 h6 (by decide +kernel) h7 fun s mg mb c Pl F Q T hb blt nl oth hsm q=>?_
  have hPl: mainGlobals < Pl:=by obtain ⟨_,m,_⟩:=T.main; exact m.low.2
  rw [<- hbody]
  exact zu1 h8 (by rfl) hb blt nl oth hPl hsm _ s mg [] [] [] Q h1 T h2 ⟨rfl,rfl,rfl⟩ q
noncomputable def Local (P: Fact): Prop:=∀ Pl v h,P Pl v h -> (∃ o,h.get? 3=some o) -> ∃ k o,h.get? k=some o /\ ∀ h',(∀ b o,b<=k -> h.get? b=some o -> h'.get? b=some o) -> P Pl v h'
theorem zu3 {p: Nat -> Prop} {a b: Nat} (ha: p a) (hb: p b): ∃ k,p k/\a<=k/\b<=k:=(Nat.le_total a b).elim (fun q=>⟨b,hb,q,Nat.le_refl _⟩) fun q=>⟨a,ha,Nat.le_refl _,q⟩
theorem zon (d: DefRec): Local (zmf d):=fun Pl v h z _=>by
  obtain ⟨a,o,pm,code,doc,P,e,n1,n2,ho,hd,hc,n3,n4,hh,hP,n5,n6⟩:=z
  obtain ⟨k₁,h1,l1,l2⟩:=zu3 (p:=fun k=>∃ o,h.get? k=some o) ⟨o,ho⟩ ⟨_,hP⟩
  have q₂: ∃ o,h.get? code=some o:=by obtain ⟨_,oc,_,_,e₂,g,_⟩:=hc; obtain rfl:=Value.ref.inj e₂; exact ⟨oc,g⟩
  obtain ⟨k,⟨o',h2⟩,l3,l4⟩:=zu3 (p:=fun k=>∃ o,h.get? k=some o) h1 q₂
  exact ⟨k,o',h2,fun h' kk=>⟨a,o,pm,code,doc,P,e,n1,n2,kk a o (Nat.le_trans l1 l3) ho,hd,hc.at fun o=>kk code o l4,n3,n4,zia hh fun o=>kk code o l4,kk P _ (Nat.le_trans l2 l3) hP,n5,n6⟩⟩
theorem zna (i: Int): Local (zi3 i):=fun _ _ _ h z=>z.elim fun o e=>⟨3,o,e,fun _ _=>h⟩
theorem znb {prog: Program} {w: World} {ks: List Int}: Local (zi5 prog w ks):=fun Pl v h z _=>by obtain ⟨a,e,n1,n2,n,o,es,ep,t,ho,r⟩:=z; exact ⟨a,o,ho,fun h' k=>⟨a,e,n1,n2,n,o,es,ep,t,k a o (Nat.le_refl _) ho,r⟩⟩
theorem zls {prog: Program} {w: World} {tbl: List (Int × Str)}: Local (zge prog w tbl):=fun Pl v h z _=>by obtain ⟨a,e,n1,n2,l,⟨o,es,ep,ho,r⟩,t⟩:=z; exact ⟨a,o,ho,fun h' k=>⟨a,e,n1,n2,l,⟨o,es,ep,k a o (Nat.le_refl _) ho,r⟩,t⟩⟩
theorem zib {prog: Program} {w: World}: ∀ (sts: List Step) (fs: List (Str × Fact)),(∀ q ∈ fs,Local q.2) -> ∀ q ∈ zfw prog w sts fs,Local q.2
  | [],fs,h=>h
  | st :: r,fs,h=>zib r _ fun q hq=>by
    rcases List.mem_append.mp hq with hq | hq
    · cases st <;> simp only [Step.facts,List.mem_singleton,List.not_mem_nil] at hq <;> subst hq
      · exact zon _
      · exact zna _
      · exact znb
      · exact zls
    · exact h q hq
theorem z1k {mg: Str -> Option Value} {h: Heap} (h3: ∃ o,h.get? 3=some o): ∀ (facts: List (Str × Fact)),(∀ q ∈ facts,Local q.2) -> (∀ q ∈ facts,∃ v Pl,mg q.1=some v/\q.2 Pl v h) ->
    ∃ k o,3<=k/\h.get? k=some o /\ ∀ q ∈ facts,∃ v Pl,mg q.1=some v /\ ∀ h',(∀ b o,b<=k -> h.get? b=some o -> h'.get? b=some o) -> q.2 Pl v h':=by
  intro zz
  induction zz with
  | nil=>intro _ _; obtain ⟨o,e⟩:=h3; exact ⟨3,o,Nat.le_refl _,e,fun _ h=>nomatch h⟩
  | cons q r ih=>
    intro hl hh
    obtain ⟨k,o,k3,ho,hr⟩:=ih (fun p hp=>hl p (List.mem_cons_of_mem _ hp)) (fun p hp=>hh p (List.mem_cons_of_mem _ hp))
    obtain ⟨v,Pl,hv,hP⟩:=hh q List.mem_cons_self
    obtain ⟨k',o',ho',hk'⟩:=hl q List.mem_cons_self Pl v h hP h3
    have key: ∀ p ∈ q :: r,∃ v Pl,mg p.1=some v /\ ∀ h',(∀ b o,b<=max k k' -> h.get? b=some o -> h'.get? b=some o) -> p.2 Pl v h':=fun p hp=>by
      rcases List.mem_cons.mp hp with rfl | hp
      · exact ⟨v,Pl,hv,fun h' k=>hk' h' fun b o hb=>k b o (Nat.le_trans hb (Nat.le_max_right ..))⟩
      · obtain ⟨v,Pl,hv,hP⟩:=hr p hp
        exact ⟨v,Pl,hv,fun h' k=>hP h' fun b o hb=>k b o (Nat.le_trans hb (Nat.le_max_left ..))⟩
    rcases Nat.le_total k k' with z | z
    · rw [Nat.max_eq_right z] at key; exact ⟨k',o',Nat.le_trans k3 z,ho',key⟩
    · rw [Nat.max_eq_left z] at key; exact ⟨k,o,k3,ho,key⟩
theorem zx8 {mg: Str -> Option Value} {h: Heap} (h3: ∃ o,h.get? 3=some o) {bm: Addr} {ob: Obj} (hb: h.get? bm=some ob) (facts: List (Str × Fact)) (hl: ∀ q ∈ facts,Local q.2) (hh: ∀ q ∈ facts,∃ v Pl,mg q.1=some v/\q.2 Pl v h) :
    ∃ k o,3<=k/\bm<=k/\h.get? k=some o /\ ∀ q ∈ facts,∃ v Pl,mg q.1=some v /\ ∀ h',(∀ b o,b<=k -> h.get? b=some o -> h'.get? b=some o) -> q.2 Pl v h':=by
  obtain ⟨k,o,k3,ho,hr⟩:=z1k h3 facts hl hh
  rcases Nat.le_total bm k with q | q
  · exact ⟨k,o,k3,q,ho,hr⟩
  · exact ⟨bm,ob,Nat.le_trans k3 q,Nat.le_refl _,hb,fun p hp=>by obtain ⟨v,Pl,hv,hP⟩:=hr p hp; exact ⟨v,Pl,hv,fun h' kk=>hP h' fun b o hb=>kk b o (Nat.le_trans hb q)⟩⟩
structure zes (p: Program) (w: World) (s: Shared) (mg mb: Str -> Option Value) (k: Addr) (ad: Addr) (ns: List Int): Prop where
  gens: s.gens = #[]
  g: s.heap.Ns mainGlobals mg
  b: s.heap.Ns builtinsNs mb
  blt: ∀ x: Str,x ≠ "__name__" -> mb x=bootBuiltins x
  nolimit: s.heap.NoLimit
  tok: 0 < s.toks
  k3: 3<=k
  live: ∃ o,s.heap.get? k=some o
  held: ∀ q ∈ zfw p w (steps p) [],∃ v Pl,mg q.1=some v /\ ∀ h',(∀ b o,b<=k -> s.heap.get? b=some o -> h'.get? b=some o) -> q.2 Pl v h'
  lo: k < ad
  oth: ∀ x v,mg x=some v -> x ∈ startupNames \/ x ∈ p.boundNames
  script: ∃ vs,s.heap.get? ad=some (za5 vs 0)/\IntsAre vs ns
  bmain: ∃ bm ob,bm<=k/\mg "__builtins__" = some (.ref bm)/\bm ≠ builtinsNs/\s.heap.get? bm=some ob/\ob.cls = .type "module" /\ ob.dict=some builtinsNs/\ob.data = .plain
noncomputable def OldO (h h': Heap) (b: Addr) (o: Obj): Prop:=h'.get? b=some o \/ (isCodeTable h b/\o=tabObj #[] /\ ∃ ps,h'.get? b=some (tabObj ps))
theorem OldO.asItWas {h h': Heap} {b: Addr} {o: Obj} (x: OldO h h' b o): asItWas h h' b o:=by
  rcases x with x | ⟨x,rfl,ps,e⟩
  · exact .inl x
  · exact .inr (.inl ⟨x,rfl,#[],ps,rfl,by rw [Array.empty_append]; exact e⟩)
theorem zsi {R: WRecords} {cl: Str -> Option Addr} {h: Heap} {vs: List Value} {ns: List Int} (x: IntsAre vs ns): ReadsAllW R cl h vs (ns.map .int) []:=by
  induction x with
  | nil=>exact .nil
  | cons i t _ ih=>exact .cons (.int i t) ih
theorem zoo {R: WRecords} {cl: Str -> Option Addr} {P: Params} {ord: List DictEntry -> List DictEntry}: ∀ (ns: List Int) (s: Shared),∃ vs k,layAllW R cl P ord (ns.map .int) s=some (vs,{ s with toks:=k })/\s.toks<=k/\IntsAre vs ns:=by
  intro zz
  induction zz with
  | nil=>exact fun s=>⟨[],s.toks,by simp [layAllW],Nat.le_refl _,.nil⟩
  | cons n ns ih=>
    intro s
    obtain ⟨vs,k,h1,h2,h3⟩:=ih { s with toks:=s.toks + 1 }
    refine ⟨.int n s.toks :: vs,k,?_,Nat.le_of_succ_le h2,.cons _ _ h3⟩
    simp only [List.map_cons,layAllW,layW,h1]
theorem zsj {R: WRecords} {cl: Str -> Option Addr} {P: Params} {ord: List DictEntry -> List DictEntry} (ns: List Int) (s: Shared) :
    ∃ vs k,layAllW R cl P ord [.list (ns.map .int)] s=some ([.ref s.heap.objs.size],{ s with heap:=s.heap.push (za5 vs 0),toks:=k })/\s.toks<=k/\IntsAre vs ns:=by
  obtain ⟨vs,k,h1,h2,h3⟩:=zoo (R:=R) (cl:=cl) (P:=P) (ord:=ord) ns s
  exact ⟨vs,k,by simp only [layAllW,layW,h1],h2,h3⟩
theorem zsk {R: WRecords} {cl: Str -> Option Addr} {h: Heap} {ad: Addr} {vs: List Value} {ns: List Int} (e: h.get? ad=some (za5 vs 0)) (x: IntsAre vs ns): ReadsAllW R cl h [.ref ad] [.list (ns.map .int)] [ad]:=
  .cons (.list (as:=[]) e rfl rfl (zsi x)) .nil
theorem zp4 {l: OpenLaw} (hm: l.most=some 63) (hb: l.bound=none) {args: List WData} (h: l.row.toRowW.claim.pre args=true): ∃ ns: List Int,args=[.list (ns.map .int)]/\ns.length<=63:=by
  obtain ⟨h1,h2⟩:=pre_splitW h
  obtain ⟨d,r,rfl,h3,h4⟩:=hasAllW_cons (e:=.list .int) (es:=[]) h1
  obtain rfl:=hasAllW_nil h4
  obtain ⟨xs,rfl,h5⟩:=hasW_list h3
  obtain ⟨ns,rfl⟩:=items_int h5
  refine ⟨ns,rfl,?_⟩
  have h2': (l.pre.holds [] { args:=[.list (ns.map .int)] })=true:=h2
  rcases Nat.lt_or_ge 63 ns.length with q | q
  · have e: less? (WData.int 63) (WData.int (ns.length: Int))=some true:=congrArg some (decide_eq_true (Int.ofNat_lt.mpr q))
    unfold OpenLaw.pre WTm.holds at h2'
    rw [hm,hb] at h2'
    simp [WTm.value,e] at h2'
  · exact q
theorem zic {prog: Program} {w: World} {d: DefRec}: ∀ (sts: List Step) (fs: List (Str × Fact)),(Step.fn d ∈ sts \/ (d.name,zmf d) ∈ fs) -> (d.name,zmf d) ∈ zfw prog w sts fs:=by
  intro zz
  induction zz with
  | nil=>
    intro fs h
    rcases h with h | h
    · cases h
    · exact h
  | cons st r ih=>
    intro fs h
    refine ih _ ?_
    rcases h with h | h
    · rcases List.mem_cons.mp h with rfl | h
      · exact .inr (List.mem_append_left _ (by simp [Step.facts]))
      · exact .inl h
    · exact .inr (List.mem_append_right _ h)
theorem zu4 (l: OpenLaw) (args ds: List WData): l.row.toRowW.claim.post args (.bool true) ds=true:=by
  refine Bool.and_eq_true_iff.mpr ⟨rfl,?_⟩
  show (WTm.eq .res (.lit (.bool true))).holds [] { args:=args,res:=some (.bool true),after:=ds } = true
  simp [WTm.holds,WTm.value]
  have: same (WData.bool true) (WData.bool true)=true:=by decide +kernel
  rw [this]
theorem law_holds {l: OpenLaw} {d: DefRec} (said: l.wellSaid=true) (hm: l.most=some 63) (hb: l.bound=none) (hwr: l.writes=false) (ok: z1j l.prog=true) (hbody: (trees l.prog).map Tree.stmt=l.prog.main.body) (hop: opening l.prog=plainProg l.prog.main.scope.names) (hbeh: behindTheImports l.prog=l.prog.main.body)
    (hf: ∀ s,fenceModules? l.prog s=some s) (hbare: l.prog.bare) (hopens: opensWell l.prog=true) (hprom: l.row.toRowW.promised) (hstep: Step.fn d ∈ steps l.prog) (hname: d.name=l.name) (hdef: l.prog.theDef l.name=some (d.params,d.body,d.scope)) (hpar: d.params.defaults=[])
    (hkw: kwWritten? d.params.kwonlyargs d.params.kw_defaults=some [])
    (call: ∀ (w: World) (s: Shared) (mg mb: Str -> Option Value) (k ad: Addr) (ns: List Int),ns.length<=63 -> zes l.prog w s mg mb k ad ns -> ∀ f,mg l.name=some f -> ∀ (Q E: Value -> Shared -> Prop),
      (∀ s',(∀ b o,s.heap.get? b=some o -> OldO s.heap s'.heap b o) -> s'.os=s.os -> s'.gens = #[] -> Q (.bool true) s') -> wpAny (model l.prog w) callerA (PySem.call f [.ref ad]) Q E s): l.Holds:=by
  refine ⟨said,row_said said,hprom,⟨hbare,hopens,rfl⟩,hprom.witness,fun w=>⟨(zu2 (w:=w) ok hbody hop hbeh hf).1,fun s' hs'=>?_⟩⟩
  obtain ⟨s₀,hf0,hg0,s,hT,mg,mb,H⟩:=(zu2 (w:=w) ok hbody hop hbeh hf).2 s' hs'
  refine ⟨s₀,hf0,hg0,s,hT,fun n hn=>?_,(fun _ h=>nomatch h),(fun _ h=>nomatch h),?_⟩
  · have hn': n=l.name:=by
      have: n ∈ [l.name]:=hn
      simpa using this
    subst hn'
    obtain ⟨v,Pl,hv,a,o,pm,code,doc,_,rfl,_,_,ho,hd,_⟩:=H.held _ (zic (d:=d) (steps l.prog) [] (.inl hstep))
    refine ⟨a,o,_,d.params,d.body,d.scope,?_,ho,hd,hdef,hname,hname,rfl,rfl,rfl,rfl,rfl,rfl,.inl ⟨hpar,rfl⟩,[],hkw,.inl ⟨rfl,rfl⟩⟩
    rw [PySem.Claim2Try.globalOf_of_ns H.g,<- hname]; exact hv
  · refine ClaimW.callFrom_of_specG (c:=l.row.toRowW.claim) (tree:=fun vs=>do match <- nsGet mainNs l.name with
      | some f=>do ret (<- PySem.call f vs)
      | none=>unsupported "claim.caller:no-such-global") H.asleep H.gens fun args hpre hlay ord hord=>?_
    obtain ⟨ns,rfl,hlen⟩:=zp4 hm hb hpre
    obtain ⟨vs,k,h1,h2,h3⟩:=zsj (R:=l.row.toRowW.claim.records) (cl:=classAt s.heap) (P:=w.params) (ord:=ord) ns s
    refine ⟨_,_,h1,?_⟩
    have keep: ∀ b o,s.heap.get? b=some o -> (s.heap.push (za5 vs 0)).get? b=some o:=fun b o e=>Heap.get?_push_of_some _ e
    have h3': ∃ o,s.heap.get? 3=some o:=by obtain ⟨o,_,_,e,_⟩:=H.g; exact ⟨o,e⟩
    obtain ⟨bm,ob,b1,b2,b3,b4⟩:=H.bmain
    obtain ⟨kk,ok',k3,kb,hk,hheld⟩:=zx8 (mg:=mg) h3' b3 (zfw l.prog w (steps l.prog) []) (zib _ _ fun _ h=>nomatch h) H.held
    have CC: zes l.prog w { s with heap:=s.heap.push (za5 vs 0),toks:=k } mg mb kk s.heap.objs.size ns:={
      gens:=H.gens
      g:=H.g.keeps keep
      b:=H.b.keeps keep
      blt:=H.blt
      nolimit:=H.nolimit.at fun o=>keep _ o
      tok:=Nat.lt_of_lt_of_le H.tok h2
      k3:=k3
      live:=⟨ok',keep _ _ hk⟩
      held:=fun q hq=>by
        obtain ⟨v,Pl,hv,hP⟩:=hheld q hq
        refine ⟨v,Pl,hv,fun h' k=>hP h' fun b o hb e=>k b o hb (keep b o e)⟩
      lo:=Heap.lt_size hk
      oth:=fun x v hx=>hT.2.2.2.2.2.2.2.2.2.2.1 x v ((PySem.Claim2Try.globalOf_of_ns H.g x).trans hx)
      script:=⟨vs,Heap.get?_push_size _ rfl,h3⟩
      bmain:=⟨bm,ob,kb,b1,b2,keep _ _ b3,b4⟩ }
    obtain ⟨v,Pl,hv,_⟩:=H.held _ (zic (d:=d) (steps l.prog) [] (.inl hstep))
    rw [hname] at hv
    refine wpAny_bind (wpAny_nsGet CC.g ?_)
    rw [hv]
    refine wpAny_bind (call w _ mg mb kk _ ns hlen CC v hv _ _ fun s' hk' hos hgens=>wpAny_pure ⟨_,rfl,?_⟩)
    have hlist: s'.heap.get? s.heap.objs.size=some (za5 vs 0):=by
      rcases hk' _ _ (Heap.get?_push_size _ rfl) with e | ⟨_,e,_⟩
      · exact e
      · cases e
    have hr: ReadsAllW l.row.toRowW.claim.records (classAt s.heap) s'.heap [.ref s.heap.objs.size] [.list (ns.map .int)] [s.heap.objs.size]:=zsk hlist h3
    refine ⟨.inl ⟨.bool true,rfl,fun cls=>rfl,⟨.bool true,[.list (ns.map .int)],[],[s.heap.objs.size],.bool true,hr,zu4 l _ _,(fun _=>⟨List.nodup_nil,(fun _ h=>nomatch h),(fun _ h=>nomatch h)⟩),fun _ _=>ident_freeW rfl rfl rfl _ _⟩,(fun i hi=>by exact zae hi),(fun b o e _ _=>(hk' b o e).asItWas),fun i hi=>by cases hi⟩,hos,AllBare.of_eq hgens,fun h=>?_⟩
    have h': l.writes=true:=h
    rw [hwr] at h'; exact ft h'
structure Comp (d: DefRec) where
  as: List Arg
  c: CE
  ts: List Nat
  ss: List PS
  hpar: d.params = ⟨[],as,none,[],[],none,[]⟩
  hn: (as.map (·.arg)).Nodup
  hsc: c.sc=d.scope
  hb: c.base=0
  fs: ze8 d.scope
  hp: Places c (as.map (·.arg)) ts
  hss: SSs c d.body ss
noncomputable def zjz (sc: Scope): Bool:=sc.kind == .function && decide (sc.names.map (·.1)).Nodup && sc.names.all (fun x=>x.2 != .free) && !sc.isGenerator && !sc.isCoroutine
theorem zmh {sc: Scope} (h: zjz sc=true): ze8 sc:=by
  simp only [zjz,Bool.and_eq_true,beq_iff_eq,decide_eq_true_eq,List.all_eq_true,Bool.not_eq_true'] at h
  obtain ⟨⟨⟨⟨h1,h2⟩,h3⟩,h4⟩,h5⟩:=h
  refine ⟨h1,h2,fun x hx=>?_,h4,h5⟩
  have:=h3 _ (mem_of_lookup hx)
  simp at this
noncomputable def zgf (sc: Scope): List Str:=sc.names.filterMap fun (n,k)=>if zq2 (some k) && k != .free then some n else none
noncomputable def z5o (d: DefRec) (own: List Str) (fz: Fz): Option (Comp d):=match h: d.params with
  | ⟨[],as,none,[],[],none,[]⟩=>
    if hn: (as.map (·.arg)).Nodup then if hs: zjz d.scope=true then
      match zi1 ⟨d.scope,zgf d.scope,own,0⟩ (as.map (·.arg)),zjn d.body ⟨d.scope,zgf d.scope,own,0⟩ fz with
      | some ts,some ss=>some ⟨as,⟨d.scope,zgf d.scope,own,0⟩,ts.1,ss.1,h,hn,rfl,rfl,zmh hs,ts.2,ss.2⟩
      | _,_=>none
    else none else none
  | _=>none
noncomputable def dOf (p: Program) (name: Str): Option DefRec:=(steps p).findSome? fun st=>match st with
  | .fn d=>if d.name=name then some d else none
  | _=>none
theorem zks {p: Program} {name: Str} {d: DefRec} (h: dOf p name=some d): Step.fn d ∈ steps p/\d.name=name:=by
  unfold dOf at h
  obtain ⟨st,h1,h2⟩:=List.exists_of_findSome?_eq_some h
  cases st with
  | fn e=>
    simp only at h2
    split at h2
    · replace h2:=oj h2; subst h2; exact ⟨h1,by assumption⟩
    · exact zae h2
  | _=>cases h2
noncomputable def small (p: Program) (name: Str) (own: List Str) (fz: Fz): Option (List Nat × List PS):=(dOf p name).bind fun d=>(z5o d own fz).map fun x=>(x.ts,x.ss)
structure Entry (p: Program) (name: Str) (ts: List Nat) (ss: List PS): Prop where
  ex: ∃ own fz,small p name own fz=some (ts,ss)
noncomputable abbrev Tab:=List (Str × List Nat × List PS × Nat)
structure GP where
  gv: Str -> Option PV
  b3get: Int -> Option (Option Str)
  tab: Tab
  spec: Nat -> Str -> List PV -> Option PV
noncomputable def mkG (g: GP): Nat -> GT
  | 0=>{ gv:=g.gv,fns:=fun _ _=>none,b3get:=g.b3get }
  | d + 1=>{ gv:=g.gv,fns:=fun f args=>(g.tab.lookup f).elim (g.spec d f args) fun q=>zei (mkG g d) q.1 q.2.1 q.2.2 args,b3get:=g.b3get }
theorem z1l (g: GP) (d: Nat) (f: Str) (args: List PV): (mkG g (d + 1)).fns f args=(g.tab.lookup f).elim (g.spec d f args) fun q=>zei (mkG g d) q.1 q.2.1 q.2.2 args:=rfl
theorem zcf (g: GP) (d: Nat): (mkG g d).gv=g.gv:=by cases d <;> rfl
theorem z4b (g: GP) (d: Nat): (mkG g d).b3get=g.b3get:=by cases d <;> rfl
structure FnAt (C: CX) (d: DefRec) (a: Addr): Prop where
  g: C.mg d.name=some (.ref a)
  o: ∃ o pm code doc,o.data = .func (d.data pm code doc) /\ ∀ h,C.Inv h -> h.get? a=some o/\h.CodeRec code d.name
theorem zx9 {p: Program} {C: CX} {g: GP} (enum: C.mg "enumerate" = none/\C.mb "enumerate" = some (.type "enumerate")) (revd: C.mg "reversed" = none/\C.mb "reversed" = some (.type "reversed"))
    (gv: ∀ x v,g.gv x=some v -> ∃ u,(C.mg x=some u \/ (C.mg x=none/\C.mb x=some u)) /\ ∀ h W,Rep C h W v u)
    (hfn: ∀ d,Step.fn d ∈ steps p -> ∃ a,FnAt C d a) (htab: ∀ x ∈ g.tab,Entry p x.1 x.2.1 x.2.2.1)
    (hspec: ∀ d f args v,g.spec d f args=some v -> ∃ a o fd,C.mg f=some (.ref a)/\o.data = .func fd/\(∀ h,C.Inv h -> h.get? a=some o) /\ ∀ A W s vs,Room A (d + 1) -> At C W s -> RepL C s.heap W args vs -> Snd C A s W (call (.ref a) vs) v)
    (b1: ∀ v,C.mg "b1_set" = some v -> ∀ A W s (k: Int) t,At C W s -> Snd C A s W (compareOp .In (.int k t) v) (.bool (zdv.contains k)))
    (b3: ∀ v,C.mg "b3_exceptions" = some v -> ∃ d f,v = .ref d/\(d == sysModules)=false/\(∀ h,C.Inv h -> h.MapOf (intKind C.prog C.w) d f) /\
      ∀ k r,g.b3get k=some r -> ∃ t,(f k).getD .none=(match r with | some x=>.str x t | none=>.none) /\ ∀ x,r=some x -> x.length<=sizeLine): ∀ d,FnOk C (mkG g d) d:=fun d=>by
  induction d with
  | zero=>exact { enum:=enum,revd:=revd,gv:=gv,fn:=fun f args v h=>zae h,b1:=b1,b3:=b3 }
  | succ d ih=>exact {
    enum:=enum
    revd:=revd
    gv:=gv
    b1:=b1
    b3:=b3
    fn:=fun f args v h=>by
      rw [z1l] at h
      cases hl: g.tab.lookup f with
      | some q=>
        obtain ⟨ts,ss,n⟩:=q
        rw [hl] at h
        obtain ⟨own,fz,hsm⟩:=(htab (f,ts,ss,n) (mem_of_lookup hl)).ex
        unfold small at hsm
        obtain ⟨dr,hd,hsm⟩:=bind_some hsm
        obtain ⟨cm,hcm,he⟩:=zaj hsm
        cases he
        obtain ⟨hmem,hname'⟩:=zks hd
        have hname: dr.name=f:=hname'
        obtain ⟨a,ha,o,pm,code,doc,hod,hio⟩:=hfn dr hmem
        refine ⟨a,o,_,by rw [<- hname]; exact ha,hod,fun h hi=>(hio h hi).1,fun A W s vs rm at' hr=>?_⟩
        exact z1c ih cm.hsc cm.hb cm.fs cm.hpar cm.hn cm.hp cm.hss (fun h hi=>(hio h hi).1) hod (fun h hi=>(hio h hi).2) h rm at' hr
      | none=>rw [hl] at h; exact hspec d f args v h }
noncomputable def trunc (h: Heap) (k: Nat): Heap:={ h with objs:=h.objs.extract 0 (k + 1) }
theorem zop {h: Heap} {k b: Nat}: (trunc h k).get? b=if b<=k then h.get? b else none:=by
  unfold Heap.get? trunc
  simp only [Array.getElem?_extract,Nat.zero_add]
  by_cases hb: b<=k
  · rw [if_pos hb]
    by_cases hs: b < h.objs.size
    · rw [if_pos (by lia)]
    · rw [if_neg (by lia),Array.getElem?_eq_none (by lia)]
  · rw [if_neg hb,if_neg (by lia)]
theorem ze9 {h: Heap} {k: Nat}: ∀ b o,b<=k -> h.get? b=some o -> (trunc h k).get? b=some o:=fun b o hb e=>by rw [zop,if_pos hb]; exact e
theorem zet {h: Heap} {k: Nat}: ∀ b o,(trunc h k).get? b=some o -> b<=k/\h.get? b=some o:=fun b o e=>by
  rw [zop] at e
  split at e
  · exact ⟨by assumption,e⟩
  · exact zae e
theorem zeu {prog: Program} {w: World} {st: Step} {q: Str × Fact} (hq: q ∈ st.facts prog w): ∀ (sts: List Step) (fs: List (Str × Fact)),(st ∈ sts \/ q ∈ fs) -> q ∈ zfw prog w sts fs:=by
  intro zz
  induction zz with
  | nil=>
    intro fs h
    rcases h with h | h
    · cases h
    · exact h
  | cons st' r ih=>
    intro fs h
    refine ih _ ?_
    rcases h with h | h
    · rcases List.mem_cons.mp h with rfl | h
      · exact .inr (List.mem_append_left _ hq)
      · exact .inl h
    · exact .inr (List.mem_append_right _ h)
theorem zkt: ∀ {l: List (Int × Str)} {n: Int} {c: Str},l.lookup n=some c -> (n,c) ∈ l
  | (k,v) :: r,n,c,h=>by
    rw [List.lookup_cons] at h
    cases hb: n == k with
    | true=>rw [hb] at h; replace h:=oj h; subst h; rw [beq_iff_eq.mp hb]; exact List.mem_cons_self
    | false=>rw [hb] at h; exact List.mem_cons_of_mem _ (zkt h)
section
variable {p: Program} {w: World} {s: Shared} {mg mb: Str -> Option Value} {k ad: Addr} {ns: List Int}
theorem znc (pos p: Pos) (c: Value): ∀ (l: List Value),TriplesOk l -> codeAmong pos (l ++ [rawInt p.line,rawInt p.col,c])=match codeAmong pos l with
    | some x=>some x
    | none=>if (((p.line: Nat): Int) == ((pos.line: Nat): Int) && ((p.col: Nat): Int) == ((pos.col: Nat): Int))=true then some c else none:=fun l h=>by
  fun_induction TriplesOk l with
  | case1=>rfl
  | case2 a t b u x rest ih=>
    simp only [List.cons_append,codeAmong]
    split
    · rfl
    · exact ih h
  | case3 l h1 h2=>exact h.elim
noncomputable abbrev zb9:=Addr × Pos × Str
noncomputable def TabOk (n₀: Nat) (h: Heap) (q: zb9): Prop:=∃ ps,h.get? q.1=some (tabObj ps)/\TriplesOk ps.toList/\(codeAmong q.2.1 ps.toList=none \/
  ∃ c' o vs t,n₀<=c'/\codeAmong q.2.1 ps.toList=some (.ref c')/\h.get? c'=some o/\o.cls = .type "code" /\ o.data = .fields vs/\vs[1]? = some (.str q.2.2 t))
theorem TabOk.new {n₀: Nat} {h: Heap} {q: zb9} (e: h.get? q.1=some (tabObj #[])): TabOk n₀ h q:=⟨#[],e,trivial,.inl rfl⟩
structure zjt (s: Shared) (k: Addr) (tabs: List zb9): Prop where
  lo: ∀ q ∈ tabs,q.1<=k
  at': ∀ q ∈ tabs,s.heap.get? q.1=some (tabObj #[])
  ct: ∀ q ∈ tabs,isCodeTable s.heap q.1
  uniq: ∀ q ∈ tabs,∀ q' ∈ tabs,q.2.1.line=q'.2.1.line -> q.2.1.col=q'.2.1.col -> q.2.2=q'.2.2
theorem zjt.ne {tabs: List zb9} (N: zjt s k tabs) {b: Addr} {o: Obj} (e: s.heap.get? b=some o) (h: o ≠ tabObj #[]): b ∉ tabs.map (fun q: zb9=>q.1):=fun hm=>by
  obtain ⟨q,hq,rfl⟩:=List.mem_map.mp hm
  rw [N.at' q hq] at e; replace e:=oj e; subst e; exact h rfl
noncomputable def zbm (H: zes p w s mg mb k ad ns) {tabs: List zb9} (N: zjt s k tabs) (lit: Str -> Tok -> Prop) (litNz: ∀ {x t},lit x t -> t ≠ 0) (litNe: ∀ {x y t},lit x t -> lit y t -> x=y): CX where
  prog:=p
  w:=w
  mg:=mg
  mb:=mb
  n₀:=k + 1
  n4:=Nat.succ_le_succ H.k3
  Inv:=fun h=>(∀ b o,b<=k -> b ∉ tabs.map (fun q: zb9=>q.1) -> s.heap.get? b=some o -> h.get? b=some o) /\ ∀ q ∈ tabs,TabOk (k + 1) h q
  lit:=lit
  litNz:=litNz
  litNe:=litNe
  keep:=fun kk i=>⟨fun b o hb hn e=>kk b o (.inl (Nat.lt_succ_of_le hb)) (i.1 b o hb hn e),fun q hq=>by
    obtain ⟨ps,e,ht,hc⟩:=i.2 q hq
    refine ⟨ps,kk _ _ (.inl (Nat.lt_succ_of_le (N.lo q hq))) e,ht,?_⟩
    rcases hc with hc | ⟨c',o,vs,t,h0,h1,h2,h3,h4,h5⟩
    · exact .inl hc
    · exact .inr ⟨c',o,vs,t,h0,h1,kk _ _ (.inr ⟨h3,vs,h4⟩) h2,h3,h4,h5⟩⟩
  low:=fun {h} i=>by
    obtain ⟨o,e⟩:=H.live
    by_cases hk: k ∈ tabs.map (fun q: zb9=>q.1)
    · obtain ⟨q,hq,rfl⟩:=List.mem_map.mp hk
      obtain ⟨ps,e',_⟩:=i.2 q hq
      exact Heap.lt_size e'
    · exact Heap.lt_size (i.1 k o (Nat.le_refl _) hk e)
  g:=fun {h} i=>by obtain ⟨o,es,ep,e,hd,r⟩:=H.g; exact ⟨o,es,ep,i.1 _ _ H.k3 (N.ne e fun q=>by rw [q] at hd; cases hd) e,hd,r⟩
  b:=fun {h} i=>by obtain ⟨o,es,ep,e,hd,r⟩:=H.b; exact ⟨o,es,ep,i.1 _ _ (Nat.le_trans (by decide) H.k3) (N.ne e fun q=>by rw [q] at hd; cases hd) e,hd,r⟩
  nolimit:=fun {h} i=>by obtain ⟨mc,⟨o,es,ep,e,hd,r⟩,x⟩:=H.nolimit; exact ⟨mc,⟨o,es,ep,i.1 _ _ (Nat.le_trans (by decide) H.k3) (N.ne e fun q=>by rw [q] at hd; cases hd) e,hd,r⟩,x⟩
variable (H: zes p w s mg mb k ad ns) {tabs: List zb9} (N: zjt s k tabs) {lit: Str -> Tok -> Prop} {litNz: ∀ {x t},lit x t -> t ≠ 0} {litNe: ∀ {x y t},lit x t -> lit y t -> x=y}
theorem zi6 {h: Heap} (hi: (zbm H N lit litNz litNe).Inv h): ∀ b o,o ≠ tabObj #[] -> (trunc s.heap k).get? b=some o -> h.get? b=some o:=fun b o hn e=>by obtain ⟨h1,h2⟩:=zet b o e; exact hi.1 b o h1 (N.ne h2 hn) h2
theorem zre {d: DefRec} (hd: Step.fn d ∈ steps p): ∃ a,FnAt (zbm H N lit litNz litNe) d a:=by
  obtain ⟨v,Pl,hv,hP⟩:=H.held _ (zic (d:=d) (steps p) [] (.inl hd))
  obtain ⟨a,o,pm,code,doc,P,rfl,_,_,ho,hod,hc,_,_,hh,_⟩:=hP _ ze9
  refine ⟨a,hv,o,pm,_,doc,hod,fun h hi=>⟨zi6 H N hi _ _ (fun q=>by rw [q] at hod; cases hod) ho,hc.at fun o' e'=>zi6 H N hi _ o' (fun q=>?_) e'⟩⟩
  obtain ⟨o₂,_,_,_,_,_,_,_,_,e₂,hcls,_⟩:=hh
  rw [e₂] at e'; replace e':=oj e'; subst e'
  rw [q] at hcls; cases hcls
theorem z4c {ks: List Int} (hs: Step.set "b1_set" ks ∈ steps p) (hk: ks=zdv): ∀ v,(zbm H N lit litNz litNe).mg "b1_set" = some v -> ∀ A W s' (k': Int) t,At (zbm H N lit litNz litNe) W s' -> Snd (zbm H N lit litNz litNe) A s' W (compareOp .In (.int k' t) v) (.bool (zdv.contains k')):=fun v hv A W s' k' t a Q E q=>by
  obtain ⟨v',Pl,hv',hP⟩:=H.held _ (zeu (q:=("b1_set",zi5 p w ks)) (st:=Step.set "b1_set" ks) (by simp [Step.facts]) (steps p) [] (.inl hs))
  have e: some v=some v':=hv.symm.trans hv'
  replace e:=oj e; subst e
  obtain ⟨ad',rfl,_,_,n,o,es,ep,tt,ho,hcl,hdd,r⟩:=hP _ ze9
  have hS: s'.heap.SetOf (intKind p w) ad' (fun k=>ks.contains k) n:=⟨o,es,ep,tt,zi6 H N a.inv _ _ (fun q=>by rw [q] at hdd; cases hdd) ho,hcl,hdd,r⟩
  subst hk
  exact wpAny_inSet_of (knd:=intKind p w) (k:=k') (intKind_is _ _ _ _) rfl hS (q _ _ .tok1 za1)
theorem z4d {tbl: List (Int × Str)} (hs: Step.dict "b3_exceptions" tbl ∈ steps p) (hz: tbl.all (fun x=>decide (x.2.length<=1000))=true): ∀ v,(zbm H N lit litNz litNe).mg "b3_exceptions" = some v -> ∃ d f,v = .ref d/\(d == sysModules)=false/\(∀ h,(zbm H N lit litNz litNe).Inv h -> h.MapOf (intKind p w) d f) /\
      ∀ k' r,(some (tbl.lookup k'): Option (Option Str))=some r -> ∃ t,(f k').getD .none=(match r with | some x=>.str x t | none=>.none) /\ ∀ x,r=some x -> x.length<=sizeLine:=fun v hv=>by
  obtain ⟨v',Pl,hv',hP⟩:=H.held _ (zeu (q:=("b3_exceptions",zge p w tbl)) (st:=Step.dict "b3_exceptions" tbl) (by simp [Step.facts]) (steps p) [] (.inl hs))
  have e: some v=some v':=hv.symm.trans hv'
  replace e:=oj e; subst e
  obtain ⟨d,rfl,_,_,l,⟨o,es,ep,ho,hex,hdd,r⟩,hT,hns⟩:=hP _ ze9
  refine ⟨d,valueAt l,rfl,beq_eq_false_iff_ne.mpr hns,fun h hi=>Heap.DictOf.mapOf ⟨o,es,ep,zi6 H N hi _ _ (fun q=>by rw [q] at hdd; cases hdd) ho,hex,hdd,r⟩,fun k' r hr=>?_⟩
  replace hr:=oj hr; subst hr
  have:=hT.at k'
  split at this
  · rename_i v hvv
    obtain ⟨x,t,rfl,hx⟩:=this
    refine ⟨t,?_,fun y hy=>?_⟩
    · rw [hx,hvv]; rfl
    · rw [hx] at hy; replace hy:=oj hy; subst hy
      have h2:=List.all_eq_true.mp hz _ (zkt hx)
      rw [sizeLine_eq]
      exact Nat.le_trans (of_decide_eq_true h2) (by decide)
  · rename_i hvv
    refine ⟨0,?_,fun y hy=>?_⟩
    · rw [this,hvv]; rfl
    · rw [this] at hy; exact zae hy
theorem zhg {x: Str} {v: Value} (h1: startupNames.contains x=false) (h2: p.boundNames.contains x=false) (hb: bootBuiltins x=some v): (zbm H N lit litNz litNe).mg x=none/\(zbm H N lit litNz litNe).mb x=some v:=by
  refine ⟨?_,?_⟩
  · cases hx: mg x with
    | none=>exact hx
    | some u=>
      rcases H.oth x u hx with h | h
      · rw [List.contains_iff_mem.mpr h] at h1; exact tf h1
      · rw [List.contains_iff_mem.mpr h] at h2; exact tf h2
  · refine (H.blt x fun e=>?_).trans hb
    subst e
    exact absurd h1 (by decide)
end
end Mine
namespace Mine
open PySem
set_option backward.match.sparseCases false
theorem szok {n: Nat} (h: n<=16777216): zak n=true:=decide_eq_true h
noncomputable def zfx (G: GT) (ts: List Nat) (single: Bool) (body: List PS): List PV -> Rho -> Option Out
  | [],ρ=>some (.next ρ)
  | x :: xs,ρ=>match (zbb ts single x ρ).bind fun ρ''=>zap G body ρ'' with
    | some (.next ρ')=>zfx G ts single body xs ρ'
    | r=>r
theorem z4e (G: GT) (ts: List Nat) (single: Bool) (body: List PS) (x: PV) (xs: List PV) (ρ: Rho): zfx G ts single body (x :: xs) ρ=match (zbb ts single x ρ).bind fun ρ''=>zap G body ρ'' with
    | some (.next ρ')=>zfx G ts single body xs ρ'
    | r=>r:=rfl
theorem zu6 (G: GT) (ts: List Nat) (single: Bool) (body: List PS): ∀ (items: List PV) (ρ: Rho),forP (fun x ρ'=>(zbb ts single x ρ').bind fun ρ''=>zap G body ρ'') items ρ=zfx G ts single body items ρ:=by
  intro zz
  induction zz with
  | nil=>exact fun ρ=>rfl
  | cons x xs ih=>
    intro ρ
    simp only [pE,z4e]
    split <;> simp_all [ih]
noncomputable def zsl (G: GT) (ts: List Nat) (single: Bool) (body: List PS) (x: PV) (ρ: Rho): Option Out:=(zbb ts single x ρ).bind fun ρ''=>zap G body ρ''
theorem zya {G: GT} {ts: List Nat} {single: Bool} {body: List PS} {ρ: Rho}: zfx G ts single body [] ρ=some (.next ρ):=rfl
theorem zci {G: GT} {ts: List Nat} {single: Bool} {body: List PS} {x: PV} {xs: List PV} {ρ ρ': Rho} (h: zsl G ts single body x ρ=some (.next ρ')): zfx G ts single body (x :: xs) ρ=zfx G ts single body xs ρ':=by
  unfold zsl at h
  simp only [z4e,h]
theorem zid {G: GT} {ts: List Nat} {single: Bool} {it: PI} {body: List PS} {ρ: Rho} {items: List PV} {out: Option Out} (h1: zen G it ρ=some items) (h2: (single || items.all isTup)=true) (h3: zfx G ts single body items ρ=out): zbr G (.forS ts single it body) ρ=out:=by
  simp only [xE,h1,Option.bind_some,h2,if_true]
  rw [<- h3]; exact zu6 ..
noncomputable def znd (G: GT) (ts: List Nat) (single: Bool) (ifs: List PE) (gs: List PG) (elt: PE) (ρ: Rho) (x: PV): Option (List PV):=
  (zbb ts single x ρ).bind fun ρ'=>(allP G true ifs ρ').bind fun c=>if c then zj8 G gs (fun ρ'=>zag G elt ρ') ρ' else some []
theorem zev {G: GT} {ts: List Nat} {single: Bool} {it: PI} {ifs: List PE} {gs: List PG} {elt: PE} {ρ: Rho} {items: List PV} {ls: List (List PV)} (h1: zen G it ρ=some items) (h2: (single || items.all isTup)=true)
    (h3: items.mapM (znd G ts single ifs gs elt ρ)=some ls): zj8 G (.mk ts single it ifs :: gs) (fun ρ'=>zag G elt ρ') ρ=some ls.flatten:=by
  simp only [pE,h1,Option.bind_some,h2,if_true]
  have: (fun x=>(zbb ts single x ρ).bind fun ρ'=>(allP G true ifs ρ').bind fun c=>if c=true then zj8 G gs (fun ρ'=>zag G elt ρ') ρ' else some [])=znd G ts single ifs gs elt ρ:=rfl
  rw [this,h3]; rfl
theorem zne {G: GT} {gens: List PG} {elt: PE} {ρ: Rho} {l: List PV} (h: zj8 G gens (fun ρ'=>zag G elt ρ') ρ=some l) (hz: l.length<=16777216): zag G (.comp elt gens) ρ=some (.list l):=by
  simp only [eE,h,Option.bind_some]
  rw [if_pos (szok hz)]
theorem zad {G: GT} {p: PS} {ps: List PS} {ρ ρ': Rho} {r: Option Out} (h: zbr G p ρ=some (.next ρ')) (h2: zap G ps ρ'=r): zap G (p :: ps) ρ=r:=by simp only [pE,h]; exact h2
theorem zay {G: GT} {p: PS} {ps: List PS} {ρ: Rho} {v: PV} (h: zbr G p ρ=some (.ret v)): zap G (p :: ps) ρ=some (.ret v):=by simp only [pE,h]
theorem zbc {G: GT} {ρ: Rho}: zap G [] ρ=some (.next ρ):=rfl
theorem zaz {G: GT} {t: Nat} {e: PE} {ρ: Rho} {v: PV} (h: zag G e ρ=some v): zbr G (.asg t e) ρ=some (.next (setR ρ t (.val v))):=by simp only [xE,h,Option.map_some]
theorem zku {G: GT} {t: Nat} {e: PE} {ρ: Rho} {v: PV} {s: Slot} (h: zag G e ρ=some v) (ho: ownOf v=some s): zbr G (.asgOwn t e) ρ=some (.next (setR ρ t s)):=by simp only [xE,h,Option.bind_some,ho,Option.map_some]
theorem zcn {G: GT} {ts: List Nat} {e: PE} {ρ ρ': Rho} {xs: List PV} (h: zag G e ρ=some (.tuple xs)) (hb: zcw ts xs ρ=some ρ'): zbr G (.asgT ts e) ρ=some (.next ρ'):=by simp only [xE,h,Option.bind_some,vE,hb,Option.map_some]
theorem zcj {G: GT} {e: PE} {ρ: Rho} {v: PV} (h: zag G e ρ=some v): zbr G (.ret e) ρ=some (.ret v):=by simp only [xE,h,Option.map_some]
theorem zcs {G: GT} {t: PE} {a b: List PS} {ρ: Rho} {c: Bool} {r: Option Out} (h: za2 G t ρ=some c) (h2: zap G (if c then a else b) ρ=r): zbr G (.ite t a b) ρ=r:=by
  simp only [xE,h,Option.bind_some]
  induction c <;> exact h2
theorem zkv {G: GT} {t: Nat} {op: Operator} {e: PE} {ρ: Rho} {p y z: PV} (h0: ρ[t]? = some (some (.val p))) (h: zag G e ρ=some y) (h2: augP op p y=some z): zbr G (.aug t op e) ρ=some (.next (setR ρ t (.val z))):=by
  simp only [xE,zdu h0,h,Option.bind_some,vE,h2,Option.map_some]
theorem zoq {G: GT} {t: Nat} {e: PE} {ρ: Rho} {xs ys: List PV} (h0: ρ[t]? = some (some (.own xs))) (h: zag G e ρ=some (.list ys)) (hz: xs.length + ys.length<=16777216): zbr G (.aug t .Add e) ρ=some (.next (setR ρ t (.own (xs ++ ys)))):=by
  simp only [xE,zdu h0,h,Option.bind_some,vE,if_true,szok hz,Option.map_some]
theorem zzz {G: GT} {t: Nat} {e: PE} {ρ: Rho} {xs: List PV} {y: PV} (h0: ρ[t]? = some (some (.own xs))) (h: zag G e ρ=some y) (hz: xs.length + 1<=16777216): zbr G (.app t e) ρ=some (.next (setR ρ t (.own (xs ++ [y])))):=by
  simp only [xE,zmr h0,h,Option.bind_some,szok hz,if_true]
theorem zor {G: GT} {t: Nat} {i e: PE} {op: Operator} {ρ: Rho} {xs: List PV} {k: Int} {x y z: PV} (h0: ρ[t]? = some (some (.own xs))) (h1: zag G i ρ=some (.int k)) (h2: zag G e ρ=some y) (hk: 0<=k/\k < 1000000000) (hx: xs[k.toNat]? = some x) (ho: augP op x y=some z) :
    zbr G (.augIdx t i op e) ρ=some (.next (setR ρ t (.own (xs.set k.toNat z)))):=by
  simp only [xE,zmr h0,h1,h2,Option.bind_some,vE,hx,ho,Option.map_some]
  rw [if_pos (by simp [hk])]
theorem zd2 {G: GT} {t: Nat} {ρ: Rho} {xs: List PV} (h0: ρ[t]? = some (some (.own xs))): zbr G (.freeze t) ρ=some (.next (setR ρ t (.val (.list xs)))):=by simp only [xE,zdu h0,Option.bind_some,Slot.isOwn0,if_true,Slot.pv]
theorem z1m {G: GT} {t: Nat} {ρ: Rho} {xs: List PV} (h0: ρ[t]? = some (some (.own xs))): zbr G (.revI t) ρ=some (.next (setR ρ t (.own xs.reverse))):=by simp only [xE,zmr h0,Option.map_some]
theorem z4f {G: GT} {body: List PS} {ρ: Rho}: zbr G (.tryS body) ρ=zap G body ρ:=by simp only [xE]
section
variable {G: GT} {ρ: Rho} {a b e i t: PE} {x y z v: PV}
theorem zaa {k: Nat} (h: ρ[k]? = some (some (.val v))): zag G (.var k) ρ=some v:=by simp only [eE,zqy h]
theorem zal {n: Str} (h: G.gv n=some v): zag G (.glob n) ρ=some v:=by simp only [eE,h]
theorem zaf {op: Operator} (h1: zag G a ρ=some x) (h2: zag G b ρ=some y) (h3: binP op x y=some z): zag G (.bin op a b) ρ=some z:=by simp only [eE,h1,h2,Option.bind_some,h3]
theorem zos {k: Int} (h: zag G a ρ=some (.int k)): zag G (.neg a) ρ=some (.int (-k)):=by simp only [eE,h,Option.bind_some,vE,Option.map_some]
theorem zu7 {k: Int} (h: zag G a ρ=some (.int k)): zag G (.inv a) ρ=some (.int (Builtin.bitNot k)):=by simp only [eE,h,Option.bind_some,vE,Option.map_some]
theorem zot {op: CmpOp} {c: Bool} (h1: zag G a ρ=some x) (h2: zag G b ρ=some y) (h3: cmpV op x y=some c): zag G (.cmp op a b) ρ=some (.bool c):=by simp only [eE,h1,h2,Option.bind_some,h3,Option.map_some]
theorem zav {op: CmpOp} {c: Bool} (h1: zag G a ρ=some x) (h2: zag G b ρ=some y) (h3: cmpV op x y=some c): za2 G (.cmp op a b) ρ=some c:=by simp only [tE,h1,h2,Option.bind_some,h3]
theorem zdj {c: Bool} (h: za2 G t ρ=some c) (h2: zag G (if c then a else b) ρ=some v): zag G (.ifx t a b) ρ=some v:=by
  simp only [eE,h,Option.bind_some]
  induction c <;> exact h2
theorem za9 (h1: zag G a ρ=some x) (h2: zag G i ρ=some y) (h3: subP x y=some z): zag G (.sub a i) ρ=some z:=by simp only [eE,h1,h2,Option.bind_some,h3]
theorem zu8 {k: Nat} {xs: List PV} (h1: zag G i ρ=some y) (h0: ρ[k]? = some (some (.own xs))) (h3: subP (.list xs) y=some z): zag G (.subOwn k i) ρ=some z:=by simp only [eE,h1,zdu h0,Option.bind_some,Slot.pv,h3]
theorem zu9 {k: Nat} (h1: zag G i ρ=some y) (h0: ρ[k]? = some (some (.val x))) (h3: subP x y=some z): zag G (.subOwn k i) ρ=some z:=by simp only [eE,h1,zdu h0,Option.bind_some,Slot.pv,h3]
theorem zai: zbe G [] ρ=some []:=by simp only [pE]
theorem zac {es: List PE} {xs: List PV} (h1: zag G a ρ=some x) (h2: zbe G es ρ=some xs): zbe G (a :: es) ρ=some (x :: xs):=by simp only [pE,h1,h2,Option.bind_some,Option.map_some]
theorem zi7 {es: List PE} {xs: List PV} (h: zbe G es ρ=some xs): zag G (.list es) ρ=some (.list xs):=by simp only [eE,h,Option.map_some]
theorem zbv {es: List PE} {xs: List PV} (h: zbe G es ρ=some xs): zag G (.tuple es) ρ=some (.tuple xs):=by simp only [eE,h,Option.map_some]
theorem zao {f: PE} {as: List PE} {g: PV} {xs: List PV} (h1: zag G f ρ=some g) (h2: zbe G as ρ=some xs) (h3: zmt G g xs=some v): zag G (.call f as) ρ=some v:=by simp only [eE,h1,h2,Option.bind_some,h3]
theorem zie {k: Nat} {c: Bool} (h: ρ[k]? = some (some (.val v))) (h4: zem v=some c): za2 G (.var k) ρ=some c:=by simp only [tE,zqy h,Option.bind_some,h4]
theorem zva {c d: Bool} (h1: za2 G a ρ=some c) (h2: c=false -> za2 G b ρ=some d): za2 G (.or [a,b]) ρ=some (c || d):=by
  simp only [tE,pE,h1,Option.bind_some]
  cases c with
  | true=>rfl
  | false=>simp [h2 rfl]; induction d <;> rfl
end
theorem z1n {test: Rho -> Option Bool} {step: Rho -> Option Out} {n: Nat} {ρ ρ': Rho} (h: test ρ=some true) (h2: step ρ=some (.next ρ')): zd6 test step (n + 1) ρ=zd6 test step n ρ':=by simp only [pE,h,h2]
theorem z1o {test: Rho -> Option Bool} {step: Rho -> Option Out} {n: Nat} {ρ: Rho} (h: test ρ=some false): zd6 test step (n + 1) ρ=some (.next ρ):=by simp only [pE,h]
end Mine
namespace Mine
open PySem PySem.W PySem.Calls PyProof.Rows PySem.Challenge
noncomputable def z1p: Tab:=[
  ("_div2n1n",zio,ziq,zny),("_div3n2n",zir,zis,znz),("_divmod_pos",ze0,ze1,zjj),("int_divmod",ze2,ze3,zjk),
  ("in_table_b1",zee,zef,zhq),("map_table_b3",zdw,zdx,zgs),
  ("_escape_cdata",zfn,zdy,zlk),("_escape_attrib",zfi,zde,zj9),("_escape_attrib_html",zc6,zb5,zgl),
  ("_escape_cdata_c14n",zdh,zcg,zg0),("_escape_attrib_c14n",zc7,zb6,zgm),
  ("_law_hand",zg1,zg2,zl2),("_law_read",zg3,zg4,zl3),("_law_page",zg5,zg6,zl4),("_law_due",zit,ziu,zn0),
  ("_law_product",zeg,zeh,zhr),("_law_ways",zg7,zg8,zl5),("_law_sums",zg9,zha,zl6),("_law_terms",zfo,zfp,zka),("law",zzs,zkb,z5i)]
noncomputable def zfy: List Str:=["_div2n1n","_div3n2n","_int2digits","_digits2int","_divmod_pos","int_divmod","in_table_b1","map_table_b3","_escape_cdata","_escape_attrib","_escape_attrib_html","_escape_cdata_c14n","_escape_attrib_c14n",
  "_law_hand","_law_read","_law_page","_law_due","_law_product","_law_ways","_law_sums","_law_terms","law"]
noncomputable def zvb: List (Str × PV):=[("_DIV_LIMIT",.int 4000),("b1_set",.b1),("b3_exceptions",.b3),("range",.ty "range"),("list",.ty "list"),("type",.ty "type"),("int",.ty "int"),("len",.bi "len"),("ord",.bi "ord"),("chr",.bi "chr"),("sum",.bi "sum"),("divmod",.bi "divmod")]
noncomputable def gv02 (x: Str): Option PV:=match zvb.lookup x with
  | some v=>some v
  | none=>if zfy.contains x then some (.fn x) else none
noncomputable def digitsOf (a n: Int): List Int:=(List.range ((Builtin.Int.intBits a + n.toNat - 1) / n.toNat)).map fun k=>a / 2 ^ (n.toNat * k) % 2 ^ n.toNat
noncomputable def numberOf (n: Int): List Int -> Int
  | []=>0
  | x :: r=>numberOf n r * 2 ^ n.toNat + x
theorem zca: (∀ n,numberOf n []=0)/\(∀ n x r,numberOf n (x :: r)=numberOf n r * 2 ^ n.toNat + x):=⟨fun _=>rfl,fun _ _ _=>rfl⟩
noncomputable def sI2d (d: Nat) (args: List PV): Option PV:=(two args).bind fun q=>ii q.1 q.2 fun a n=>if 0<=a/\0 < n/\n<=1000000/\(digitsOf a n).length<=64/\8<=d then some (.list ((digitsOf a n).map .int)) else none
noncomputable def sD2i (d: Nat) (args: List PV): Option PV:=(two args).bind fun q=>(listOf q.1).bind fun xs=>(intOf q.2).bind fun n=>(zgk xs).bind fun l=>if 0 < n/\n<=1000000/\l.length<=64/\l.all (fun x=>decide (Builtin.Int.intBits x<=1000000))=true/\8<=d then some (.int (numberOf n l)) else none
noncomputable def zdr (d: Nat) (f: Str) (args: List PV): Option PV:=
  if f = "_int2digits" then sI2d d args
  else if f = "_digits2int" then sD2i d args
  else none
noncomputable def zhh (p: Program): List (Int × Str):=((steps p).findSome? fun st=>match st with
  | .dict x t=>if x = "b3_exceptions" then some t else none
  | _=>none).getD []
noncomputable def g02: GP:={ gv:=gv02,b3get:=fun k=>some ((zhh pw_wc0027_02).lookup k),tab:=z1p,spec:=zdr }
noncomputable abbrev G2 (d: Nat): GT:=mkG g02 d
theorem zp5 (d: Nat) (args: List PV): (G2 (d + 1)).fns "_law_product" args=zei (G2 d) zeg zeh zhr args:=rfl
noncomputable def zfa: Int -> List Int -> Bool
  | _,[]=>true
  | a,x :: r=>zc0 a x && zfa (a * x) r
theorem z1q (a x: Int) (r: List Int): zfa a (x :: r)=(zc0 a x && zfa (a * x) r):=rfl
theorem zby {G: GT} {ts: List Nat} {ss: List PS} {n: Nat} {args: List PV} {ρ: Rho} {v: PV} (h1: zcw ts args (List.replicate n none)=some ρ) (h2: zap G ss ρ=some (.ret v)): zei G ts ss n args=some v:=by rw [zei,h1,Option.bind_some,h2]; rfl
theorem zou (G: GT) (p: PV): ∀ (xs: List Int) (a: Int) (o: Option Slot),zfa a xs=true ->
    ∃ o',zfx G [0] true [.aug 1 .Mult (.var 0)] (xs.map .int) [o,some (.val (.int a)),some (.val p)]=some (.next [o',some (.val (.int (xs.foldl (· * ·) a))),some (.val p)]):=by
  intro zz
  induction zz with
  | nil=>exact fun a o _=>⟨o,rfl⟩
  | cons x r ih=>
    intro a o h
    rw [z1q,Bool.and_eq_true] at h
    obtain ⟨o',e⟩:=ih (a * x) (some (.val (.int x))) h.2
    refine ⟨o',(zci (ρ':=[some (.val (.int x)),some (.val (.int (a * x))),some (.val p)]) ?_).trans e⟩
    exact zad (zkv rfl rfl (show (if zc0 a x=true then some (PV.int (a * x)) else none)=_ from if_pos h.1)) zbc
theorem zmi (d: Nat) (p: PV) (xs: List Int) (hp: zj6 p=some (xs.map .int)) (hf: zfa 1 xs=true): (G2 (d + 1)).fns "_law_product" [p]=some (.int (xs.foldl (· * ·) 1)):=by
  obtain ⟨o',e⟩:=zou (G2 d) p xs 1 none hf
  rw [zp5]
  refine zby rfl ?_
  refine zad (zaz rfl) ?_
  refine zad (zid (items:=xs.map .int) hp rfl e) ?_
  exact zay (zcj rfl)
end Mine
namespace Mine
open PySem PySem.Builtin PySem.Builtin.Str
noncomputable abbrev tx (l: List Nat): Str:=⟨l.toArray⟩
theorem zfk (l: List Nat): (tx l).length=l.length:=by simp [Str.length]
theorem zvc (a b: List Nat): tx a ++ tx b=tx (a ++ b):=by
  show Str.append _ _=_
  simp [Str.append]
theorem zz0 {a b: List Nat} (h: tx a=tx b): a=b:=by
  injection h with h; simpa using congrArg Array.toList h
theorem z1r {a b: List Nat}: (tx a == tx b)=decide (a=b):=by
  by_cases h: a=b
  · subst h; simp
  · rw [decide_eq_false h]; exact beq_eq_false_iff_ne.mpr fun e=>h (zz0 e)
theorem z5p (x: Str): x=tx x.cps.toList:=by cases x; simp
theorem zif {c: Nat} {z: List Nat}: ∀ l: List Nat,c ∉ l -> (l.flatMap fun a=>if a=c then z else [a])=l:=by
  intro zz
  induction zz with
  | nil=>exact fun _=>rfl
  | cons k r ih=>
    intro h
    rw [List.flatMap_cons,if_neg (fun e=>h (by rw [e]; exact List.mem_cons_self)),ih fun m=>h (List.mem_cons_of_mem _ m)]; rfl
theorem zrf (c: Nat) (z: List Nat): ∀ parts: List Str,(∀ p ∈ parts,c ∉ p.cps.toList) -> ((Str.join ⟨#[c]⟩ parts).cps.toList.flatMap fun a=>if a=c then z else [a])=(Str.join (tx z) parts).cps.toList
  | [],_=>rfl
  | [p],h=>zif _ (h p (List.mem_singleton.mpr rfl))
  | p :: q :: r,h=>by
    have ih:=zrf c z (q :: r) fun a ha=>h a (List.mem_cons_of_mem _ ha)
    show ((p ++ ⟨#[c]⟩ ++ Str.join ⟨#[c]⟩ (q :: r)).cps.toList.flatMap _)=(p ++ tx z ++ Str.join (tx z) (q :: r)).cps.toList
    simp only [Str.cps_append,Array.toList_append,List.flatMap_append]
    rw [ih,zif _ (h p (List.mem_cons_self ..))]
    simp
theorem z1s (l: List Nat) (c: Nat) (z: List Nat): Txt.replace (tx l) ⟨#[c]⟩ (tx z)=tx (l.flatMap fun a=>if a=c then z else [a]):=by
  rw [StrLaws.replace_one,z5p (Str.join _ _),<- zrf c z _ (StrLaws.split_free (tx l) c),StrLaws.join_split]
theorem zvd {l: List Nat} {c i: Nat}: StrLaws.At (tx l) ⟨#[c]⟩ (tx l).length i ↔ l[i]? = some c:=by
  constructor
  · intro h
    have:=(StrLaws.subAt_one (tx l) c i).mp h
    simpa using this
  · intro h
    exact (StrLaws.subAt_one (tx l) c i).mpr (by simpa using h)
theorem zve {l: List Nat} {c a: Nat} (h: ∀ k,a<=k -> l[k]? ≠ some c): (l.drop a).count c=0:=by
  rw [List.count_eq_zero]
  intro hm
  obtain ⟨j,hj⟩:=List.getElem?_of_mem hm
  rw [List.getElem?_drop] at hj
  exact h _ (Nat.le_add_right _ _) hj
theorem modN (x: Int) (N: Nat) (h: 0 < N): ∃ j: Nat,x % (N: Int)=j/\j < N:=by
  obtain ⟨j,hj⟩:=Int.eq_ofNat_of_zero_le (Int.emod_nonneg x (Int.ne_of_gt (Int.ofNat_lt.mpr h)))
  exact ⟨j,hj,Int.ofNat_lt.mp (hj ▸ Int.emod_lt_of_pos x (Int.ofNat_lt.mpr h))⟩
theorem lt4 {j: Nat} (h: j < 4): j=0 \/ j=1 \/ j=2 \/ j=3:=match j,h with
  | 0,_=>.inl rfl
  | 1,_=>.inr (.inl rfl)
  | 2,_=>.inr (.inr (.inl rfl))
  | 3,_=>.inr (.inr (.inr rfl))
theorem lt5 {j: Nat} (h: j < 5): j=0 \/ j=1 \/ j=2 \/ j=3 \/ j=4:=match j,h with
  | 0,_=>.inl rfl
  | j + 1,h=>.inr ((lt4 (Nat.lt_of_succ_lt_succ h)).imp (congrArg (· + 1)) fun h=>h.imp (congrArg (· + 1)) fun h=>h.imp (congrArg (· + 1)) (congrArg (· + 1)))
theorem zsm {l: List Nat} {c: Nat}: ∀ (n a: Nat),l[a + n]? = some c -> (∀ k,k < n -> l[a + k]? ≠ some c) -> (l.drop a).count c=1 + (l.drop (a + n + 1)).count c:=by
  intro zz
  induction zz with
  | zero=>
    intro a hb h
    obtain ⟨hi,hv⟩: ∃ hi: a < l.length,l[a]=c:=List.getElem?_eq_some_iff.mp hb
    rw [List.drop_eq_getElem_cons hi,hv,List.count_cons_self,Nat.add_comm]
  | succ n ih=>
    intro a hb h
    have hi: a < l.length:=Nat.lt_of_le_of_lt (Nat.le_add_right _ _) (List.getElem?_eq_some_iff.mp hb).1
    have hne: l[a] ≠ c:=fun e=>h 0 (Nat.succ_pos _) (by rw [Nat.add_zero,List.getElem?_eq_getElem hi,e])
    rw [List.drop_eq_getElem_cons hi,List.count_cons_of_ne hne]
    have e: ∀ k,a + 1 + k=a + (k + 1):=fun k=>Nat.add_right_comm a 1 k
    have:=ih (a + 1) (by rw [e]; exact hb) fun k h2=>by rw [e]; exact h _ (Nat.succ_lt_succ h2)
    rw [e] at this; exact this
theorem zp6 {l: List Nat} {c: Nat}: ∀ (cuts: List Nat) (a f: Nat),StrLaws.ChainG (tx l) ⟨#[c]⟩ (tx l).length a cuts f -> (∀ k,f<=k -> ¬ StrLaws.At (tx l) ⟨#[c]⟩ (tx l).length k) -> cuts.length=(l.drop a).count c:=by
  intro zz
  induction zz with
  | nil=>
    intro a f h hf
    have: f=a:=h
    subst this
    rw [zve fun k hk e=>hf k hk (zvd.mpr e)]; rfl
  | cons b r ih=>
    intro a f h hf
    obtain ⟨h1,h2,h3,h4⟩:=h
    obtain ⟨n,rfl⟩:=Nat.exists_eq_add_of_le h1
    rw [List.length_cons,ih _ f h4 hf,zsm n a (zvd.mp h2) fun k g2 e=>h3 _ (Nat.le_add_right _ _) (Nat.add_lt_add_left g2 a) (zvd.mpr e)]
    exact Nat.add_comm _ _
theorem zvf (l: List Nat) (c: Nat): Txt.count (tx l) ⟨#[c]⟩ = (l.count c: Nat):=by
  obtain ⟨f,h1,h2⟩:=StrLaws.occ_tight (tx l) ⟨#[c]⟩ (Nat.le_refl 1)
  have:=zp6 _ _ _ h1 h2
  unfold Txt.count
  rw [this]; rfl
theorem zyb (l: List Nat) (c: Nat): (!(occurrences (tx l) ⟨#[c]⟩ 0 (tx l).length 1).isEmpty)=decide (c ∈ l):=by
  rw [StrLaws.found_one]
theorem zsn (l: List Nat) (s: Nat): ∀ c,(List.range c).filterMap (fun k=>l[s + k]?)=(l.drop s).take c:=by
  intro zz
  induction zz with
  | zero=>simp
  | succ c ih=>
    rw [List.range_succ,List.filterMap_append,ih,List.take_add_one,List.getElem?_drop]
    cases h: l[s + c]? <;> simp [h]
theorem zig {A B: Int} {a b: Nat} (hA: A=a) (hB: B=b): sliceRange A B 1=(List.range (b - a)).map fun k=>a + k:=by
  subst hA hB
  unfold sliceRange
  simp only [show (1: Int) > 0 from by decide,if_true]
  have e3: (if (a: Int) < (b: Int) then ((b: Int) - (a: Int) + 1 - 1) / 1 else 0).toNat=b - a:=by
    split
    · rw [Int.add_sub_cancel,Int.ediv_one]; exact Int.toNat_sub b a
    · rename_i h; exact (Nat.sub_eq_zero_of_le (Int.ofNat_le.mp (Int.not_lt.mp h))).symm
  rw [e3]
  apply List.map_congr_left
  intro k _
  lia
theorem zkw (a n: Nat): max 0 (min (a: Int) (n: Int))=((min a n: Nat): Int):=by
  rw [Int.max_eq_right (Int.le_min.mpr ⟨Int.natCast_nonneg a,Int.natCast_nonneg n⟩)]
  rcases Nat.le_total a n with h | h
  · rw [Nat.min_eq_left h,Int.min_eq_left (Int.ofNat_le.mpr h)]
  · rw [Nat.min_eq_right h,Int.min_eq_right (Int.ofNat_le.mpr h)]
theorem znf (a: Nat): ¬ (a: Int) < 0:=Int.not_lt.mpr (Int.natCast_nonneg a)
theorem zvg (l: List Nat) {lo hi: Option Int} {a b: Nat} (ha: lo=none/\a=0 \/ lo=some (a: Int)) (hb: hi=none/\b=l.length \/ hi=some (b: Int)) (hab: a<=b): Txt.slice (tx l) lo hi=tx ((l.drop a).take (b - a)):=by
  have hidx: strSliceIndices lo hi 1 (tx l).length=(List.range (min b l.length - min a l.length)).map fun k=>min a l.length + k:=by
    rw [zfk]
    unfold strSliceIndices
    rcases ha with ⟨rfl,rfl⟩ | rfl <;> rcases hb with ⟨rfl,rfl⟩ | rfl
    · exact zig (by simp) (by simp)
    · exact zig (by simp) (by simp only [show (1: Int) > 0 from by decide,if_true,znf,if_false,zkw])
    · exact zig (by simp only [show (1: Int) > 0 from by decide,if_true,znf,if_false,zkw]) (by simp)
    · exact zig (by simp only [show (1: Int) > 0 from by decide,if_true,znf,if_false,zkw]) (by simp only [show (1: Int) > 0 from by decide,if_true,znf,if_false,zkw])
  unfold Txt.slice
  rw [hidx]
  have hlen: ((List.range (min b l.length - min a l.length)).map fun k=>min a l.length + k).length=min b l.length - min a l.length:=by simp
  rw [hlen,zfk]
  have hpick: ((List.range (min b l.length - min a l.length)).map fun k=>min a l.length + k).filterMap (fun i=>(tx l).cps[i]?)=(l.drop a).take (b - a):=by
    rw [List.filterMap_map]
    have: ((fun i=>(tx l).cps[i]?) ∘ fun k=>min a l.length + k)=fun k=>l[min a l.length + k]?:=by
      funext k; simp
    rw [this,zsn]
    by_cases h1: a<=l.length
    · rw [Nat.min_eq_left h1]
      by_cases h2: b<=l.length
      · rw [Nat.min_eq_left h2]
      · rw [Nat.min_eq_right (Nat.le_of_not_le h2),List.take_of_length_le (by simp),List.take_of_length_le (by rw [List.length_drop]; exact Nat.sub_le_sub_right (Nat.le_of_not_le h2) a)]
    · rw [Nat.min_eq_right (Nat.le_of_not_le h1),List.drop_of_length_le (Nat.le_refl l.length),List.drop_of_length_le (Nat.le_of_not_le h1)]; simp
  split
  · rename_i h
    simp only [beq_self_eq_true,Bool.true_and,beq_iff_eq] at h
    by_cases h0: l.length=0
    · have: l=[]:=List.length_eq_zero_iff.mp h0
      subst this; simp
    · have z: min a l.length=0:=by
        rcases Nat.eq_zero_or_pos (min a l.length) with z | z
        · exact z
        · exact absurd h (Nat.ne_of_lt (Nat.lt_of_lt_of_le (Nat.sub_lt (Nat.pos_of_ne_zero fun e=>h0 (by rw [<- h,e,Nat.zero_sub])) z) (Nat.min_le_right b l.length)))
      have: a=0:=by
        rcases Nat.le_total a l.length with g | g
        · rw [Nat.min_eq_left g] at z; exact z
        · rw [Nat.min_eq_right g] at z; exact absurd z h0
      subst this
      rw [Nat.zero_min,Nat.sub_zero] at h
      rw [List.drop_zero,List.take_of_length_le (show l.length<=b - 0 from Nat.le_trans (Nat.le_of_eq h.symm) (Nat.min_le_left _ _))]
  · rw [<- hpick]
noncomputable abbrev Chain:=List (Nat × List Nat)
noncomputable def escC (ch: Chain) (a: Nat): List Nat:=(ch.lookup a).getD [a]
noncomputable def zkx (ch: Chain): Bool:=decide (ch.Pairwise fun x y=>y.1 ∉ x.2) && ch.all fun x=>decide (x.2.length<=6)
noncomputable def zp7 (ch: Chain): List PS:=(ch.map fun x=>.ite (.cmp .In (.str (tx [x.1])) (.var 0)) [.asg 0 (.repl (.var 0) (tx [x.1]) (tx x.2))] []) ++ [.ret (.var 0)]
theorem zso {α β: Type} [BEq α]: ∀ (l r: List (α × β)) (x: α),(l ++ r).lookup x=((l.lookup x).or (r.lookup x)):=by
  intro zz
  induction zz with
  | nil=>intro r x; simp
  | cons zq l ih=>
    obtain ⟨a,b⟩:=zq
    intro r x
    rw [List.cons_append,List.lookup_cons,List.lookup_cons]
    cases x == a with
    | true=>simp
    | false=>exact ih r x
theorem zi8 {β: Type}: ∀ {l: List (Nat × β)} {x: Nat} {v: β},l.lookup x=some v -> (x,v) ∈ l
  | (k,b) :: r,x,v,h=>by
    rw [List.lookup_cons] at h
    cases hb: x == k with
    | true=>rw [hb] at h; replace h:=oj h; subst h; rw [beq_iff_eq.mp hb]; exact List.mem_cons_self
    | false=>rw [hb] at h; exact List.mem_cons_of_mem _ (zi8 h)
theorem zvh {ch: Chain} {c: Nat} {z: List Nat} (h: ∀ x ∈ ch,c ∉ x.2) (a: Nat): ((escC ch a).flatMap fun b=>if b=c then z else [b])=escC (ch ++ [(c,z)]) a:=by
  unfold escC
  rw [zso]
  cases hl: ch.lookup a with
  | some n=>
    simp only [Option.getD_some,Option.some_or]
    exact zif _ (h _ (zi8 hl))
  | none=>
    simp only [Option.getD_none,Option.none_or,List.flatMap_cons,List.flatMap_nil,List.append_nil]
    rw [List.lookup_cons]
    by_cases hac: a=c
    · subst hac; simp
    · rw [show (a == c)=false by simpa using hac,if_neg hac]; rfl
theorem zrg {ch: Chain} (h: ch.all (fun x=>decide (x.2.length<=6))=true) (a: Nat): (escC ch a).length<=6:=by
  unfold escC
  cases hl: ch.lookup a with
  | some n=>exact of_decide_eq_true (List.all_eq_true.mp h _ (zi8 hl))
  | none=>simp
theorem zng {f: Nat -> List Nat} (h: ∀ a,(f a).length<=6): ∀ l: List Nat,(l.flatMap f).length<=6 * l.length
  | []=>by simp
  | a :: r=>by
    have:=zng h r
    have:=h a
    rw [List.flatMap_cons,List.length_append,List.length_cons]; lia
theorem z1t {G: GT} {o: PE} {ρ: Rho} {s y z: Str} (h: zag G o ρ=some (.str s)) (hne: y ≠ z) (hz: s.length + (s.length + 1) * z.length<=16777216): zag G (.repl o y z) ρ=some (.str (Txt.replace s y z)):=by
  simp only [eE,h,Option.bind_some,vE]
  rw [if_pos (by simp [szok hz]; exact hne)]
theorem zyc {G: GT} (l: List Nat) (hl: l.length<=100000): ∀ (rest done: Chain),zkx (done ++ rest)=true -> (∀ x ∈ rest,tx [x.1] ≠ tx x.2) ->
    zap G (zp7 rest) [some (.val (.str (tx (l.flatMap (escC done)))))]=some (.ret (.str (tx (l.flatMap (escC (done ++ rest)))))):=by
  intro zz
  induction zz with
  | nil=>
    intro done _ _
    rw [List.append_nil]
    exact zay (zcj (zaa rfl))
  | cons zq rest ih=>
    obtain ⟨c,z⟩:=zq
    intro done hok hne
    have hok': zkx ((done ++ [(c,z)]) ++ rest)=true:=by rw [List.append_assoc]; exact hok
    have hok₂:=hok
    simp only [zkx,Bool.and_eq_true,decide_eq_true_eq] at hok₂
    obtain ⟨hp,hlen⟩:=hok₂
    have hfree: ∀ x ∈ done,c ∉ x.2:=fun x hx=>(List.pairwise_append.mp hp).2.2 x hx (c,z) List.mem_cons_self
    have hdl: done.all (fun x=>decide (x.2.length<=6))=true:=by
      rw [List.all_append,Bool.and_eq_true] at hlen; exact hlen.1
    have hzl: z.length<=6:=of_decide_eq_true (List.all_eq_true.mp hlen (c,z) (List.mem_append_right _ List.mem_cons_self))
    have hcur:=zng (zrg hdl) l
    have hmul: ((l.flatMap (escC done)).length + 1) * z.length<=((l.flatMap (escC done)).length + 1) * 6:=Nat.mul_le_mul_left _ hzl
    have hstep: ((l.flatMap (escC done)).flatMap fun b=>if b=c then z else [b])=l.flatMap (escC (done ++ [(c,z)])):=by
      rw [List.flatMap_assoc]
      congr 1
      funext a
      exact zvh hfree a
    have ih:=ih (done ++ [(c,z)]) hok' fun x hx=>hne x (List.mem_cons_of_mem _ hx)
    rw [List.append_assoc,List.singleton_append] at ih
    have hfound: inP (.str (tx [c])) (.str (tx (l.flatMap (escC done))))=some (decide (c ∈ l.flatMap (escC done))):=by
      show some (!(occurrences _ _ 0 _ 1).isEmpty)=_
      rw [zyb]
    refine zad (ρ':=[some (.val (.str (tx (l.flatMap (escC (done ++ [(c,z)]))))))]) (zcs (c:=decide (c ∈ l.flatMap (escC done))) (zav rfl (zaa rfl) hfound) ?_) ih
    by_cases hm: c ∈ l.flatMap (escC done)
    · rw [decide_eq_true hm]
      refine zad (zaz (z1t (zaa rfl) (hne _ List.mem_cons_self) ?_)) ?_
      · rw [zfk,zfk]; show _ + _ * z.length<=_; lia
      · rw [z1s,hstep]; rfl
    · rw [decide_eq_false hm]
      rw [<- hstep,zif _ hm]; rfl
noncomputable def chainOf: Nat -> Chain
  | 0=>[(38,[38,97,109,112,59]),(60,[38,108,116,59]),(62,[38,103,116,59])]
  | 1=>[(38,[38,97,109,112,59]),(60,[38,108,116,59]),(62,[38,103,116,59]),(34,[38,113,117,111,116,59]),(13,[38,35,49,51,59]),(10,[38,35,49,48,59]),(9,[38,35,48,57,59])]
  | 2=>[(38,[38,97,109,112,59]),(62,[38,103,116,59]),(34,[38,113,117,111,116,59])]
  | 3=>[(38,[38,97,109,112,59]),(60,[38,108,116,59]),(62,[38,103,116,59]),(13,[38,35,120,68,59])]
  | _=>[(38,[38,97,109,112,59]),(60,[38,108,116,59]),(34,[38,113,117,111,116,59]),(9,[38,35,120,57,59]),(10,[38,35,120,65,59]),(13,[38,35,120,68,59])]
noncomputable def zb4: Nat -> Str
  | 0=>"_escape_cdata"
  | 1=>"_escape_attrib"
  | 2=>"_escape_attrib_html"
  | 3=>"_escape_cdata_c14n"
  | _=>"_escape_attrib_c14n"
theorem z1u: zdy=[.tryS (zp7 (chainOf 0))]:=by rfl
theorem z1v: zde=[.tryS (zp7 (chainOf 1))]:=by rfl
theorem z1w: zb5=[.tryS (zp7 (chainOf 2))]:=by rfl
theorem z1x: zcg=[.tryS (zp7 (chainOf 3))]:=by rfl
theorem z1y: zb6=[.tryS (zp7 (chainOf 4))]:=by rfl
theorem zov: ∀ h < 5,zkx (chainOf h)=true:=by decide +kernel
theorem zvi: ∀ h < 5,(chainOf h).all (fun x=>decide (tx [x.1] ≠ tx x.2))=true:=by decide +kernel
theorem zky {G: GT} {h: Nat} (hh: h < 5) (l: List Nat) (hl: l.length<=100000): zei G [0] [.tryS (zp7 (chainOf h))] 1 [.str (tx l)]=some (.str (tx (l.flatMap (escC (chainOf h))))):=by
  refine zby rfl ?_
  refine zay (z4f.trans ?_)
  have:=zyc (G:=G) l hl (chainOf h) [] (zov h hh) fun x hx=>of_decide_eq_true (List.all_eq_true.mp (zvi h hh) x hx)
  have e: l.flatMap (escC [])=l:=by
    have: escC []=fun a=>[a]:=by funext a; rfl
    rw [this]; simp
  rw [e] at this
  exact this
theorem z1z (d: Nat) {h: Nat} (hh: h < 5) (l: List Nat) (hl: l.length<=100000): (G2 (d + 1)).fns (zb4 h) [.str (tx l)]=some (.str (tx (l.flatMap (escC (chainOf h))))):=by
  have h5: h=0 \/ h=1 \/ h=2 \/ h=3 \/ h=4:=by lia
  rcases h5 with rfl | rfl | rfl | rfl | rfl
  · have:=zky (G:=G2 d) (h:=0) (by decide) l hl
    rw [<- z1u] at this; exact this
  · have:=zky (G:=G2 d) (h:=1) (by decide) l hl
    rw [<- z1v] at this; exact this
  · have:=zky (G:=G2 d) (h:=2) (by decide) l hl
    rw [<- z1w] at this; exact this
  · have:=zky (G:=G2 d) (h:=3) (by decide) l hl
    rw [<- z1x] at this; exact this
  · have:=zky (G:=G2 d) (h:=4) (by decide) l hl
    rw [<- z1y] at this; exact this
end Mine
namespace Mine
open PySem PySem.Builtin PySem.Builtin.Str
set_option maxRecDepth 100000
noncomputable def zsp: List Nat:=[38,60,62,34,13,10,9]
noncomputable def nmC (h: Nat) (c: Nat): List Nat:=
  if c=38 then [38,97,109,112,59] else if c=60 then [38,108,116,59] else if c=62 then [38,103,116,59] else if c=34 then [38,113,117,111,116,59]
  else if c=13 then if h=1 then [38,35,49,51,59] else [38,35,120,68,59]
  else if c=10 then if h=1 then [38,35,49,48,59] else [38,35,120,65,59]
  else if h=1 then [38,35,48,57,59] else [38,35,120,57,59]
noncomputable def namesOf (h: Nat): List (Str × PV):=zsp.map fun c=>(tx [c],.str (tx (nmC h c)))
noncomputable def zb2 (h: Nat): List Nat:=(chainOf h).map (·.1)
theorem zsq: ∀ h < 5,(zb2 h).all (fun c=>decide (escC (chainOf h) c=nmC h c) && zsp.contains c)=true:=by decide +kernel
theorem zyd (d: Nat) (args: List PV): (G2 (d + 1)).fns "_law_hand" args=zei (G2 d) zg1 zg2 zl2 args:=rfl
theorem gv_h (d: Nat) {f: Str} (h: zfy.contains f=true) (h2: zvb.lookup f=none): (G2 d).gv f=some (.fn f):=by
  rw [zcf]
  show gv02 f=_
  unfold gv02
  rw [h2]
  simp only
  rw [if_pos h]
theorem zsr (d: Nat) (ρ: Rho): zag (G2 d) (.list [(.glob "_escape_cdata"),(.glob "_escape_attrib"),(.glob "_escape_attrib_html"),(.glob "_escape_cdata_c14n"),(.glob "_escape_attrib_c14n")]) ρ =
    some (.list [.fn (zb4 0),.fn (zb4 1),.fn (zb4 2),.fn (zb4 3),.fn (zb4 4)]):=
  zi7 (zac (zal (gv_h d (by decide +kernel) (by rfl))) (zac (zal (gv_h d (by decide +kernel) (by rfl))) (zac (zal (gv_h d (by decide +kernel) (by rfl))) (zac (zal (gv_h d (by decide +kernel) (by rfl))) (zac (zal (gv_h d (by decide +kernel) (by rfl))) zai)))))
theorem zye (d: Nat) {h: Nat} (hh: h < 5): (G2 (d + 1)).fns "_law_hand" [.int h]=some (.tuple [.fn (zb4 h),.str (tx (zb2 h)),.dict (namesOf h)]):=by
  rw [zyd]
  refine zby rfl ?_
  refine zad (zaz (zsr d _)) ?_
  have h5: h=0 \/ h=1 \/ h=2 \/ h=3 \/ h=4:=by lia
  rcases h5 with rfl | rfl | rfl | rfl | rfl <;> rfl
end Mine
namespace Mine
open PySem PySem.Builtin PySem.Builtin.Str
set_option maxRecDepth 10000
noncomputable def word (x y: Nat) (r: List Bool): List Nat:=r.map fun b=>if b then x else y
theorem zc5 {x y: Nat} {r: List Bool}: (word x y r).length=r.length:=by simp [word]
noncomputable def lets (l: List Nat): List PV:=l.map fun c=>.str (tx [c])
theorem zp8 (l: List Nat): zbt (tx l)=lets l:=by simp [zbt,lets]
theorem zvj (l: List Nat): enumItems (.str (tx l))=some (lets l):=by
  show some (zbt (tx l))=_
  rw [zp8]
theorem znh: ∀ (i: Int) (l: List PV),(zbo i l).all isTup=true
  | _,[]=>rfl
  | i,x :: l=>by
    simp only [numE,List.all_cons,znh (i + 1) l]; rfl
theorem zrh {a b: Nat} (hb: 0 < b): binP .Mod (.int a) (.int b)=some (.int ((a % b: Nat): Int)):=by
  show (if (b: Int)=0 then none else some (PV.int (Int.fmod a b)))=_
  rw [if_neg (by lia),Int.fmod_eq_emod_of_nonneg _ (Int.natCast_nonneg _)]
  rfl
theorem zow {l: List Nat} {i: Nat} {c: Nat} (hi: i < 1000000000) (h: l[i]? = some c): subP (.str (tx l)) (.int i)=some (.str (tx [c])):=by
  have hc: (decide (0<=(i: Int)) && decide ((i: Int) < 1000000000))=true:=by simp; lia
  have: (tx l).cps[i]? = some c:=by simpa using h
  rw [zw5 hc,Int.toNat_natCast,this]; rfl
theorem zhi {l: List Nat} {i: Nat} {c: Nat} (hi: i < 1000000000) (h: l[i]? = some c): subP (.lit (tx l)) (.int i)=some (.str (tx [c])):=by
  have hc: (decide (0<=(i: Int)) && decide ((i: Int) < 1000000000))=true:=by simp; lia
  have: (tx l).cps[i]? = some c:=by simpa using h
  rw [zw6 hc,Int.toNat_natCast,this]; rfl
theorem zce {l: List PV} {i: Nat} {v: PV} (hi: i < 1000000000) (h: l[i]? = some v): subP (.list l) (.int i)=some v:=by
  have hc: (decide (0<=(i: Int)) && decide ((i: Int) < 1000000000))=true:=by simp; lia
  rw [znw hc,Int.toNat_natCast,h]
theorem zlt {a b: List Nat} (h: a.length + b.length<=16777216): binP .Add (.str (tx a)) (.str (tx b))=some (.str (tx (a ++ b))):=by
  show (if zak _=true then some (PV.str _) else none)=_
  rw [if_pos (szok (by rw [zfk,zfk]; exact h)),zvc]
theorem e_tx {a b: List Nat}: cmpV .Eq (.str (tx a)) (.str (tx b))=some (decide (a=b)):=by
  show some (tx a == tx b)=_
  rw [z1r]
theorem zyf {a b: List Nat}: cmpV .Eq (.str (tx a)) (.lit (tx b))=some (decide (a=b)):=by
  show some (tx a == tx b)=_
  rw [z1r]
theorem zmj {G: GT} {e: PE} {ρ: Rho} {l: List Nat} (hg: G.gv "len" = some (.bi "len")) (h: zag G e ρ=some (.str (tx l))): zag G (.call (.glob "len") [e]) ρ=some (.int (l.length: Nat)):=
  zao (zal hg) (zac h zai) (by show some (PV.int ((tx l).length: Nat))=_; rw [zfk])
theorem zp9 {G: GT} {e: PE} {ρ: Rho} {l: List PV} (hg: G.gv "len" = some (.bi "len")) (h: zag G e ρ=some (.list l)): zag G (.call (.glob "len") [e]) ρ=some (.int (l.length: Nat)):=
  zao (zal hg) (zac h zai) rfl
noncomputable def zvk (h: Nat) (signs: List Nat): Nat -> List Bool -> List Nat -> List Nat
  | _,[],p=>p
  | i,true :: r,p=>zvk h signs (i + 1) r (p ++ [signs.getD (i % signs.length) 0])
  | i,false :: r,p=>zvk h signs (i + 1) r (p.flatMap (escC (chainOf h)))
theorem zyg (d: Nat) (args: List PV): (G2 (d + 1)).fns "_law_page" args=zei (G2 d) zg5 zg6 zl4 args:=rfl
theorem zih (d: Nat): (G2 d).gv "len" = some (.bi "len"):=by rw [zcf]; rfl
theorem z10 {h: Nat} (hh: h < 5) (a: Nat): (escC (chainOf h) a).length<=6:=by
  have:=zov h hh
  simp only [zkx,Bool.and_eq_true] at this
  exact zrg this.2 a
noncomputable abbrev zyh: List PS:=[.asg 2 (.ifx (.cmp .Eq (.var 0) (.var 5)) (.bin .Add (.var 2) (.sub (.var 3) (.bin .Mod (.var 1) (.call (.glob "len") [(.var 3)])))) (.call (.var 4) [(.var 2)]))]
theorem zvl {d h: Nat} (hh: h < 5) {signs: List Nat} (hs: 0 < signs.length) (hs2: signs.length < 1000) {x y: Nat} (hxy: x ≠ y) {v6: Slot}: ∀ (r: List Bool) (i: Nat) (p: List Nat) (o0 o1: Option Slot),(p.length + 1) * 7 ^ r.length<=100000 -> i + r.length < 1000 ->
    ∃ o0' o1',zfx (G2 (d + 1)) [1,0] false zyh (zbo i (lets (word x y r))) [o0,o1,some (.val (.str (tx p))),some (.val (.str (tx signs))),some (.val (.fn (zb4 h))),some (.val (.str (tx [x]))),some v6] =
      some (.next [o0',o1',some (.val (.str (tx (zvk h signs i r p)))),some (.val (.str (tx signs))),some (.val (.fn (zb4 h))),some (.val (.str (tx [x]))),some v6]):=by
  intro zz
  induction zz with
  | nil=>exact fun i p o0 o1 _ _=>⟨o0,o1,rfl⟩
  | cons b r ih=>
    intro i p o0 o1 hp hi
    rw [List.length_cons,Nat.pow_succ] at hp
    have hp7: 1<=7 ^ r.length:=Nat.pos_of_ne_zero (by simp)
    have hpl: p.length<=100000:=by
      have: (p.length + 1) * 1<=(p.length + 1) * (7 ^ r.length * 7):=Nat.mul_le_mul_left _ (by lia)
      lia
    have e1: (p.length + 1) * (7 ^ r.length * 7)=(7 * (p.length + 1)) * 7 ^ r.length:=by grind
    rw [e1] at hp
    have hbound: ∀ q: List Nat,q.length + 1<=7 * (p.length + 1) -> (q.length + 1) * 7 ^ r.length<=100000:=fun q hq=>Nat.le_trans (Nat.mul_le_mul_right _ hq) hp
    rw [List.length_cons] at hi
    cases b with
    | true=>
      have hc: i % signs.length < signs.length:=Nat.mod_lt _ hs
      have hgd: signs[i % signs.length]? = some (signs.getD (i % signs.length) 0):=by rw [List.getD_eq_getElem?_getD,List.getElem?_eq_getElem hc]; rfl
      obtain ⟨o0',o1',e⟩:=ih (i + 1) (p ++ [signs.getD (i % signs.length) 0]) (some (.val (.str (tx [x])))) (some (.val (.int i))) (hbound _ (by simp; lia)) (by lia)
      refine ⟨o0',o1',(zci ?_).trans e⟩
      refine zad (zaz (zdj (c:=true) (zav (zaa rfl) (zaa rfl) (by rw [e_tx]; simp)) ?_)) zbc
      exact zaf (zaa rfl) (za9 (zaa rfl) (zaf (zaa rfl) (zmj (zih _) (zaa rfl)) (zrh hs)) (zow (by lia) hgd)) (zlt (by simp; exact Nat.le_trans ‹_› (by decide)))
    | false=>
      obtain ⟨o0',o1',e⟩:=ih (i + 1) (p.flatMap (escC (chainOf h))) (some (.val (.str (tx [y])))) (some (.val (.int i))) (hbound _ (by
        have:=zng (z10 hh) p; lia)) (by lia)
      refine ⟨o0',o1',(zci ?_).trans e⟩
      refine zad (zaz (zdj (c:=false) (zav (zaa rfl) (zaa rfl) (by rw [e_tx]; simp [Ne.symm hxy])) ?_)) zbc
      exact zao (zaa rfl) (zac (zaa rfl) zai) (z1z d hh p hpl)
theorem zyi {d h: Nat} (hh: h < 5) {signs: List Nat} (hs: 0 < signs.length) (hs2: signs.length < 1000) {x y: Nat} (hxy: x ≠ y) {r: List Bool} (hr: r.length<=5) :
    (G2 (d + 2)).fns "_law_page" [.str (tx (word x y r)),.str (tx [x]),.fn (zb4 h),.str (tx signs)]=some (.str (tx (zvk h signs 0 r []))):=by
  rw [zyg]
  refine zby rfl ?_
  have hp: (([]: List Nat).length + 1) * 7 ^ r.length<=100000:=by
    have: 7 ^ r.length<=7 ^ 5:=Nat.pow_le_pow_right (by decide) hr
    simp; exact Nat.le_trans ‹_› (by decide)
  obtain ⟨o0,o1,e⟩:=zvl (d:=d) hh hs hs2 hxy (v6:=.val (.str (tx (word x y r)))) r 0 [] none none hp (by lia)
  refine zad (zaz (v:=.str (tx [])) rfl) ?_
  refine zad (zid (items:=zbo 0 (lets (word x y r))) ?_ (by simp [znh]) e) ?_
  · show ((some (PV.str (tx (word x y r)))).bind fun x=>(enumItems x).map (zbo 0))=_
    rw [Option.bind_some,zvj]; rfl
  · exact zay (zcj (zaa rfl))
end Mine
namespace Mine
open PySem
noncomputable abbrev bits (x: Int): Nat:=Builtin.Int.intBits x
theorem zfz {x: Int} (h: x ≠ 0): bits x=x.natAbs.log2 + 1:=by
  unfold bits Builtin.Int.intBits
  rw [if_neg (by simpa using h)]
theorem zkz: bits 0=0:=rfl
theorem zch {x: Int} {k: Nat} (h: x.natAbs < 2 ^ k): bits x<=k:=by
  by_cases hx: x=0
  · subst hx; exact Nat.zero_le _
  · rw [zfz hx]
    exact (Nat.log2_lt (by lia)).mpr h
theorem zhj (x: Int): x.natAbs < 2 ^ bits x:=by
  by_cases hx: x=0
  · subst hx; decide
  · rw [zfz hx]
    exact Nat.lt_log2_self
theorem zd9 {x: Int} (h: 0 < x): 1<=bits x:=by rw [zfz (Int.ne_of_gt ‹_›)]; exact Nat.le_add_left _ _
theorem z11 {x: Int} (h: 0 < x): 2 ^ (bits x - 1)<=x.natAbs:=by
  rw [zfz (Int.ne_of_gt ‹_›),Nat.add_sub_cancel]
  exact Nat.log2_self_le (by lia)
theorem p2 (n: Nat): (0: Int) < 2 ^ n:=Int.pow_pos (by decide)
theorem zvm {x: Int} {k: Nat} (h0: 0<=x) (h: x < 2 ^ k): x.natAbs < 2 ^ k:=by
  have: ((x.natAbs: Nat): Int) < ((2 ^ k: Nat): Int):=by
    rw [Int.natAbs_of_nonneg h0]; simpa using h
  exact Int.ofNat_lt.mp this
theorem zas {x: Int} {k: Nat} (h0: 0<=x) (h: x < 2 ^ k): bits x<=k:=zch (zvm h0 h)
theorem zc1 {x: Int} (h0: 0<=x): x < 2 ^ bits x:=by
  have:=zhj x
  have: ((x.natAbs: Nat): Int) < ((2 ^ bits x: Nat): Int):=Int.ofNat_lt.mpr this
  rw [Int.natAbs_of_nonneg h0] at this; simpa using this
theorem zi9 {x: Int} (h: 0 < x): 2 ^ (bits x - 1)<=x:=by
  have:=z11 h
  have: ((2 ^ (bits x - 1): Nat): Int)<=((x.natAbs: Nat): Int):=Int.ofNat_le.mpr this
  rw [Int.natAbs_of_nonneg (Int.le_of_lt ‹_›)] at this; simpa using this
theorem cdiv {b n: Nat} (hn: 1<=n): b<=n * ((b + n - 1) / n):=by
  have e:=Nat.div_add_mod (b + n - 1) n
  have r:=Nat.mod_lt (b + n - 1) hn
  generalize n * ((b + n - 1) / n)=P at e ⊢
  generalize (b + n - 1) % n=Q at e r
  have h: b + n<=P + Q + 1:=by rw [e,Nat.sub_add_cancel (Nat.le_trans hn (Nat.le_add_left _ _))]; exact Nat.le_refl _
  exact Nat.le_of_add_le_add_right (Nat.le_trans h (Nat.add_le_add_left r P))
theorem zfb {x: Int} {k: Nat} (h0: 0<=x): Builtin.bitAnd x (2 ^ k - 1)=x % 2 ^ k:=by
  have hm: (0: Int)<=2 ^ k - 1:=by have:=p2 k; lia
  unfold Builtin.bitAnd
  rw [decide_eq_true h0,decide_eq_true hm]
  show (((x.toNat &&& ((2: Int) ^ k - 1).toNat: Nat)): Int)=x % 2 ^ k
  have e: ((2: Int) ^ k - 1).toNat=2 ^ k - 1:=by
    have: ((2: Int) ^ k)=((2 ^ k: Nat): Int):=by simp
    rw [this]; exact zqz _
  rw [e,Nat.and_two_pow_sub_one_eq_mod]
  have: x=(x.toNat: Int):=(Int.toNat_of_nonneg h0).symm
  conv=>rhs; rw [this]
  simp
theorem zss {x: Int} (h0: 0<=x): Builtin.bitAnd x 1=x % 2:=by
  have:=zfb (x:=x) (k:=1) h0
  simpa using this
theorem zox {x y: Int} {k: Nat} (hx: 0<=x) (hy: 0<=y) (h: y < 2 ^ k): Builtin.bitOr (x * 2 ^ k) y=x * 2 ^ k + y:=by
  have hxk: 0<=x * 2 ^ k:=Int.mul_nonneg hx (Int.le_of_lt (p2 k))
  unfold Builtin.bitOr Builtin.bitAnd Builtin.bitNot
  rw [decide_eq_false (by lia),decide_eq_false (by lia)]
  show -(-(((-(-(x * 2 ^ k) - 1) - 1).toNat ||| (-(-y - 1) - 1).toNat: Nat): Int) - 1) - 1=_
  have e1: -(-(x * 2 ^ k) - 1) - 1=x * 2 ^ k:=by lia
  have e2: -(-y - 1) - 1=y:=by lia
  rw [e1,e2]
  have hx': x=(x.toNat: Int):=(Int.toNat_of_nonneg hx).symm
  have hy': y=(y.toNat: Int):=(Int.toNat_of_nonneg ‹_›).symm
  have e3: (x * 2 ^ k).toNat=2 ^ k * x.toNat:=by
    rw [hx']
    have: ((x.toNat: Int) * 2 ^ k)=((x.toNat * 2 ^ k: Nat): Int):=by simp
    rw [this,Int.toNat_natCast,Int.toNat_natCast,Nat.mul_comm]
  have h': y.toNat < 2 ^ k:=by
    have: ((y.toNat: Nat): Int) < ((2 ^ k: Nat): Int):=by rw [<- hy']; simpa using h
    exact Int.ofNat_lt.mp this
  rw [e3,<- Nat.two_pow_add_eq_or_of_lt h']
  have: ((2 ^ k * x.toNat + y.toNat: Nat): Int)=x * 2 ^ k + y:=by
    rw [Int.natCast_add,Int.natCast_mul,<- hx',<- hy',Int.mul_comm]; simp
  lia
theorem zri {x: Int} {k: Nat}: x.fdiv (2 ^ k)=x / 2 ^ k:=Int.fdiv_eq_ediv_of_nonneg _ (Int.le_of_lt (p2 k))
theorem zf0 {a b q r: Int} (h: a=q * b + r) (h0: 0<=r) (h1: r < b): a / b=q/\a % b=r:=by
  have hb: 0 < b:=Int.lt_of_le_of_lt ‹_› ‹_›
  subst h
  constructor
  · rw [Int.add_comm,Int.add_mul_ediv_right _ _ (Int.ne_of_gt ‹_›),Int.ediv_eq_zero_of_lt h0 h1,Int.zero_add]
  · rw [Int.add_comm,Int.add_mul_emod_self_right,Int.emod_eq_of_lt h0 h1]
theorem zvn (h: Nat): (2: Int) ^ (2 * h)=2 ^ h * 2 ^ h:=by rw [Nat.two_mul,Int.pow_add]
end Mine
namespace Mine
open PySem PySem.W PySem.Calls PyProof.Rows PySem.Challenge
theorem zoy {x: Int} {n: Nat}: binP .RShift (.int x) (.int n)=some (.int (x / 2 ^ n)):=by
  show (if (0: Int)<=(n: Int) then some (PV.int (x.fdiv (2 ^ (n: Int).toNat))) else none)=_
  rw [if_pos (Int.natCast_nonneg n),Int.toNat_natCast,zri]
theorem zni {x: Int} {n: Nat} (h: bits x + n<=134217728): binP .LShift (.int x) (.int n)=some (.int (x * 2 ^ n)):=by
  have: zd5 ((Builtin.Int.intBits x: Int) + (n: Int))=true:=by unfold zd5; exact decide_eq_true (by unfold bits at h; exact Int.ofNat_le.mpr ‹_›)
  show (if (decide ((0: Int)<=(n: Int)) && zd5 ((Builtin.Int.intBits x: Int) + (n: Int)))=true then some (PV.int (x * 2 ^ (n: Int).toNat)) else none)=_
  rw [this,decide_eq_true (Int.natCast_nonneg n),Int.toNat_natCast]; rfl
theorem zja {x y: Int} (h: bits x + bits y<=134217728): binP .Mult (.int x) (.int y)=some (.int (x * y)):=by
  have: zc0 x y=true:=by unfold zc0; simp; exact .inr h
  exact if_pos this
theorem z4g {x: Int} {n: Nat} (h: bits x + n<=134217728): augP .LShift (.int x) (.int n)=some (.int (x * 2 ^ n)):=by
  have: zd5 ((Builtin.Int.intBits x: Int) + (n: Int))=true:=by unfold zd5; exact decide_eq_true (by unfold bits at h; exact Int.ofNat_le.mpr ‹_›)
  show (if (decide ((0: Int)<=(n: Int)) && zd5 ((Builtin.Int.intBits x: Int) + (n: Int)))=true then some (PV.int (x * 2 ^ (n: Int).toNat)) else none)=_
  rw [this,decide_eq_true (Int.natCast_nonneg n),Int.toNat_natCast]; rfl
theorem z5q {x: Int} {n: Nat}: augP .RShift (.int x) (.int n)=some (.int (x / 2 ^ n)):=by
  show (if (0: Int)<=(n: Int) then some (PV.int (x.fdiv (2 ^ (n: Int).toNat))) else none)=_
  rw [if_pos (Int.natCast_nonneg n),Int.toNat_natCast,zri]
theorem zqa (d: Nat) (args: List PV): (G2 (d + 1)).fns "_div3n2n" args=zei (G2 d) zir zis znz args:=rfl
theorem zk0 (d: Nat) (args: List PV): (G2 (d + 1)).fns "_div2n1n" args=zei (G2 d) zio ziq zny args:=rfl
theorem zvo (d: Nat): (G2 d).gv "_div2n1n" = some (.fn "_div2n1n"):=by rw [zcf]; rfl
theorem zvp (d: Nat): (G2 d).gv "_div3n2n" = some (.fn "_div3n2n"):=by rw [zcf]; rfl
theorem zvq (d: Nat): (G2 d).gv "_DIV_LIMIT" = some (.int 4000):=by rw [zcf]; rfl
theorem zoz (d: Nat): (G2 d).gv "divmod" = some (.bi "divmod"):=by rw [zcf]; rfl
theorem zyj {G: GT} {t: PE} {body: List PS} {ρ: Rho} {r: Option Out} (h: zd6 (fun ρ'=>za2 G t ρ') (fun ρ'=>zap G body ρ') 6 ρ=r): zbr G (.whileS t body) ρ=r:=by simp only [xE]; exact h
noncomputable abbrev zqb (q r a12 a3 b b1 b2: Int) (n: Nat): Rho:=[some (.val (.int r)),some (.val (.int q)),some (.val (.int n)),some (.val (.int b2)),some (.val (.int b1)),some (.val (.int b)),some (.val (.int a3)),some (.val (.int a12))]
theorem zst {G: GT} {a12 a3 b b1 b2: Int} {n: Nat} (hb: 0 < b): ∀ (fuel: Nat) (k: Nat) (q r: Int),k < fuel -> -((k: Int) * b)<=r -> r < b ->
    ∃ j: Int,zd6 (fun ρ'=>za2 G (.cmp .Lt (.var 0) (.int 0)) ρ') (fun ρ'=>zap G [.aug 1 .Sub (.int 1),.aug 0 .Add (.var 5)] ρ') fuel (zqb q r a12 a3 b b1 b2 n)=some (.next (zqb (q - j) (r + j * b) a12 a3 b b1 b2 n))/\0<=r + j * b/\r + j * b < b:=by
  intro zz
  induction zz with
  | zero=>intro k q r hk _ _; lia
  | succ fuel ih=>
    intro k q r hk h1 h2
    by_cases hr: r < 0
    · cases k with
      | zero=>simp at h1; exact absurd h1 (Int.not_le.mpr hr)
      | succ k=>
        have h1': -((k: Int) * b)<=r + b:=by
          have: ((k + 1: Nat): Int) * b=(k: Int) * b + b:=by rw [Int.natCast_add,Int.add_mul]; simp
          lia
        obtain ⟨j,e,h3,h4⟩:=ih k (q - 1) (r + b) (Nat.le_of_lt_succ ‹_›) h1' (by lia)
        refine ⟨j + 1,?_,?_,?_⟩
        · have ht: za2 G (.cmp .Lt (.var 0) (.int 0)) (zqb q r a12 a3 b b1 b2 n)=some true:=zav (zaa rfl) rfl (by show some (decide (r < 0))=_; rw [decide_eq_true hr])
          have hs: zap G [.aug 1 .Sub (.int 1),.aug 0 .Add (.var 5)] (zqb q r a12 a3 b b1 b2 n)=some (.next (zqb (q - 1) (r + b) a12 a3 b b1 b2 n)):=
            zad (zkv rfl rfl rfl) (zad (zkv rfl (zaa rfl) rfl) zbc)
          rw [z1n ht hs,e]
          have e1: q - 1 - j=q - (j + 1):=by lia
          have e2: r + b + j * b=r + (j + 1) * b:=by rw [Int.add_mul]; lia
          rw [e1,e2]
        · have e2: r + b + j * b=r + (j + 1) * b:=by rw [Int.add_mul]; lia
          lia
        · have e2: r + b + j * b=r + (j + 1) * b:=by rw [Int.add_mul]; lia
          lia
    · refine ⟨0,?_,by lia,by lia⟩
      have ht: za2 G (.cmp .Lt (.var 0) (.int 0)) (zqb q r a12 a3 b b1 b2 n)=some false:=zav (zaa rfl) rfl (by show some (decide (r < 0))=_; rw [decide_eq_false hr])
      rw [z1o ht]
      simp
theorem z4h {d: Nat} {a12 a3 b b1 b2: Int} {n: Nat} (hn: 1<=n) (hN: n<=1000000) (hb: b=b1 * 2 ^ n + b2) (h20: 0<=b2) (h21: b2 < 2 ^ n) (h10: 2 ^ (n - 1)<=b1) (h11: b1 < 2 ^ n) (h30: 0<=a3) (h31: a3 < 2 ^ n) (h00: 0<=a12) (h01: a12 * 2 ^ n + a3 < b * 2 ^ n)
    (ih: ∀ a,0<=a -> a < b1 * 2 ^ n -> (G2 d).fns "_div2n1n" [.int a,.int b1,.int n]=some (.tuple [.int (a / b1),.int (a % b1)])) :
    (G2 (d + 1)).fns "_div3n2n" [.int a12,.int a3,.int b,.int b1,.int b2,.int n]=some (.tuple [.int ((a12 * 2 ^ n + a3) / b),.int ((a12 * 2 ^ n + a3) % b)]):=by
  rw [zqa]
  have hp:=p2 n
  have hp1:=p2 (n - 1)
  have hpp: (2: Int) ^ n=2 * 2 ^ (n - 1):=by
    have: n=(n - 1) + 1:=(Nat.sub_add_cancel ‹_›).symm
    conv=>lhs; rw [this,Int.pow_succ]
    lia
  have hb1: 0 < b1:=by lia
  have hab: a12 < b:=by
    have: a12 * 2 ^ n < b * 2 ^ n:=by lia
    exact Int.lt_of_mul_lt_mul_right this (Int.le_of_lt hp)
  have hup: a12 / 2 ^ n<=b1:=by
    have: a12 < (b1 + 1) * 2 ^ n:=by rw [Int.add_mul]; lia
    have:=Int.ediv_lt_of_lt_mul hp this
    lia
  have hbl: b1 * 2 ^ n<=b:=by lia
  obtain ⟨q,r,hq0,hq1,hr0,hqr,hrb,hex⟩: ∃ q r: Int,0<=q/\q < 2 ^ n/\0<=r/\a12=q * b1 + r/\r * 2 ^ n + a3 - q * b2 < b /\
      zbr (G2 d) (.ite (.cmp .Eq (.bin .RShift (.var 7) (.var 2)) (.var 4)) [.asgT [1,0] (.tuple [(.bin .Sub (.bin .LShift (.int 1) (.var 2)) (.int 1)),(.bin .Add (.bin .Sub (.var 7) (.bin .LShift (.var 4) (.var 2))) (.var 4))])] [.asgT [1,0] (.call (.glob "_div2n1n") [(.var 7),(.var 4),(.var 2)])])
        [none,none,some (.val (.int n)),some (.val (.int b2)),some (.val (.int b1)),some (.val (.int b)),some (.val (.int a3)),some (.val (.int a12))]=some (.next (zqb q r a12 a3 b b1 b2 n)):=by
    by_cases hc: a12 / 2 ^ n=b1
    · refine ⟨2 ^ n - 1,a12 - b1 * 2 ^ n + b1,by lia,by lia,?_,?_,?_,?_⟩
      · have:=Int.ediv_mul_le a12 (show (2: Int) ^ n ≠ 0 from Int.ne_of_gt ‹_›)
        rw [hc] at this
        lia
      · rw [Int.sub_mul,Int.one_mul,Int.mul_comm b1]; lia
      · have e1: (a12 - b1 * 2 ^ n + b1) * 2 ^ n + a3 - (2 ^ n - 1) * b2=a12 * 2 ^ n + a3 - (b * 2 ^ n - b):=by
          rw [hb]; grind
        rw [e1]; lia
      · refine zcs (c:=true) (zav (zaf (zaa rfl) (zaa rfl) zoy) (zaa rfl) ?_) ?_
        · show some ((a12 / 2 ^ n) == b1)=_
          rw [beq_iff_eq.mpr hc]
        · refine zad (zcn (zbv (zac (zaf (zaf rfl (zaa rfl) (zni ?_)) rfl rfl) (zac (zaf (zaf (zaa rfl) (zaf (zaa rfl) (zaa rfl) (zni ?_)) rfl) (zaa rfl) rfl) zai))) rfl) ?_
          · have: bits 1=1:=by decide
            lia
          · have:=zas (x:=b1) (Int.le_of_lt ‹_›) h11
            lia
          · rw [Int.one_mul]; exact zbc
    · have hlt: a12 < b1 * 2 ^ n:=Int.lt_mul_of_ediv_lt hp (by lia)
      refine ⟨a12 / b1,a12 % b1,Int.ediv_nonneg h00 (Int.le_of_lt ‹_›),Int.ediv_lt_of_lt_mul hb1 (by rw [Int.mul_comm]; exact hlt),Int.emod_nonneg _ (Int.ne_of_gt ‹_›),by rw [Int.mul_comm]; exact (Int.mul_ediv_add_emod a12 b1).symm,?_,?_⟩
      · have h1:=Int.emod_lt_of_pos a12 hb1
        have h2: 0<=a12 / b1 * b2:=Int.mul_nonneg (Int.ediv_nonneg h00 (Int.le_of_lt ‹_›)) h20
        have h3: (a12 % b1 + 1) * 2 ^ n<=b1 * 2 ^ n:=Int.mul_le_mul_of_nonneg_right ‹_› (Int.le_of_lt ‹_›)
        rw [Int.add_mul] at h3
        lia
      · refine zcs (c:=false) (zav (zaf (zaa rfl) (zaa rfl) zoy) (zaa rfl) ?_) ?_
        · show some ((a12 / 2 ^ n) == b1)=_
          rw [beq_eq_false_iff_ne.mpr hc]
        · exact zad (zcn (zao (zal (zvo d)) (zac (zaa rfl) (zac (zaa rfl) (zac (zaa rfl) zai))) (ih a12 h00 hlt)) rfl) zbc
  have hA: a12 * 2 ^ n + a3=q * b + (r * 2 ^ n + a3 - q * b2):=by
    rw [hqr,hb]; grind
  have hqb: q * b2<=2 * b:=by
    have h1: q * b2<=2 ^ n * 2 ^ n:=Int.mul_le_mul (Int.le_of_lt ‹_›) (Int.le_of_lt ‹_›) h20 (Int.le_of_lt ‹_›)
    have h2: 2 ^ (n - 1) * 2 ^ n<=b1 * 2 ^ n:=Int.mul_le_mul_of_nonneg_right h10 (Int.le_of_lt ‹_›)
    have h3: (2: Int) ^ n * 2 ^ n=2 * (2 ^ (n - 1) * 2 ^ n):=by
      conv=>lhs; lhs; rw [hpp]
      rw [Int.mul_assoc]
    lia
  have hR0: 0<=r * 2 ^ n:=Int.mul_nonneg hr0 (Int.le_of_lt ‹_›)
  obtain ⟨j,hw,hw0,hw1⟩:=zst (G:=G2 d) (a12:=a12) (a3:=a3) (b:=b) (b1:=b1) (b2:=b2) (n:=n) (by lia) 6 2 q (r * 2 ^ n + a3 - q * b2) (Nat.le_add_left _ _) (by lia) hrb
  have hres:=zf0 (a:=a12 * 2 ^ n + a3) (b:=b) (q:=q - j) (r:=r * 2 ^ n + a3 - q * b2 + j * b) (by rw [hA,Int.sub_mul]; lia) hw0 hw1
  rw [hres.1,hres.2]
  have hrbits: bits r<=n + n + 1:=by
    refine zas hr0 ?_
    have h1: r<=a12:=by
      have: 0<=q * b1:=Int.mul_nonneg hq0 (Int.le_of_lt ‹_›)
      lia
    have h2: b1 * 2 ^ n + b2 < 2 ^ n * 2 ^ n + 2 ^ n:=by
      have: b1 * 2 ^ n<=2 ^ n * 2 ^ n:=Int.mul_le_mul_of_nonneg_right (Int.le_of_lt ‹_›) (Int.le_of_lt ‹_›)
      lia
    have h3: (2: Int) ^ (n + n + 1)=2 * (2 ^ n * 2 ^ n):=by rw [Int.pow_succ,Int.pow_add]; lia
    have h4: (2: Int) ^ n * 1<=2 ^ n * 2 ^ n:=Int.mul_le_mul_of_nonneg_left ‹_› (Int.le_of_lt ‹_›)
    lia
  refine zby rfl ?_
  refine zad hex ?_
  refine zad (zaz (zaf (zaf (zaf (zaa rfl) (zaa rfl) (zni (by lia))) (zaa rfl) rfl) (zaf (zaa rfl) (zaa rfl) (zja ?_)) rfl)) ?_
  · have h1:=zas hq0 hq1
    have h2:=zas h20 h21
    lia
  · rw [zox hr0 h30 h31]
    refine zad (zyj hw) ?_
    exact zay (zcj (zbv (zac (zaa rfl) (zac (zaa rfl) zai))))
theorem zfc {m n: Nat} (h: m<=n): (2: Int) ^ m<=2 ^ n:=by
  obtain ⟨k,rfl⟩:=Nat.le.dest h
  rw [Int.pow_add]
  have h1:=p2 m
  have h2:=p2 k
  have: (2: Int) ^ m * 1<=2 ^ m * 2 ^ k:=Int.mul_le_mul_of_nonneg_left ‹_› (Int.le_of_lt ‹_›)
  lia
theorem noPylong {x y: Int} (h: bits x<=bits y + 4000): Builtin.divisionGoesByPylong x y=false:=by
  unfold Builtin.divisionGoesByPylong
  simp only [Bool.and_eq_false_iff,decide_eq_false_iff_not]
  by_cases hx: x=0
  · subst hx; right; simp
  · by_cases hy: y=0
    · subst hy; left; simp
    · right
      rw [zfz hx,zfz hy] at h
      rw [if_neg (by simpa using hx),if_neg (by simpa using hy)]
      lia
theorem zk1 {a b: Int} (ha: 0<=a) (hb: 0 < b) (h: bits a<=bits b + 4000): zmt (G2 d) (.bi "divmod") [.int a,.int b]=some (.tuple [.int (a / b),.int (a % b)]):=by
  have e0: zcb "divmod" [.int a,.int b]=bDm [.int a,.int b]:=(if_neg (by decide)).trans ((if_neg (by decide)).trans ((if_neg (by decide)).trans ((if_neg (by decide)).trans (if_pos rfl))))
  refine e0.trans ?_
  show (if b=0 then none else if Builtin.divisionGoesByPylong a b then none else some (PV.tuple [.int (a.fdiv b),.int (a.fmod b)]))=_
  have h1: a.fdiv b=a / b:=Int.fdiv_eq_ediv_of_nonneg _ (Int.le_of_lt ‹_›)
  have h2: a.fmod b=a % b:=Int.fmod_eq_emod_of_nonneg _ (Int.le_of_lt ‹_›)
  have hb0: ¬ b=0:=Int.ne_of_gt ‹_›
  rw [if_neg hb0,noPylong h,h1,h2]; rfl
theorem zo0 {G: GT} {e: PE} {ρ: Rho} {x: Int} (h: zag G e ρ=some (.int x)): zag G (.meth e (Str.ofString "bit_length") []) ρ=some (.int (bits x)):=by
  simp only [eE,h,Option.bind_some,pE]
  rfl
noncomputable abbrev z5r (a b: Int) (n: Nat) (pad half mask b1 b2 q1 r q2: Option Slot): Rho:=[q2,r,q1,b2,b1,mask,half,pad,some (.val (.int n)),some (.val (.int b)),some (.val (.int a))]
theorem z5s: ∀ (m d: Nat),2 * m<=d -> ∀ (n: Nat),1<=n -> n<=4000 * 2 ^ m -> n<=500000 -> ∀ a b: Int,0<=a -> 2 ^ (n - 1)<=b -> b < 2 ^ n -> a < b * 2 ^ n ->
    (G2 (d + 1)).fns "_div2n1n" [.int a,.int b,.int n]=some (.tuple [.int (a / b),.int (a % b)]):=by
  intro m
  induction m with
  | zero=>
    intro d _ n hn1 hnm hN a b ha hb1 hb2 hab
    have hbp: 0 < b:=Int.lt_of_lt_of_le (p2 (n - 1)) hb1
    have hbb: bits b=n:=by
      have h1:=zas (Int.le_of_lt ‹_›) hb2
      have h2: ¬ bits b<=n - 1:=fun h=>by
        have h3:=zc1 (x:=b) (Int.le_of_lt ‹_›)
        exact absurd (Int.lt_of_lt_of_le h3 (zfc h)) (Int.not_lt.mpr hb1)
      exact Nat.le_antisymm h1 (Nat.le_of_pred_lt (Nat.lt_of_not_le h2))
    have hba: bits a<=n + n:=zas ha (by
      have: b * 2 ^ n<=2 ^ n * 2 ^ n:=Int.mul_le_mul_of_nonneg_right (Int.le_of_lt ‹_›) (Int.le_of_lt (p2 n))
      rw [Int.pow_add]; lia)
    rw [zk0]
    refine zby rfl ?_
    refine zay (zcs (c:=true) (zav (zaf (zo0 (zaa rfl)) (zaa rfl) rfl) (zal (zvq d)) ?_) ?_)
    · show some (decide ((bits a: Int) - n<=4000))=_
      rw [decide_eq_true (by simp only [Nat.pow_zero] at hnm; lia)]
    · refine zay (zcj (zao (zal (zoz d)) (zac (zaa rfl) (zac (zaa rfl) zai)) (zk1 ha hbp (by simp only [Nat.pow_zero] at hnm; lia))))
  | succ m ih=>
    intro d hd n hn1 hnm hN a b ha hb1 hb2 hab
    have hbp: 0 < b:=Int.lt_of_lt_of_le (p2 (n - 1)) hb1
    have hbb: bits b=n:=by
      have h1:=zas (Int.le_of_lt ‹_›) hb2
      have h2: ¬ bits b<=n - 1:=fun h=>by
        have h3:=zc1 (x:=b) (Int.le_of_lt ‹_›)
        exact absurd (Int.lt_of_lt_of_le h3 (zfc h)) (Int.not_lt.mpr hb1)
      exact Nat.le_antisymm h1 (Nat.le_of_pred_lt (Nat.lt_of_not_le h2))
    rw [zk0]
    by_cases hdir: (bits a: Int) - n<=4000
    · refine zby rfl ?_
      refine zay (zcs (c:=true) (zav (zaf (zo0 (zaa rfl)) (zaa rfl) rfl) (zal (zvq d)) ?_) ?_)
      · show some (decide ((bits a: Int) - n<=4000))=_
        rw [decide_eq_true hdir]
      · refine zay (zcj (zao (zal (zoz d)) (zac (zaa rfl) (zac (zaa rfl) zai)) (zk1 ha hbp (by lia))))
    · obtain ⟨e,rfl⟩: ∃ e,d=e + 2:=⟨d - 2,(Nat.sub_add_cancel (Nat.le_trans (Nat.le_add_left 2 (2 * m)) ‹2 * (m + 1)<=d›)).symm⟩
      have hba: bits a<=n + n:=zas ha (by
        have: b * 2 ^ n<=2 ^ n * 2 ^ n:=Int.mul_le_mul_of_nonneg_right (Int.le_of_lt ‹_›) (Int.le_of_lt (p2 n))
        rw [Int.pow_add]; lia)
      have core: ∀ (a' b': Int) (h: Nat) (pd: Int),1<=h -> h<=4000 * 2 ^ m -> h<=500000 -> 0<=a' -> 2 ^ (2 * h - 1)<=b' -> b' < 2 ^ (2 * h) -> a' < b' * 2 ^ (2 * h) ->
          zap (G2 (e + 2)) [.asg 6 (.bin .RShift (.var 8) (.int 1)),.asg 5 (.bin .Sub (.bin .LShift (.int 1) (.var 6)) (.int 1)),.asgT [4,3] (.tuple [(.bin .RShift (.var 9) (.var 6)),(.bin .BitAnd (.var 9) (.var 5))]),
            .asgT [2,1] (.call (.glob "_div3n2n") [(.bin .RShift (.var 10) (.var 8)),(.bin .BitAnd (.bin .RShift (.var 10) (.var 6)) (.var 5)),(.var 9),(.var 4),(.var 3),(.var 6)]),
            .asgT [0,1] (.call (.glob "_div3n2n") [(.var 1),(.bin .BitAnd (.var 10) (.var 5)),(.var 9),(.var 4),(.var 3),(.var 6)]),
            .ite (.var 7) [.aug 1 .RShift (.int 1)] [],.ret (.tuple [(.bin .BitOr (.bin .LShift (.var 2) (.var 6)) (.var 0)),(.var 1)])]
            (z5r a' b' (2 * h) (some (.val (.int pd))) none none none none none none none)=some (.ret (.tuple [.int (a' / b'),.int (if pd=0 then a' % b' else a' % b' / 2)])):=by
        intro a' b' h pd h1 hm hN' ha' hb1' hb2' hab'
        have hp:=p2 h
        have hpp:=zvn h
        have hbp': 0 < b':=Int.lt_of_lt_of_le (p2 (2 * h - 1)) hb1'
        have b2def: b'=b' / 2 ^ h * 2 ^ h + b' % 2 ^ h:=by rw [Int.mul_comm]; exact (Int.mul_ediv_add_emod b' (2 ^ h)).symm
        have m0: 0<=b' % 2 ^ h:=Int.emod_nonneg _ (Int.ne_of_gt ‹_›)
        have m1: b' % 2 ^ h < 2 ^ h:=Int.emod_lt_of_pos _ hp
        have b1lo: 2 ^ (h - 1)<=b' / 2 ^ h:=by
          refine Int.le_ediv_of_mul_le hp ?_
          have: (2: Int) ^ (h - 1) * 2 ^ h=2 ^ (2 * h - 1):=by rw [<- Int.pow_add]; congr 1; exact (Nat.sub_add_comm h1).symm.trans (by rw [Nat.two_mul])
          lia
        have b1hi: b' / 2 ^ h < 2 ^ h:=Int.ediv_lt_of_lt_mul hp (by rw [<- hpp]; exact hb2')
        have ihh: ∀ a,0<=a -> a < b' / 2 ^ h * 2 ^ h -> (G2 (e + 1)).fns "_div2n1n" [.int a,.int (b' / 2 ^ h),.int h]=some (.tuple [.int (a / (b' / 2 ^ h)),.int (a % (b' / 2 ^ h))]):=fun a h0 h1'=>ih e (by lia) h h1 hm hN' a (b' / 2 ^ h) h0 b1lo b1hi h1'
        have A1: a' / 2 ^ (2 * h) * 2 ^ h + a' / 2 ^ h % 2 ^ h=a' / 2 ^ h:=by
          rw [hpp,<- Int.ediv_ediv_of_nonneg (Int.le_of_lt hp)]
          have:=Int.mul_ediv_add_emod (a' / 2 ^ h) (2 ^ h)
          rw [Int.mul_comm] at this; exact this
        have A1lt: a' / 2 ^ h < b' * 2 ^ h:=Int.ediv_lt_of_lt_mul hp (by rw [Int.mul_assoc,<- hpp]; exact hab')
        have x0: 0<=a' / 2 ^ h % 2 ^ h:=Int.emod_nonneg _ (Int.ne_of_gt ‹_›)
        have x1: a' / 2 ^ h % 2 ^ h < 2 ^ h:=Int.emod_lt_of_pos _ hp
        have c1:=z4h (d:=e + 1) (a12:=a' / 2 ^ (2 * h)) (a3:=a' / 2 ^ h % 2 ^ h) (b:=b') (b1:=b' / 2 ^ h) (b2:=b' % 2 ^ h) (n:=h) h1 (Nat.le_trans ‹_› (by decide)) b2def m0 m1 b1lo b1hi x0 x1 (Int.ediv_nonneg ha' (Int.le_of_lt (p2 _))) (by rw [A1]; exact A1lt) ihh
        rw [A1] at c1
        have r0: 0<=a' / 2 ^ h % b':=Int.emod_nonneg _ (Int.ne_of_gt ‹_›)
        have r1: a' / 2 ^ h % b' < b':=Int.emod_lt_of_pos _ hbp'
        have y0: 0<=a' % 2 ^ h:=Int.emod_nonneg _ (Int.ne_of_gt ‹_›)
        have y1: a' % 2 ^ h < 2 ^ h:=Int.emod_lt_of_pos _ hp
        have A2lt: a' / 2 ^ h % b' * 2 ^ h + a' % 2 ^ h < b' * 2 ^ h:=by
          have: (a' / 2 ^ h % b' + 1) * 2 ^ h<=b' * 2 ^ h:=Int.mul_le_mul_of_nonneg_right ‹_› (Int.le_of_lt ‹_›)
          rw [Int.add_mul] at this; lia
        have A20: 0<=a' / 2 ^ h % b' * 2 ^ h + a' % 2 ^ h:=by
          have:=Int.mul_nonneg r0 (Int.le_of_lt hp)
          lia
        have c2:=z4h (d:=e + 1) (a12:=a' / 2 ^ h % b') (a3:=a' % 2 ^ h) (b:=b') (b1:=b' / 2 ^ h) (b2:=b' % 2 ^ h) (n:=h) h1 (Nat.le_trans ‹_› (by decide)) b2def m0 m1 b1lo b1hi y0 y1 r0 A2lt ihh
        generalize hA2: a' / 2 ^ h % b' * 2 ^ h + a' % 2 ^ h=A2 at c2 A2lt A20
        have hh: ((2 * h: Nat): Int) / 2 ^ 1=(h: Int):=by simp
        have q20: 0<=A2 / b':=Int.ediv_nonneg A20 (Int.le_of_lt ‹_›)
        have q21: A2 / b' < 2 ^ h:=Int.ediv_lt_of_lt_mul hbp' (by rw [Int.mul_comm]; exact A2lt)
        have q10: 0<=a' / 2 ^ h / b':=Int.ediv_nonneg (Int.ediv_nonneg ha' (Int.le_of_lt ‹_›)) (Int.le_of_lt ‹_›)
        have q11: a' / 2 ^ h / b' < 2 ^ h:=Int.ediv_lt_of_lt_mul hbp' (by rw [Int.mul_comm]; exact A1lt)
        have whole:=zf0 (a:=a') (b:=b') (q:=a' / 2 ^ h / b' * 2 ^ h + A2 / b') (r:=A2 % b') (by
          have e1:=Int.mul_ediv_add_emod a' (2 ^ h)
          have e2:=Int.mul_ediv_add_emod (a' / 2 ^ h) b'
          have e3:=Int.mul_ediv_add_emod A2 b'
          generalize a' / 2 ^ h / b'=Q1 at *
          generalize A2 / b'=Q2 at *
          generalize A2 % b'=R2 at *
          generalize a' / 2 ^ h % b'=R1 at *
          generalize a' % 2 ^ h=Y at *
          rw [<- e2] at e1
          rw [<- e1]
          grind) (Int.emod_nonneg _ (Int.ne_of_gt ‹_›)) (Int.emod_lt_of_pos _ hbp')
        rw [whole.1,whole.2]
        refine zad (zaz (v:=.int h) (zaf (zaa rfl) rfl ?_)) ?_
        · have:=zoy (x:=((2 * h: Nat): Int)) (n:=1)
          rw [hh] at this; exact this
        refine zad (zaz (v:=.int (2 ^ h - 1)) (zaf (zaf rfl (zaa rfl) (zni ?_)) rfl ?_)) ?_
        · have: bits 1=1:=by decide
          lia
        · show some (PV.int (1 * 2 ^ h - 1))=_
          rw [Int.one_mul]
        refine zad (zcn (xs:=[.int (b' / 2 ^ h),.int (b' % 2 ^ h)]) (zbv (zac (zaf (zaa rfl) (zaa rfl) zoy) (zac (zaf (zaa rfl) (zaa rfl) ?_) zai))) rfl) ?_
        · show some (PV.int (Builtin.bitAnd b' (2 ^ h - 1)))=_
          rw [zfb (Int.le_of_lt ‹_›)]
        refine zad (zcn (xs:=[.int (a' / 2 ^ h / b'),.int (a' / 2 ^ h % b')]) (zao (zal (zvp _)) (zac (zaf (zaa rfl) (zaa rfl) zoy) (zac (zaf (z:=.int (a' / 2 ^ h % 2 ^ h)) (zaf (zaa rfl) (zaa rfl) zoy) (zaa rfl) ?_) (zac (zaa rfl) (zac (zaa rfl) (zac (zaa rfl) (zac (zaa rfl) zai)))))) c1) rfl) ?_
        · show some (PV.int (Builtin.bitAnd (a' / 2 ^ h) (2 ^ h - 1)))=_
          rw [zfb (Int.ediv_nonneg ha' (Int.le_of_lt ‹_›))]
        refine zad (zcn (zao (zal (zvp _)) (zac (zaa rfl) (zac (zaf (z:=.int (a' % 2 ^ h)) (zaa rfl) (zaa rfl) ?_) (zac (zaa rfl) (zac (zaa rfl) (zac (zaa rfl) (zac (zaa rfl) zai)))))) c2) rfl) ?_
        · show some (PV.int (Builtin.bitAnd a' (2 ^ h - 1)))=_
          rw [zfb ha']
        have hor: binP .BitOr (.int (a' / 2 ^ h / b' * 2 ^ h)) (.int (A2 / b'))=some (.int (a' / 2 ^ h / b' * 2 ^ h + A2 / b')):=by
          show some (PV.int (Builtin.bitOr (a' / 2 ^ h / b' * 2 ^ h) (A2 / b')))=_
          rw [zox q10 q20 q21]
        have hq1b: bits (a' / 2 ^ h / b') + h<=134217728:=by
          have:=zas q10 q11
          lia
        by_cases hpd: pd=0
        · subst hpd
          refine zad (zcs (c:=false) (zie rfl rfl) zbc) ?_
          rw [if_pos rfl]
          exact zay (zcj (zbv (zac (zaf (zaf (zaa rfl) (zaa rfl) (zni hq1b)) (zaa rfl) hor) (zac (zaa rfl) zai))))
        · refine zad (zcs (c:=true) (zie rfl (by show some (pd != 0)=_; rw [bne_iff_ne.mpr hpd])) (zad (zkv rfl rfl (z5q (n:=1))) zbc)) ?_
          rw [if_neg hpd]
          exact zay (zcj (zbv (zac (zaf (zaf (zaa rfl) (zaa rfl) (zni hq1b)) (zaa rfl) hor) (zac (zaa rfl) zai))))
      refine zby rfl ?_
      refine zad (zcs (c:=false) (zav (zaf (zo0 (zaa rfl)) (zaa rfl) rfl) (zal (zvq _)) ?_) zbc) ?_
      · show some (decide ((bits a: Int) - n<=4000))=_
        rw [decide_eq_false hdir]
      refine zad (zaz (v:=.int ((n: Int) % 2)) (zaf (zaa rfl) rfl ?_)) ?_
      · show some (PV.int (Builtin.bitAnd n 1))=_
        rw [zss (Int.natCast_nonneg _)]
      by_cases hodd: (n: Int) % 2=0
      · obtain ⟨h,hh⟩: ∃ h,n=2 * h:=⟨n / 2,by lia⟩
        subst hh
        rw [hodd]
        refine zad (zcs (c:=false) (zie rfl rfl) zbc) ?_
        have:=core a b h 0 (by lia) (by rw [Nat.pow_succ] at hnm; lia) (by lia) ha hb1 hb2 hab
        rw [if_pos rfl] at this
        exact this
      · obtain ⟨h,hh⟩: ∃ h,n + 1=2 * h:=⟨(n + 1) / 2,by lia⟩
        have hodd1: (n: Int) % 2=1:=by lia
        rw [hodd1]
        refine zad (zcs (c:=true) (zie rfl rfl) (zad (zkv rfl rfl (z4g (n:=1) (by lia))) (zad (zkv rfl rfl (z4g (n:=1) (by lia))) (zad (zkv rfl rfl rfl) zbc)))) ?_
        have e1: (2: Int) ^ (2 * h)=2 ^ n * 2:=by rw [<- hh,Int.pow_succ]
        have e2: (2: Int) ^ (2 * h - 1)=2 ^ (n - 1) * 2:=by
          have: 2 * h - 1=(n - 1) + 1:=by rw [<- hh,Nat.add_sub_cancel,Nat.sub_add_cancel ‹1<=n›]
          rw [this,Int.pow_succ]
        have:=core (a * 2 ^ 1) (b * 2 ^ 1) h 1 (by lia) (by rw [Nat.pow_succ] at hnm; lia) (by lia) (by lia) (by rw [e2]; lia) (by rw [e1]; lia) (by
          rw [e1]
          have: b * 2 ^ 1 * (2 ^ n * 2)=b * 2 ^ n * 4:=by grind
          rw [this]
          have hh0: 0<=b * 2 ^ n:=Int.mul_nonneg (Int.le_of_lt ‹_›) (Int.le_of_lt (p2 n))
          lia)
        rw [if_neg (by decide)] at this
        have e34:=zf0 (a:=a * 2 ^ 1) (b:=b * 2 ^ 1) (q:=a / b) (r:=a % b * 2) (by
          have:=Int.mul_ediv_add_emod a b
          generalize a / b=Q at *
          generalize a % b=R at *
          rw [<- this]; grind) (by have:=Int.emod_nonneg a (show b ≠ 0 from Int.ne_of_gt ‹_›); lia) (by have:=Int.emod_lt_of_pos a hbp; lia)
        have e3:=e34.1
        have e4: a * 2 ^ 1 % (b * 2 ^ 1) / 2=a % b:=by rw [e34.2]; exact Int.mul_ediv_cancel _ (by decide)
        rw [e3,e4] at this
        have e5: ((n: Int) + 1)=((2 * h: Nat): Int):=by lia
        rw [<- this]
        show zap _ _ [none,none,none,none,none,none,none,some (.val (.int 1)),some (.val (.int ((n: Int) + 1))),some (.val (.int (b * 2 ^ 1))),some (.val (.int (a * 2 ^ 1)))]=_
        rw [e5]
noncomputable def figs (N: Nat) (a: Int): Nat -> List Int
  | 0=>[]
  | c + 1=>a % 2 ^ N :: figs N (a / 2 ^ N) c
theorem zqc: (∀ N a,figs N a 0=[])/\(∀ N a c,figs N a (c + 1)=a % 2 ^ N :: figs N (a / 2 ^ N) c):=⟨fun _ _=>rfl,fun _ _ _=>rfl⟩
theorem zsu (N: Nat): ∀ (c: Nat) (a: Int),0<=a -> (List.range c).map (fun k=>a / 2 ^ (N * k) % 2 ^ N)=figs N a c:=by
  intro zz
  induction zz with
  | zero=>exact fun a _=>rfl
  | succ c ih=>
    intro a ha
    rw [List.range_succ_eq_map,List.map_cons,List.map_map]
    simp only [Nat.mul_zero,Int.pow_zero,Int.ediv_one,zqc,List.cons.injEq,true_and]
    rw [<- ih (a / 2 ^ N) (Int.ediv_nonneg ha (Int.le_of_lt (p2 N)))]
    apply List.map_congr_left
    intro k _
    show a / 2 ^ (N * (k + 1)) % 2 ^ N=_
    rw [Nat.mul_add,Nat.mul_one,Nat.add_comm,Int.pow_add,<- Int.ediv_ediv_of_nonneg (Int.le_of_lt (p2 N))]
theorem zc2 {a: Int} {N: Nat} (ha: 0<=a): digitsOf a N=figs N a ((bits a + N - 1) / N):=by
  unfold digitsOf
  simp only [Int.toNat_natCast]
  exact zsu N _ a ha
theorem zk2 (N: Nat): ∀ (c: Nat) (a: Int),(figs N a c).length=c:=by
  intro zz
  induction zz with
  | zero=>exact fun _=>rfl
  | succ c ih=>intro a; simp [zqc,ih]
theorem znj (N: Nat): ∀ (c: Nat) (a: Int),0<=a -> a < 2 ^ (N * c) -> numberOf N (figs N a c)=a:=by
  intro zz
  induction zz with
  | zero=>intro a h0 h; simp at h; simp [zqc,zca]; lia
  | succ c ih=>
    intro a h0 h
    have hp:=p2 N
    simp only [zqc,zca,Int.toNat_natCast]
    rw [ih (a / 2 ^ N) (Int.ediv_nonneg h0 (Int.le_of_lt hp)) (Int.ediv_lt_of_lt_mul hp (by
      rw [<- Int.pow_add]; have: N * c + N=N * (c + 1):=by rw [Nat.mul_add,Nat.mul_one]
      rw [this]; exact h)),Int.mul_comm]
    exact Int.mul_ediv_add_emod a (2 ^ N)
theorem zsv (N: Nat): ∀ (c: Nat) (a: Int),∀ x ∈ figs N a c,0<=x/\x < 2 ^ N:=by
  intro zz
  induction zz with
  | zero=>intro a x h; cases h
  | succ c ih=>
    intro a x h
    rcases List.mem_cons.mp h with rfl | h
    · exact ⟨Int.emod_nonneg _ (by have:=p2 N; exact Int.ne_of_gt ‹_›),Int.emod_lt_of_pos _ (p2 N)⟩
    · exact ih _ x h
theorem zk3 {a: Int} {N: Nat} (ha: 0<=a) (hN: 1<=N): numberOf N (digitsOf a N)=a:=by
  rw [zc2 ha]
  refine znj N _ a ha ?_
  have h1:=zc1 ha
  have h2: bits a<=N * ((bits a + N - 1) / N):=cdiv ‹_›
  have:=zfc h2
  lia
noncomputable def highs (N: Nat): Int -> List Int -> Int
  | v,[]=>v
  | v,x :: xs=>highs N (v * 2 ^ N + x) xs
theorem z4i (N: Nat) (v x: Int) (xs: List Int): highs N v (x :: xs)=highs N (v * 2 ^ N + x) xs:=rfl
theorem zo1 (N: Nat): ∀ (xs: List Int) (v y: Int),highs N v (xs ++ [y])=highs N v xs * 2 ^ N + y:=by
  intro zz
  induction zz with
  | nil=>exact fun v y=>rfl
  | cons x xs ih=>exact fun v y=>ih _ y
theorem zgx (N: Nat): ∀ (l: List Int),numberOf N l=highs N 0 l.reverse:=by
  intro zz
  induction zz with
  | nil=>exact rfl
  | cons x l ih=>
    rw [List.reverse_cons,zo1,<- ih]
    simp [zca]
noncomputable def ldiv (N: Nat) (b: Int): Int -> List Int -> List Int × Int
  | r,[]=>([],r)
  | r,x :: xs=>((r * 2 ^ N + x) / b :: (ldiv N b ((r * 2 ^ N + x) % b) xs).1,(ldiv N b ((r * 2 ^ N + x) % b) xs).2)
theorem zyk: (∀ N b r,ldiv N b r []=([],r))/\(∀ N b r x xs,ldiv N b r (x :: xs)=((r * 2 ^ N + x) / b :: (ldiv N b ((r * 2 ^ N + x) % b) xs).1,(ldiv N b ((r * 2 ^ N + x) % b) xs).2)):=⟨fun _ _ _=>rfl,fun _ _ _ _ _=>rfl⟩
theorem zvr (N: Nat) {b: Int} (hb: 0 < b): ∀ (xs: List Int) (Q r: Int),0<=r -> r < b -> highs N (Q * b + r) xs=highs N Q (ldiv N b r xs).1 * b + (ldiv N b r xs).2/\0<=(ldiv N b r xs).2/\(ldiv N b r xs).2 < b:=by
  intro zz
  induction zz with
  | nil=>exact fun Q r h0 h1=>⟨rfl,h0,h1⟩
  | cons x xs ih=>
    intro Q r h0 h1
    have ih:=ih (Q * 2 ^ N + (r * 2 ^ N + x) / b) ((r * 2 ^ N + x) % b) (Int.emod_nonneg _ (Int.ne_of_gt ‹_›)) (Int.emod_lt_of_pos _ hb)
    refine ⟨?_,ih.2⟩
    simp only [z4i,zyk]
    rw [<- ih.1]
    congr 1
    have:=Int.mul_ediv_add_emod (r * 2 ^ N + x) b
    generalize (r * 2 ^ N + x) / b=q at *
    generalize (r * 2 ^ N + x) % b=t at *
    have e: (Q * b + r) * 2 ^ N + x=Q * b * 2 ^ N + (r * 2 ^ N + x):=by rw [Int.add_mul]; lia
    rw [e,<- this]; grind
theorem zqd (N: Nat) (b: Int): ∀ (xs: List Int) (r: Int),(ldiv N b r xs).1.length=xs.length:=by
  intro zz
  induction zz with
  | nil=>exact fun _=>rfl
  | cons x xs ih=>intro r; simp [zyk,ih]
theorem zsw (N: Nat) {b: Int} (hb: 0 < b): ∀ (xs: List Int) (r: Int),(∀ x ∈ xs,0<=x/\x < 2 ^ N) -> 0<=r -> r < b -> ∀ q ∈ (ldiv N b r xs).1,0<=q/\q < 2 ^ N:=by
  intro zz
  induction zz with
  | nil=>intro r _ _ _ q h; cases h
  | cons x xs ih=>
    intro r hx h0 h1 q h
    have hp:=p2 N
    have hxx:=hx x List.mem_cons_self
    rcases List.mem_cons.mp h with rfl | h
    · refine ⟨Int.ediv_nonneg (by have:=Int.mul_nonneg h0 (Int.le_of_lt hp); lia) (Int.le_of_lt ‹_›),Int.ediv_lt_of_lt_mul hb ?_⟩
      have: (r + 1) * 2 ^ N<=b * 2 ^ N:=Int.mul_le_mul_of_nonneg_right ‹_› (Int.le_of_lt ‹_›)
      rw [Int.add_mul] at this
      rw [Int.mul_comm (2 ^ N)]; lia
    · exact ih _ (fun y hy=>hx y (List.mem_cons_of_mem _ hy)) (Int.emod_nonneg _ (Int.ne_of_gt ‹_›)) (Int.emod_lt_of_pos _ hb) q h
theorem zlu (d: Nat) (args: List PV): (G2 (d + 1)).fns "_divmod_pos" args=zei (G2 d) ze0 ze1 zjj args:=rfl
theorem zz1 (d: Nat): (G2 d).gv "_int2digits" = some (.fn "_int2digits"):=by rw [zcf]; rfl
theorem zz2 (d: Nat): (G2 d).gv "_digits2int" = some (.fn "_digits2int"):=by rw [zcf]; rfl
theorem z4j (d: Nat): (G2 d).gv "_divmod_pos" = some (.fn "_divmod_pos"):=by rw [zcf]; rfl
theorem zo2 (d: Nat): (G2 d).gv "int_divmod" = some (.fn "int_divmod"):=by rw [zcf]; rfl
theorem zrj {d: Nat} {a: Int} {n: Nat} (ha: 0<=a) (hn: 1<=n) (hN: n<=1000000) (hl: (digitsOf a n).length<=64) (hd: 8<=d): zmt (G2 (d + 1)) (.fn "_int2digits") [.int a,.int n]=some (.list ((digitsOf a n).map .int)):=by
  show zdr d "_int2digits" [.int a,.int n]=_
  unfold zdr
  rw [if_pos rfl]
  exact if_pos ⟨ha,(Int.ofNat_lt.mpr ‹_›),by lia,hl,hd⟩
theorem zrk {d: Nat} {l: List Int} {n: Nat} (hn: 1<=n) (hN: n<=1000000) (hl: l.length<=64) (hb: ∀ x ∈ l,bits x<=1000000) (hd: 8<=d): zmt (G2 (d + 1)) (.fn "_digits2int") [.list (l.map .int),.int n]=some (.int (numberOf n l)):=by
  show zdr d "_digits2int" [.list (l.map .int),.int n]=_
  unfold zdr
  rw [if_neg (by decide),if_pos rfl]
  show (zgk (l.map PV.int)).bind _=_
  rw [zh9,Option.bind_some]
  exact if_pos ⟨(Int.ofNat_lt.mpr ‹_›),(Int.ofNat_le.mpr ‹_›),hl,List.all_eq_true.mpr fun x hx=>decide_eq_true (hb x hx),hd⟩
theorem zyl {d m: Nat} (hd: 2 * m<=d) {n: Nat} (hn: 1<=n) (hnm: n<=4000 * 2 ^ m) (hN: n<=500000) {a b: Int} {ads: PV} (hb1: 2 ^ (n - 1)<=b) (hb2: b < 2 ^ n) :
    ∀ (xs qs: List Int) (r: Int) (o1 o2: Option Slot),(∀ x ∈ xs,0<=x/\x < 2 ^ n) -> 0<=r -> r < b -> qs.length + xs.length<=1000 ->
      ∃ o1' o2',zfx (G2 (d + 1)) [2] true [.asgT [1,4] (.call (.glob "_div2n1n") [(.bin .Add (.bin .LShift (.var 4) (.var 6)) (.var 2)),(.var 7),(.var 6)]),.app 3 (.var 1)] (xs.map .int)
        [none,o1,o2,some (.own (qs.map .int)),some (.val (.int r)),some (.val ads),some (.val (.int n)),some (.val (.int b)),some (.val (.int a))] =
        some (.next [none,o1',o2',some (.own ((qs ++ (ldiv n b r xs).1).map .int)),some (.val (.int (ldiv n b r xs).2)),some (.val ads),some (.val (.int n)),some (.val (.int b)),some (.val (.int a))]):=by
  intro zz
  induction zz with
  | nil=>exact fun qs r o1 o2 _ _ _ _=>⟨o1,o2,by simp [zya,zyk]⟩
  | cons x xs ih=>
    intro qs r o1 o2 hx h0 h1 hl
    have hp:=p2 n
    have hbp: 0 < b:=Int.lt_of_lt_of_le (p2 (n - 1)) hb1
    have hxx:=hx x List.mem_cons_self
    have ht0: 0<=r * 2 ^ n + x:=by have:=Int.mul_nonneg h0 (Int.le_of_lt hp); lia
    have ht1: r * 2 ^ n + x < b * 2 ^ n:=by
      have: (r + 1) * 2 ^ n<=b * 2 ^ n:=Int.mul_le_mul_of_nonneg_right ‹_› (Int.le_of_lt ‹_›)
      rw [Int.add_mul] at this; lia
    have hc:=z5s m d hd n hn hnm hN (r * 2 ^ n + x) b ht0 hb1 hb2 ht1
    simp only [List.length_cons] at hl
    obtain ⟨o1',o2',e⟩:=ih (qs ++ [(r * 2 ^ n + x) / b]) ((r * 2 ^ n + x) % b) (some (.val (.int ((r * 2 ^ n + x) / b)))) (some (.val (.int x))) (fun y hy=>hx y (List.mem_cons_of_mem _ hy)) (Int.emod_nonneg _ (Int.ne_of_gt ‹_›)) (Int.emod_lt_of_pos _ hbp) (by simp; lia)
    refine ⟨o1',o2',(zci (ρ':=[none,some (.val (.int ((r * 2 ^ n + x) / b))),some (.val (.int x)),some (.own ((qs ++ [(r * 2 ^ n + x) / b]).map .int)),some (.val (.int ((r * 2 ^ n + x) % b))),some (.val ads),some (.val (.int n)),some (.val (.int b)),some (.val (.int a))]) ?_).trans ?_⟩
    · refine zad (zcn (zao (zal (zvo _)) (zac (zaf (zaf (zaa rfl) (zaa rfl) (zni ?_)) (zaa rfl) rfl) (zac (zaa rfl) (zac (zaa rfl) zai))) hc) rfl) ?_
      · have:=zas h0 (Int.lt_trans h1 hb2)
        lia
      · have:=zzz (G:=G2 (d + 1)) (t:=3) (e:=.var 1) (ρ:=[none,some (.val (.int ((r * 2 ^ n + x) / b))),some (.val (.int x)),some (.own (qs.map .int)),some (.val (.int ((r * 2 ^ n + x) % b))),some (.val ads),some (.val (.int n)),some (.val (.int b)),some (.val (.int a))]) rfl (zaa rfl) (by simp; lia)
        refine zad this ?_
        rw [List.map_append]
        exact zbc
    · rw [e]
      simp only [zyk,List.append_assoc,List.singleton_append]
theorem zsx {d m: Nat} (hd: 2 * m<=d) (h8: 8<=d) {a b: Int} (ha: 0<=a) (hb: 0 < b) (hbm: bits b<=4000 * 2 ^ m) (hN: bits b<=500000) (hl: (bits a + bits b - 1) / bits b<=64) :
    (G2 (d + 2)).fns "_divmod_pos" [.int a,.int b]=some (.tuple [.int (a / b),.int (a % b)]):=by
  rw [zlu]
  have hn1: 1<=bits b:=zd9 hb
  have hb1:=zi9 hb
  have hb2:=zc1 (x:=b) (Int.le_of_lt ‹_›)
  generalize hn: bits b=n at *
  have hlen: (digitsOf a n).length<=64:=by rw [zc2 ha,zk2]; exact hl
  have hdb: ∀ x ∈ (digitsOf a n).reverse,0<=x/\x < 2 ^ n:=fun x hx=>zsv n _ a x (by rw [<- zc2 ha]; exact List.mem_reverse.mp hx)
  obtain ⟨o1,o2,e⟩:=zyl hd hn1 hbm hN (a:=a) (ads:=.list ((digitsOf a n).map .int)) hb1 hb2 (digitsOf a n).reverse [] 0 none none hdb (Int.le_refl _) hb (by simp; exact Nat.le_trans ‹_› (by decide))
  have hsp:=zvr n hb (digitsOf a n).reverse 0 0 (Int.le_refl _) hb
  have hqb:=zsw n hb (digitsOf a n).reverse 0 hdb (Int.le_refl _) hb
  have hql:=zqd n b (digitsOf a n).reverse 0
  generalize hL: ldiv n b 0 (digitsOf a n).reverse=L at *
  rw [Int.zero_mul,Int.zero_add,<- zgx,zk3 ha hn1] at hsp
  have hres:=zf0 hsp.1 hsp.2.1 hsp.2.2
  rw [hres.1,hres.2]
  refine zby rfl ?_
  refine zad (zaz (v:=.int n) ?_) ?_
  · have:=zo0 (G:=G2 (d + 1)) (e:=.var 7) (ρ:=[none,none,none,none,none,none,none,some (.val (.int b)),some (.val (.int a))]) (x:=b) (zaa rfl)
    rw [hn] at this; exact this
  refine zad (zaz (zao (zal (zz1 _)) (zac (zaa rfl) (zac (zaa rfl) zai)) (zrj ha hn1 (Nat.le_trans ‹_› (by decide)) hlen h8))) ?_
  refine zad (zaz rfl) ?_
  refine zad (zku (v:=.list []) rfl rfl) ?_
  refine zad (zid (items:=(digitsOf a n).reverse.map .int) ?_ rfl e) ?_
  · show some (((digitsOf a n).map PV.int).reverse)=_
    rw [List.map_reverse]
  refine zad (z1m rfl) ?_
  refine zad (zd2 rfl) ?_
  have hrev: (([] ++ L.1).map PV.int).reverse=(L.1.reverse).map PV.int:=by rw [List.nil_append,List.map_reverse]
  rw [hrev]
  refine zad (zaz (zao (zal (zz2 _)) (zac (zaa rfl) (zac (zaa rfl) zai)) (zrk hn1 (Nat.le_trans ‹_› (by decide)) ?_ ?_ h8))) ?_
  · rw [List.length_reverse,hql,List.length_reverse]; exact hlen
  · intro x hx
    have:=hqb x (List.mem_reverse.mp hx)
    have:=zas this.1 this.2
    lia
  · rw [zgx,List.reverse_reverse]
    exact zay (zcj (zbv (zac (zaa rfl) (zac (zaa rfl) zai))))
theorem zek (d: Nat) (args: List PV): (G2 (d + 1)).fns "int_divmod" args=zei (G2 d) ze2 ze3 zjk args:=rfl
theorem zgg {x y: Int} (h: x.natAbs<=y.natAbs): bits x<=bits y:=zch (Nat.lt_of_le_of_lt h (zhj y))
theorem zii {x: Int}: bits (-x)=bits x:=by
  exact Nat.le_antisymm (zgg (Nat.le_of_eq (Int.natAbs_neg x))) (zgg (Nat.le_of_eq (Int.natAbs_neg x).symm))
theorem zvs {a a' n: Nat} (h: a'<=a) (h2: (a + n - 1) / n<=64): (a' + n - 1) / n<=64:=Nat.le_trans (Nat.div_le_div_right (Nat.sub_le_sub_right (Nat.add_le_add_right h n) 1)) h2
theorem zrl {d m: Nat} (hd: 2 * m<=d) (h8: 8<=d) {a b: Int} (ha: 0<=a) (hb: 0 < b) (hbm: bits b<=4000 * 2 ^ m) (hN: bits b<=500000) (hl: (bits a + bits b - 1) / bits b<=64) :
    (G2 (d + 3)).fns "int_divmod" [.int a,.int b]=some (.tuple [.int (a / b),.int (a % b)]):=by
  rw [zek]
  refine zby rfl ?_
  refine zay (zcs (c:=false) (zav (zaa rfl) rfl (by show some (b == 0)=_; rw [beq_eq_false_iff_ne.mpr (Int.ne_of_gt ‹_›)])) ?_)
  refine zay (zcs (c:=false) (zav (zaa rfl) rfl (by show some (decide (b < 0))=_; rw [decide_eq_false (by lia)])) ?_)
  refine zay (zcs (c:=false) (zav (zaa rfl) rfl (by show some (decide (a < 0))=_; rw [decide_eq_false (by lia)])) ?_)
  exact zay (zcj (zao (zal (z4j _)) (zac (zaa rfl) (zac (zaa rfl) zai)) (zsx hd h8 ha hb hbm hN hl)))
theorem fdm {a b: Int} (hb: 0 < b): a.fdiv b=a / b/\a.fmod b=a % b:=⟨Int.fdiv_eq_ediv_of_nonneg _ (Int.le_of_lt ‹_›),Int.fmod_eq_emod_of_nonneg _ (Int.le_of_lt ‹_›)⟩
theorem zo3 {d m: Nat} (hd: 2 * m<=d) (h8: 8<=d) {a b: Int} (hb: 0 < b) (hbm: bits b<=4000 * 2 ^ m) (hN: bits b<=500000) (hl: (bits a + bits b - 1) / bits b<=64) :
    (G2 (d + 4)).fns "int_divmod" [.int a,.int b]=some (.tuple [.int (a / b),.int (a % b)]):=by
  by_cases ha: 0<=a
  · exact zrl (d:=d + 1) (by lia) (by lia) ha hb hbm hN hl
  · rw [zek]
    have ha': 0 <= -a - 1:=by lia
    have ih:=zrl hd h8 ha' hb hbm hN (zvs (zgg (by lia)) hl)
    have hdv:=zf0 (a:=a) (b:=b) (q:=-((-a - 1) / b) - 1) (r:=b + (-((-a - 1) % b) - 1)) (by
      have:=Int.mul_ediv_add_emod (-a - 1) b
      generalize (-a - 1) / b=Q at *
      generalize (-a - 1) % b=R at *
      have e: (-Q - 1) * b = -(b * Q) - b:=by grind
      rw [e]; lia) (by have:=Int.emod_lt_of_pos (-a - 1) hb; lia) (by have:=Int.emod_nonneg (-a - 1) (show b ≠ 0 from Int.ne_of_gt ‹_›); lia)
    rw [hdv.1,hdv.2]
    refine zby rfl ?_
    refine zay (zcs (c:=false) (zav (zaa rfl) rfl (by show some (b == 0)=_; rw [beq_eq_false_iff_ne.mpr (Int.ne_of_gt ‹_›)])) ?_)
    refine zay (zcs (c:=false) (zav (zaa rfl) rfl (by show some (decide (b < 0))=_; rw [decide_eq_false (by lia)])) ?_)
    refine zay (zcs (c:=true) (zav (zaa rfl) rfl (by show some (decide (a < 0))=_; rw [decide_eq_true (by lia)])) ?_)
    refine zad (zcn (zao (zal (zo2 _)) (zac (zu7 (zaa rfl)) (zac (zaa rfl) zai)) ih) rfl) ?_
    exact zay (zcj (zbv (zac (zu7 (zaa rfl)) (zac (zaf (zaa rfl) (zu7 (zaa rfl)) rfl) zai))))
theorem idiv {d m: Nat} (hd: 2 * m<=d) (h8: 8<=d) {a b: Int} (hb: b ≠ 0) (hbm: bits b<=4000 * 2 ^ m) (hN: bits b<=500000) (hl: (bits a + bits b - 1) / bits b<=64) :
    (G2 (d + 5)).fns "int_divmod" [.int a,.int b]=some (.tuple [.int (a.fdiv b),.int (a.fmod b)]):=by
  by_cases hb0: 0 < b
  · rw [(fdm hb0).1,(fdm hb0).2]
    exact zo3 (d:=d + 1) (by lia) (by lia) hb0 hbm hN hl
  · have hb': 0 < -b:=by lia
    have ih:=zo3 (a:=-a) (b:=-b) hd h8 hb' (by rw [zii]; exact hbm) (by rw [zii]; exact hN) (by rw [zii,zii]; exact hl)
    have e1: a.fdiv b = -a / -b:=by rw [<- (fdm hb').1,Int.neg_fdiv_neg]
    have e2: a.fmod b = -(-a % -b):=by
      have h1:=Int.fmod_def a b
      have h2:=Int.mul_ediv_add_emod (-a) (-b)
      rw [h1,e1]
      have e: b * (-a / -b) = -(-b * (-a / -b)):=by rw [Int.neg_mul,Int.neg_neg]
      rw [e]; lia
    rw [e1,e2,zek]
    refine zby rfl ?_
    refine zay (zcs (c:=false) (zav (zaa rfl) rfl (by show some (b == 0)=_; rw [beq_eq_false_iff_ne.mpr ‹_›])) ?_)
    refine zay (zcs (c:=true) (zav (zaa rfl) rfl (by show some (decide (b < 0))=_; rw [decide_eq_true (by lia)])) ?_)
    refine zad (zcn (zao (zal (zo2 _)) (zac (zos (zaa rfl)) (zac (zos (zaa rfl)) zai)) ih) rfl) ?_
    exact zay (zcj (zbv (zac (zaa rfl) (zac (zos (zaa rfl)) zai))))
end Mine
namespace Mine
open PySem PySem.Builtin PySem.Builtin.Str
set_option maxRecDepth 10000
theorem zk4 {x y: Int} (h: bits y<=9000): Builtin.divisionGoesByPylong x y=false:=by
  unfold Builtin.divisionGoesByPylong
  simp only [Bool.and_eq_false_iff,decide_eq_false_iff_not]
  left
  by_cases hy: y=0
  · subst hy; simp
  · rw [zfz hy] at h
    rw [if_neg (by simpa using hy)]
    lia
theorem fitsLong {a: Int} (h1: -1000000<=a) (h2: a<=10000000): Builtin.Range.rangeFitsLong a=true:=by
  unfold Builtin.Range.rangeFitsLong
  simp only [Bool.and_eq_true,decide_eq_true_eq]
  lia
theorem zjb {a b st: Int} (ha: 0<=a) (ha2: a<=1000000) (hb: 0<=b) (hb2: b<=1000000) (hs: 0 < st) (hs2: st<=1000): zbk a b st=true:=by
  have hsz: 0<=Builtin.Range.rangeSize a b st/\Builtin.Range.rangeSize a b st<=1000001:=by
    unfold Builtin.Range.rangeSize
    rw [if_pos hs]
    split
    · have h1: (b - a - 1) / st<=b - a - 1:=Int.ediv_le_self _ (by lia)
      have h2: 0<=(b - a - 1) / st:=Int.ediv_nonneg (by lia) (Int.le_of_lt ‹_›)
      lia
    · lia
  unfold zbk Builtin.Range.small
  have hp: Builtin.divisionGoesByPylong (b - a) st=false:=zk4 (by
    have: bits st<=40:=zch (by lia)
    exact Nat.le_trans ‹_› (by decide))
  rw [fitsLong (a:=a) (by lia) (by lia),fitsLong (a:=b) (by lia) (by lia),fitsLong (a:=st) (by lia) (by lia),fitsLong (a:=Builtin.Range.rangeSize a b st) (by lia) (by lia),if_pos hs,fitsLong (a:=b + (st - 1)) (by lia) (by lia),hp,
    decide_eq_true hs,decide_eq_true (show Builtin.Range.rangeSize a b st<=16777216 by lia)]
  simp
theorem zd3 (a b: Nat): zan (a: Int) (b: Int) 1=(List.range (b - a)).map fun k=>.int ((a + k: Nat): Int):=by
  unfold zan Builtin.Range.rangeSize
  have: (if (1: Int) > 0 then if (a: Int) < (b: Int) then ((b: Int) - (a: Int) - 1) / 1 + 1 else 0 else if (a: Int) > b then ((a: Int) - b - 1) / (-1) + 1 else 0).toNat=b - a:=by
    rw [if_pos (by decide)]
    split <;> lia
  rw [this]
  apply List.map_congr_left
  intro k _
  simp
theorem zo4 (b: Nat): zan 0 (b: Int) 1=(List.range b).map fun (k: Nat)=>.int (k: Int):=by
  have:=zd3 0 b
  simpa using this
section
variable {G: GT} {ρ: Rho}
theorem zdb (hg: G.gv "range" = some (.ty "range")) {e: PE} {n: Nat} (h: zag G e ρ=some (.int n)) (hn: n<=1000000): zen G (.plain (.call (.glob "range") [e])) ρ=some ((List.range n).map fun (k: Nat)=>.int (k: Int)):=by
  have h1: zag G (.call (.glob "range") [e]) ρ=some (.range 0 n 1):=zao (zal hg) (zac h zai) (z0h (zjb (Int.natCast_nonneg _) (Int.natCast_nonneg _) (Int.natCast_nonneg _) (Int.ofNat_le.mpr ‹_›) (Int.natCast_nonneg _) (Int.natCast_nonneg _)))
  simp only [pE,h1,Option.bind_some]
  show some (zan 0 n 1)=_
  rw [zo4]
theorem zij (hg: G.gv "range" = some (.ty "range")) {e f: PE} {a b: Nat} (h: zag G e ρ=some (.int a)) (h': zag G f ρ=some (.int b)) (ha: a<=1000000) (hb: b<=1000000): zag G (.call (.glob "range") [e,f]) ρ=some (.range a b 1):=
  zao (zal hg) (zac h (zac h' zai)) (ztq (zjb (Int.natCast_nonneg _) (Int.ofNat_le.mpr ‹_›) (Int.natCast_nonneg _) (Int.ofNat_le.mpr ‹_›) (Int.natCast_nonneg _) (Int.natCast_nonneg _)))
theorem zf1 (hg: G.gv "range" = some (.ty "range")) {e f: PE} {a b: Nat} (h: zag G e ρ=some (.int a)) (h': zag G f ρ=some (.int b)) (ha: a<=1000000) (hb: b<=1000000) :
    zen G (.plain (.call (.glob "range") [e,f])) ρ=some ((List.range (b - a)).map fun (k: Nat)=>.int ((a + k: Nat): Int)):=by
  simp only [pE,zij hg h h' ha hb,Option.bind_some]
  show some (zan a b 1)=_
  rw [zd3]
theorem zfd {e: PE} {xs: List PV} (h: zag G e ρ=some (.list xs)): zen G (.plain e) ρ=some xs:=by
  simp only [pE,h,Option.bind_some]; rfl
theorem zk5 {α β: Type} {F: PV -> Option β} {mk: α -> PV} {g: α -> β}: ∀ {l: List α},(∀ a ∈ l,F (mk a)=some (g a)) -> (l.map mk).mapM F=some (l.map g):=by
  intro zz
  induction zz with
  | nil=>exact fun _=>rfl
  | cons x xs ih=>
    intro h
    rw [List.map_cons,List.mapM_cons,h x List.mem_cons_self,ih fun y hy=>h y (List.mem_cons_of_mem _ hy)]
    rfl
theorem zvt {α β: Type} {g: α -> β}: ∀ l: List α,(l.map fun x=>[g x]).flatten=l.map g:=by
  intro zz
  induction zz with
  | nil=>exact rfl
  | cons x r ih=>simp [ih]
theorem zjp {α β: Type} {f: α -> Bool} {g: α -> β}: ∀ l: List α,(l.map fun x=>if f x then [g x] else []).flatten=(l.filter f).map g:=by
  intro zz
  induction zz with
  | nil=>exact rfl
  | cons x r ih=>cases hf: f x <;> simp [hf,ih]
theorem zbz {α: Type} {l: List α} {mk: α -> PV} {g: α -> PV} {t: Nat} {it: PI} {elt: PE} (h1: zen G it ρ=some (l.map mk)) (h3: ∀ a ∈ l,zag G elt (setR ρ t (.val (mk a)))=some (g a)) (hz: l.length<=16777216) :
    zag G (.comp elt [.mk [t] true it []]) ρ=some (.list (l.map g)):=by
  have:=zev (single:=true) (gs:=[]) (elt:=elt) (ifs:=[]) (ts:=[t]) (ls:=l.map fun a=>[g a]) h1 rfl (zk5 fun a ha=>by
    simp [znd,zbb,pE,h3 a ha])
  rw [zvt] at this
  exact zne this (by simpa using hz)
theorem zik {α: Type} {l: List α} {mk: α -> PV} {f: α -> Bool} {g: α -> PV} {t: Nat} {it: PI} {c elt: PE} (h1: zen G it ρ=some (l.map mk)) (h2: ∀ a ∈ l,za2 G c (setR ρ t (.val (mk a)))=some (f a)) (h3: ∀ a ∈ l,f a=true -> zag G elt (setR ρ t (.val (mk a)))=some (g a)) (hz: l.length<=16777216) :
    zag G (.comp elt [.mk [t] true it [c]]) ρ=some (.list ((l.filter f).map g)):=by
  have:=zev (single:=true) (gs:=[]) (elt:=elt) (ifs:=[c]) (ts:=[t]) (ls:=l.map fun a=>if f a then [g a] else []) h1 rfl (zk5 fun a ha=>by
    cases hf: f a with
    | true=>simp [znd,zbb,pE,h2 a ha,hf,h3 a ha hf]
    | false=>simp [znd,zbb,pE,h2 a ha,hf])
  rw [zjp] at this
  exact zne this (by simp; exact Nat.le_trans (List.length_filter_le ..) hz)
theorem zo5 {α β: Type} {l: List α} {mk: α -> PV} {l2: α -> List β} {mk2: β -> PV} {f: α -> β -> Bool} {g: α -> β -> PV} {t t2: Nat} {it it2: PI} {ifs: List PE} {elt: PE} (h1: zen G it ρ=some (l.map mk))
    (h2: ∀ a ∈ l,zen G it2 (setR ρ t (.val (mk a)))=some ((l2 a).map mk2)) (h3: ∀ a ∈ l,∀ b ∈ l2 a,allP G true ifs (setR (setR ρ t (.val (mk a))) t2 (.val (mk2 b)))=some (f a b))
    (h4: ∀ a ∈ l,∀ b ∈ l2 a,f a b=true -> zag G elt (setR (setR ρ t (.val (mk a))) t2 (.val (mk2 b)))=some (g a b)) (hz: (l.flatMap fun a=>((l2 a).filter (f a)).map (g a)).length<=16777216) :
    zag G (.comp elt [.mk [t] true it [],.mk [t2] true it2 ifs]) ρ=some (.list (l.flatMap fun a=>((l2 a).filter (f a)).map (g a))):=by
  refine zne ?_ hz
  have:=zev (single:=true) (gs:=[.mk [t2] true it2 ifs]) (elt:=elt) (ifs:=[]) (ts:=[t]) (ls:=l.map fun a=>((l2 a).filter (f a)).map (g a)) h1 rfl (zk5 fun a ha=>by
    have:=zev (single:=true) (gs:=[]) (elt:=elt) (ifs:=ifs) (ts:=[t2]) (ls:=(l2 a).map fun b=>if f a b then [g a b] else []) (h2 a ha) rfl (zk5 fun b hb=>by
      cases hf: f a b with
      | true=>simp [znd,zbb,pE,h3 a ha b hb,hf,h4 a ha b hb hf]
      | false=>simp [znd,zbb,pE,h3 a ha b hb,hf])
    rw [zjp] at this
    simp only [znd,zbb,if_true,pE,Option.bind_some]
    exact this)
  rw [this,List.flatMap_def]
end
theorem zbq (d: Nat): (G2 d).gv "range" = some (.ty "range"):=by rw [zcf]; rfl
theorem zo6: ∀ ls: List (List Nat),Str.join (tx []) (ls.map tx)=tx ls.flatten
  | []=>rfl
  | [a]=>by simp [Str.join]
  | a :: b :: r=>by
    have ih:=zo6 (b :: r)
    show tx a ++ tx [] ++ Str.join (tx []) ((b :: r).map tx)=_
    rw [ih,zvc,zvc]; simp
theorem z12: ∀ ls: List (List Nat),zhp (ls.map fun l=>.str (tx l))=some (ls.map tx):=by
  intro zz
  induction zz with
  | nil=>exact rfl
  | cons a r ih=>
    have ih:=ih
    unfold zhp at ih ⊢
    rw [List.map_cons,List.mapM_cons,ih]; rfl
theorem znk {G: GT} {ρ: Rho} {o: PE} {m: Str} {args: List PE} {s: Str} {as: List PV} {v: PV} (h1: zag G o ρ=some (.str s)) (h2: zbe G args ρ=some as) (h3: methP (.str s) m as=some v): zag G (.meth o m args) ρ=some v:=by
  simp only [eE,h1,h2,Option.bind_some,h3]; rfl
theorem zvu {G: GT} {ρ: Rho} {e: PE} {ls: List (List Nat)} (h: zag G e ρ=some (.list (ls.map fun l=>.str (tx l)))) (hz: ls.flatten.length<=16777216): zag G (.meth (.str "") (Str.ofString "join") [e]) ρ=some (.str (tx ls.flatten)):=by
  refine znk (s:=tx []) rfl (zac h zai) ?_
  have h1: ((ls.map tx).map (·.length)).sum + (ls.map tx).length * (tx []).length=ls.flatten.length:=by
    rw [List.map_map,zfk]
    have: ((fun x: Str=>x.length) ∘ tx)=List.length:=by funext l; exact zfk l
    rw [this,List.length_flatten]; simp
  rw [z5h (z12 _) (by rw [h1]; exact szok hz)]
  have: Txt.join (tx []) (ls.map tx)=Str.join (tx []) (ls.map tx):=StrLaws.glued_eq_join _ _
  rw [this,zo6]
theorem zvv {G: GT} {ρ: Rho} {o e: PE} {l: List Nat} {c: Nat} (h1: zag G o ρ=some (.str (tx l))) (h2: zag G e ρ=some (.str (tx [c]))): zag G (.meth o (Str.ofString "count") [e]) ρ=some (.int (l.count c: Nat)):=by
  refine znk h1 (zac h2 zai) ?_
  rw [countP]
  have: Txt.count (tx l) (tx [c])=(l.count c: Nat):=zvf l c
  rw [this]
theorem zfe {G: GT} {ρ: Rho} {a: PE} {lo hi: Option PE} {l: List Nat} {x y: Option Int} {p q: Nat} (h1: zag G a ρ=some (.str (tx l))) (h2: zj7 G lo ρ=some x) (h3: zj7 G hi ρ=some y) (hx: x=none/\p=0 \/ x=some (p: Int)) (hy: y=none/\q=l.length \/ y=some (q: Int)) (hpq: p<=q) :
    zag G (.slice a lo hi) ρ=some (.str (tx ((l.drop p).take (q - p)))):=by
  simp only [eE,h1,h2,h3,Option.bind_some]
  show some (PV.str (Txt.slice (tx l) x y))=_
  rw [zvg l hx hy hpq]
theorem zjc {G: GT} {ρ: Rho}: zj7 G none ρ=some none:=by simp only [pE]
theorem zf2 {G: GT} {ρ: Rho} {e: PE} {k: Int} (h: zag G e ρ=some (.int k)): zj7 G (some e) ρ=some (some k):=by simp only [pE,h,Option.bind_some]; rfl
theorem z5t {l: List Nat} {n: Int} (h0: -1000000 < n) (h1: n < 1000000) (hz: l.length * n.toNat<=16777216): binP .Mult (.str (tx l)) (.int n)=some (.str (tx (List.replicate n.toNat l).flatten)):=by
  refine (Option.bind_some n (fun n: Int=>if zak ((tx l).length * n.toNat) && (decide (n < 1000000) && decide (-1000000 < n)) then some (PV.str ⟨(List.replicate n.toNat (tx l).cps.toList).flatten.toArray⟩) else none)).trans ?_
  rw [if_pos (by simp [szok (show (tx l).length * n.toNat<=16777216 by rw [zfk]; exact hz),h0,h1])]
theorem zo7 {v: Nat -> PV} {c: Nat}: ∀ {l: List Nat},c ∈ l -> (l.map fun c=>(tx [c],v c)).lookup (tx [c])=some (v c)
  | a :: r,h=>by
    rw [List.map_cons,List.lookup_cons,z1r]
    by_cases hac: c=a
    · subst hac; simp
    · have: ¬ [c]=[a]:=by simpa using hac
      rw [decide_eq_false this]
      exact zo7 (by rcases List.mem_cons.mp h with h | h; exact absurd h hac; exact h)
noncomputable def zc3 (r: List Bool): List Nat:=(List.range r.length).filter fun i=>r.getD i false
noncomputable def amps (n: Nat): List Nat:=(List.replicate n [97,109,112,59]).flatten
noncomputable def zlv (h: Nat) (signs: List Nat) (r: List Bool) (i: Nat): List Nat:=[38] ++ amps ((r.drop i).count false - 1) ++ (nmC h (signs.getD (i % signs.length) 0)).drop 1
noncomputable def dueF (h: Nat) (signs: List Nat) (r: List Bool): List Nat:=((zc3 r).map (zlv h signs r)).flatten
theorem znl {x y: Nat} {r: List Bool} {i: Nat} (hi: i < r.length): (word x y r)[i]? = some (if r.getD i false then x else y):=by
  rw [word,List.getElem?_map,List.getElem?_eq_getElem hi,List.getD_eq_getElem?_getD,List.getElem?_eq_getElem hi]; rfl
theorem zjd {x y: Nat} (hxy: x ≠ y): ∀ r: List Bool,(word x y r).count y=r.count false
  | []=>rfl
  | true :: r=>by
    show (x :: word x y r).count y=_
    rw [List.count_cons_of_ne hxy,List.count_cons_of_ne (by decide)]; exact zjd hxy r
  | false :: r=>by
    show (y :: word x y r).count y=_
    rw [List.count_cons_self,List.count_cons_self,zjd hxy r]
theorem zk6 {x y: Nat} {r: List Bool} {i: Nat}: (word x y r).drop i=word x y (r.drop i):=by simp [word,List.map_drop]
theorem z13 (d: Nat) (args: List PV): (G2 (d + 1)).fns "_law_due" args=zei (G2 d) zit ziu zn0 args:=rfl
theorem ite6 {c: Prop} [Decidable c] {a b: List Nat} (h1: 1<=a.length/\a.length<=6) (h2: 1<=b.length/\b.length<=6): 1<=(if c then a else b).length/\(if c then a else b).length<=6:=by
  by_cases h: c
  · rw [if_pos h]; exact h1
  · rw [if_neg h]; exact h2
theorem zz3 (h: Nat) (c: Nat): 1<=(nmC h c).length/\(nmC h c).length<=6:=by
  refine ite6 (by decide) (ite6 (by decide) (ite6 (by decide) (ite6 (by decide) (ite6 (ite6 (by decide) (by decide)) (ite6 (ite6 (by decide) (by decide)) (ite6 (by decide) (by decide)))))))
theorem z14 {d h: Nat} {signs: List Nat} (hs: 0 < signs.length) (hs2: signs.length < 1000) (hk: ∀ c ∈ signs,c ∈ zsp) {x y: Nat} (hxy: x ≠ y) {r: List Bool} (hr: r.length<=1000) :
    (G2 (d + 1)).fns "_law_due" [.str (tx (word x y r)),.lit (tx [x,y]),.dict (namesOf h),.str (tx signs)]=some (.str (tx (dueF h signs r))):=by
  rw [z13]
  refine zby rfl ?_
  have hpl: (zc3 r).length<=r.length:=by unfold zc3; exact Nat.le_trans (List.length_filter_le _ _) (by simp)
  have hmem: ∀ i ∈ zc3 r,i < r.length/\r.getD i false=true:=fun i hi=>by
    have:=List.mem_filter.mp hi
    exact ⟨List.mem_range.mp this.1,this.2⟩
  refine zad (zaz (v:=.list ((zc3 r).map fun (i: Nat)=>.int (i: Int))) ?_) ?_
  · refine zik (l:=List.range r.length) (mk:=fun (i: Nat)=>.int (i: Int)) (zdb (zbq _) (n:=r.length) ?_ (Nat.le_trans ‹_› (by decide))) (fun i hi=>?_) (fun i hi _=>zaa rfl) (by simp; exact Nat.le_trans ‹_› (by decide))
    · have:=zmj (ρ:=[none,none,some (.val (.str (tx signs))),some (.val (.dict (namesOf h))),some (.val (.lit (tx [x,y]))),some (.val (.str (tx (word x y r)))),none]) (zih d) (zaa (k:=5) rfl)
      rw [zc5] at this
      exact this
    · have hi':=List.mem_range.mp hi
      refine zav (za9 (zaa rfl) (zaa rfl) (zow (by lia) (znl hi'))) (za9 (zaa rfl) rfl (zhi (i:=0) (Nat.le_add_left _ _) rfl)) ?_
      rw [e_tx]
      cases r.getD i false <;> simp [Ne.symm hxy]
  refine zad (zaz (v:=.list ((zc3 r).map fun (i: Nat)=>.int (((r.drop i).count false: Nat): Int))) ?_) ?_
  · refine zbz (l:=zc3 r) (mk:=fun (i: Nat)=>.int (i: Int)) (zfd (zaa rfl)) (fun i hi=>?_) (by lia)
    have:=zvv (c:=y) (ρ:=setR [none,some (.val (.list ((zc3 r).map fun (i: Nat)=>.int (i: Int)))),some (.val (.str (tx signs))),some (.val (.dict (namesOf h))),some (.val (.lit (tx [x,y]))),some (.val (.str (tx (word x y r)))),none] 6 (.val (.int i)))
      (zfe (G:=G2 d) (lo:=some (.var 6)) (hi:=none) (p:=i) (q:=(word x y r).length) (zaa (k:=5) rfl) (zf2 (zaa rfl)) zjc (.inr rfl) (.inl ⟨rfl,rfl⟩) (by rw [zc5]; exact Nat.le_of_lt (hmem i hi).1))
      (za9 (zaa (k:=4) rfl) (i:=.int 1) rfl (zhi (i:=1) (Nat.le_add_left _ _) rfl))
    have e: (((word x y r).drop i).take ((word x y r).length - i)).count y=(r.drop i).count false:=by
      rw [List.take_of_length_le (by simp),zk6,zjd hxy]
    rw [e] at this
    exact this
  have hflat: ∀ i ∈ zc3 r,(zlv h signs r i).length<=5000:=fun i _=>by
    unfold zlv amps
    have h1:=(zz3 h (signs.getD (i % signs.length) 0)).2
    have h2: (r.drop i).count false<=r.length:=Nat.le_trans List.count_le_length (by simp)
    simp only [List.length_append,List.length_drop,List.length_flatten,List.map_replicate,List.sum_replicate_nat,List.length_cons,List.length_nil]
    exact Nat.le_trans (Nat.add_le_add (Nat.add_le_add (Nat.le_refl _) (Nat.mul_le_mul_right 4 (Nat.le_trans (Nat.sub_le _ 1) (Nat.le_trans h2 hr)))) (Nat.le_trans (Nat.sub_le _ 1) h1)) (by decide)
  have hz: (((List.range (zc3 r).length).map fun k=>zlv h signs r ((zc3 r).getD k 0)).flatten).length<=16777216:=by
    rw [List.length_flatten,List.map_map]
    have key: ∀ l: List Nat,(∀ k ∈ l,k < (zc3 r).length) -> (l.map (List.length ∘ fun k=>zlv h signs r ((zc3 r).getD k 0))).sum<=l.length * 5000:=fun l=>by
      induction l with
      | nil=>intro _; simp
      | cons a l ih=>
        intro hl
        have h1:=ih fun k hk=>hl k (List.mem_cons_of_mem _ hk)
        have h2:=hl a List.mem_cons_self
        have h3:=hflat ((zc3 r).getD a 0) (by rw [List.getD_eq_getElem?_getD,List.getElem?_eq_getElem h2]; exact List.getElem_mem h2)
        rw [List.map_cons,List.sum_cons,List.length_cons]
        show (zlv h signs r ((zc3 r).getD a 0)).length + _<=_
        lia
    have:=key (List.range (zc3 r).length) fun k hk=>List.mem_range.mp hk
    rw [List.length_range] at this
    lia
  have hlist: (List.range (zc3 r).length).map (fun k=>zlv h signs r ((zc3 r).getD k 0))=(zc3 r).map (zlv h signs r):=by
    apply List.ext_getElem
    · simp
    · intro k h1 h2
      simp at h1
      simp [List.getD_eq_getElem?_getD,h1]
  refine zay (zcj ?_)
  unfold dueF
  rw [<- hlist]
  refine zvu ?_ hz
  rw [List.map_map]
  refine zbz (l:=List.range (zc3 r).length) (mk:=fun (k: Nat)=>.int (k: Int)) (zdb (zbq _) (n:=(zc3 r).length) ?_ (by lia)) (fun k hkr=>?_) (by simp; lia)
  · have:=zp9 (ρ:=[some (.val (.list ((zc3 r).map fun (i: Nat)=>.int (((r.drop i).count false: Nat): Int)))),some (.val (.list ((zc3 r).map fun (i: Nat)=>.int (i: Int)))),some (.val (.str (tx signs))),some (.val (.dict (namesOf h))),some (.val (.lit (tx [x,y]))),some (.val (.str (tx (word x y r)))),none]) (zih d) (zaa (k:=1) rfl)
    rw [List.length_map] at this
    exact this
  · have hk':=List.mem_range.mp hkr
    obtain ⟨i,hi⟩: ∃ i,(zc3 r)[k]? = some i:=⟨_,List.getElem?_eq_getElem hk'⟩
    have hgi: (zc3 r).getD k 0=i:=by rw [List.getD_eq_getElem?_getD,hi]; rfl
    have him:=hmem i (List.mem_of_getElem? hi)
    have hc: i % signs.length < signs.length:=Nat.mod_lt _ hs
    have hgd: signs[i % signs.length]? = some (signs.getD (i % signs.length) 0):=by rw [List.getD_eq_getElem?_getD,List.getElem?_eq_getElem hc]; rfl
    have hck: signs.getD (i % signs.length) 0 ∈ zsp:=hk _ (List.mem_of_getElem? hgd)
    have h2: (r.drop i).count false<=r.length:=Nat.le_trans List.count_le_length (by simp)
    have hcv: ∀ (v: Nat -> PV),((zc3 r).map v)[k]? = some (v i):=fun v=>by rw [List.getElem?_map,hi]; rfl
    show zag _ _ _=some (.str (tx (zlv h signs r ((zc3 r).getD k 0))))
    rw [hgi]
    have hn:=zz3 h (signs.getD (i % signs.length) 0)
    have hdrop: ((nmC h (signs.getD (i % signs.length) 0)).drop 1).take ((nmC h (signs.getD (i % signs.length) 0)).length - 1)=(nmC h (signs.getD (i % signs.length) 0)).drop 1:=List.take_of_length_le (by simp)
    have hrep: (List.replicate ((((r.drop i).count false: Nat): Int) - 1).toNat [97,109,112,59]).flatten=amps ((r.drop i).count false - 1):=by
      unfold amps
      congr 2
      exact zqz _
    have hal: (amps ((r.drop i).count false - 1)).length<=4000:=by
      unfold amps
      simp only [List.length_flatten,List.map_replicate,List.sum_replicate_nat,List.length_cons,List.length_nil]
      exact Nat.mul_le_mul_right 4 (Nat.le_trans (Nat.sub_le _ 1) (Nat.le_trans h2 hr))
    unfold zlv
    refine zaf (zaf (x:=.str (tx [38])) (y:=.str (tx (amps ((r.drop i).count false - 1)))) rfl (zaf (x:=.str (tx [97,109,112,59])) rfl (zaf (za9 (zaa rfl) (zaa rfl) (zce (by lia) (hcv _))) rfl rfl) ?_) (zlt (by simp; lia))) (zfe (lo:=some (.int 1)) (hi:=none) (x:=some 1) (y:=none) (p:=1) (q:=(nmC h (signs.getD (i % signs.length) 0)).length)
      (za9 (zaa rfl) (za9 (zaa rfl) (zaf (za9 (zaa rfl) (zaa rfl) (zce (by lia) (hcv _))) (zmj (zih d) (zaa rfl)) (zrh hs)) (zow (by lia) hgd)) ?_) (zf2 rfl) zjc (.inr rfl) (.inl ⟨rfl,rfl⟩) hn.1) ?_
    · rw [z5t (by lia) (by lia) (by simp; exact Nat.le_trans (Nat.mul_le_mul_left 4 (Nat.le_trans (Nat.sub_le _ 1) (Nat.le_trans h2 hr))) (by decide)),hrep]
    · show (namesOf h).lookup _=_
      exact zo7 (v:=fun c=>.str (tx (nmC h c))) hck
    · rw [hdrop,zlt (by simp only [List.length_append,List.length_drop,List.length_cons,List.length_nil]; exact Nat.le_trans (Nat.add_le_add (Nat.add_le_add (Nat.le_refl _) hal) (Nat.le_trans (Nat.sub_le _ 1) hn.2)) (by decide))]
end Mine
namespace Mine
open PySem PySem.Builtin PySem.Builtin.Str PySem.Challenge PyProof.Rows
set_option maxRecDepth 100000
noncomputable def zba: Nat -> List (List Bool) × List (List Bool)
  | 0=>([],[[true]])
  | m + 1=>((zba m).1 ++ (zba m).2.map (· ++ [false]),(zba m).2.flatMap fun r=>[r ++ [true],r ++ [false]])
noncomputable def rotL (k: Nat) (l: List Nat): List Nat:=l.drop k ++ l.take k
noncomputable def za0 (r: List Bool): List Nat:=(List.range r.length).flatMap fun j=>((List.range j).filter fun i=>r.getD i false && !r.getD j true).map fun i=>j - i
theorem zvw: ∀ h < 5,∀ k < (zb2 h).length,((zba 4).1.all fun r=>decide (zvk h (rotL k (zb2 h)) 0 r []=dueF h (rotL k (zb2 h)) r) && decide ((dueF h (rotL k (zb2 h)) r).count 59=(za0 r).length))=true:=by decide +kernel
noncomputable def zgy: List (Nat × Nat × Nat):=[(102,105,64257),(102,108,64258),(115,116,64262),(104,112,13259),(107,109,13262),(119,98,13277),(114,115,8360),(110,111,8470)]
noncomputable def zdf: List Nat:=[97,65,119808,119860,119912,120016,120172,120224,120276,120328,120380,120432]
noncomputable def m3 (c: Nat): List Nat:=match (zhh pw_wc0027_02).lookup (c: Int) with
  | some s=>s.cps.toList
  | none=>[lo1 c]
noncomputable def m3ok (c: Nat): Bool:=((zhh pw_wc0027_02).lookup (c: Int)).isSome || decide (c < 128)
noncomputable def zdg (c: Nat): Bool:=zdv.contains (c: Int)
noncomputable def zct: List Nat:=[98,102,104,105,107,108,109,110,111,112,114,115,116,119]
noncomputable def want: List (Nat × List Nat):=[(8360,[114,115]),(8470,[110,111]),(13259,[104,112]),(13262,[107,109]),(13277,[119,98]),(64257,[102,105]),(64258,[102,108]),(64262,[115,116])] ++
  (zdf.drop 2).flatMap fun c=>zct.map fun s=>(c + s - 97,[s])
noncomputable def chk: List (Int × Str) -> List (Nat × List Nat) -> Bool
  | _,[]=>true
  | [],_ :: _=>false
  | (k,s) :: t,(c,l) :: ws=>if k=(c: Int) then decide (s.cps.toList=l) && chk t ws else chk t ((c,l) :: ws)
theorem chkE (k: Int) (s: Str) (t: List (Int × Str)) (c: Nat) (l: List Nat) (ws: List (Nat × List Nat)): chk ((k,s) :: t) ((c,l) :: ws)=if k=(c: Int) then decide (s.cps.toList=l) && chk t ws else chk t ((c,l) :: ws):=rfl
theorem zqe: ∀ {t: List (Int × Str)} {ws: List (Nat × List Nat)},chk t ws=true -> ∀ w ∈ ws,∃ s,((w.1: Int),s) ∈ t/\s.cps.toList=w.2
  | _,[],_,w,h=>by cases h
  | [],_ :: _,h,_,_=>ft h
  | (k,s) :: t,(c,l) :: ws,h,w,hw=>by
    rw [chkE] at h
    split at h
    · rename_i hk
      simp only [Bool.and_eq_true,decide_eq_true_eq] at h
      rcases List.mem_cons.mp hw with rfl | hw
      · exact ⟨s,by rw [<- hk]; exact List.mem_cons_self,h.1⟩
      · obtain ⟨s',h1,h2⟩:=zqe h.2 w hw
        exact ⟨s',List.mem_cons_of_mem _ h1,h2⟩
    · obtain ⟨s',h1,h2⟩:=zqe h w hw
      exact ⟨s',List.mem_cons_of_mem _ h1,h2⟩
theorem z15: chk (zhh pw_wc0027_02) want=true:=by decide +kernel
theorem zsy: rising ((zhh pw_wc0027_02).map (·.1))=true:=by decide +kernel
theorem zym: (zhh pw_wc0027_02).all (fun x=>decide (128<=x.1))=true:=by decide +kernel
theorem zvx {w: Nat × List Nat} (h: w ∈ want): m3 w.1=w.2/\m3ok w.1=true:=by
  obtain ⟨s,h1,h2⟩:=zqe z15 w h
  have:=zcm (zjo zsy) h1
  unfold m3 m3ok
  rw [this]
  exact ⟨h2,rfl⟩
theorem zyn {c: Nat} (h: c < 128): (zhh pw_wc0027_02).lookup (c: Int)=none:=by
  rw [List.lookup_eq_none_iff]
  intro p hp
  have:=of_decide_eq_true (List.all_eq_true.mp zym p hp)
  have h2: (c: Int) ≠ p.1:=by lia
  simpa using h2
theorem zz4 {c: Nat} (h: c < 128): m3 c=[lo1 c]/\m3ok c=true:=by
  unfold m3 m3ok
  rw [zyn h]
  exact ⟨rfl,by simp [h]⟩
theorem zyo: (zdf.all fun c=>zct.all fun s=>!zdg (c + s - 97))=true:=by decide +kernel
theorem zvy: (zgy.all fun p=>decide (p.1 ≠ p.2.1/\p.1 ≠ p.2.2/\p.2.1 ≠ p.2.2/\p.1 ∈ zct/\p.2.1 ∈ zct/\p.2.2 < 1000000/\(p.2.2,[p.1,p.2.1]) ∈ want) && !zdg p.2.2)=true:=by decide +kernel
theorem zk7: zct.all (fun s=>decide (97<=s/\s < 123))=true:=by decide
theorem zvz {c s: Nat} (hc: c ∈ zdf) (hs: s ∈ zct): m3 (c + s - 97)=[s]/\m3ok (c + s - 97)=true/\zdg (c + s - 97)=false:=by
  have hl:=of_decide_eq_true (List.all_eq_true.mp zk7 s hs)
  have hb:=List.all_eq_true.mp (List.all_eq_true.mp zyo c hc) s hs
  refine (fun h=>⟨h.1,h.2,by simpa using hb⟩: (m3 (c + s - 97)=[s]/\m3ok (c + s - 97)=true) -> _) ?_
  by_cases h97: c=97
  · subst h97
    have:=zz4 (c:=97 + s - 97) (by lia)
    rw [this.1]
    refine ⟨?_,this.2⟩
    unfold lo1
    rw [if_neg (by lia)]; congr 1; lia
  · by_cases h65: c=65
    · subst h65
      have:=zz4 (c:=65 + s - 97) (by lia)
      rw [this.1]
      refine ⟨?_,this.2⟩
      unfold lo1
      rw [if_pos (by lia)]; congr 1; lia
    · have hc': c ∈ zdf.drop 2:=by
        unfold zdf at hc ⊢
        simp only [List.mem_cons] at hc
        rcases hc with h | h | h
        · exact absurd h h97
        · exact absurd h h65
        · simpa using h
      exact zvx (w:=(c + s - 97,[s])) (List.mem_append_right _ (List.mem_flatMap.mpr ⟨c,hc',List.mem_map.mpr ⟨s,hs,rfl⟩⟩))
noncomputable def zax (x y b: Nat): List Bool -> List Nat
  | true :: false :: r=>b :: zax x y b r
  | c :: r=>(if c then x else y) :: zax x y b r
  | []=>[]
theorem zdc: (∀ x y b r,zax x y b (true :: false :: r)=b :: zax x y b r)/\(∀ x y b r,zax x y b (true :: true :: r)=x :: zax x y b (true :: r))/\(∀ x y b r,zax x y b (false :: r)=y :: zax x y b r)/\(∀ x y b,zax x y b [true]=[x])/\(∀ x y b,zax x y b []=[]):=⟨fun _ _ _ _=>rfl,fun _ _ _ _=>rfl,fun _ _ _ _=>rfl,fun _ _ _=>rfl,fun _ _ _=>rfl⟩
theorem replaced: (zgy.all fun p=>(zba 4).1.all fun r=>decide (Txt.replace (tx (word p.1 p.2.1 r)) (tx [p.1,p.2.1]) (tx [p.2.2])=tx (zax p.1 p.2.1 p.2.2 r)))=true:=by decide +kernel
end Mine
namespace Mine
open PySem PySem.Builtin PySem.Builtin.Str PySem.Challenge PyProof.Rows
set_option maxRecDepth 10000
theorem zv0: ∀ l: List Bool,PyData.eqvAll (l.map .bool) (l.map .bool)=true:=by
  intro zz
  induction zz with
  | nil=>exact rfl
  | cons b l ih=>
    have ih:=ih
    simp only [List.map_cons]
    unfold PyData.eqvAll
    rw [ih]
    cases b <;> rfl
theorem zsz (l: List Bool): (l.map PV.bool).mapM zj4=some (l.map PyData.bool):=by
  induction l with
  | nil=>rfl
  | cons b l ih=>rw [List.map_cons,List.mapM_cons,ih]; rfl
theorem zrm (l: List Bool): cmpV .NotEq (.list (l.map .bool)) (.list (l.map .bool))=some false:=by
  show (eqP (.list (l.map .bool)) (.list (l.map .bool))).map (!·)=_
  show (((l.map PV.bool).mapM zj4).bind fun x=>((l.map PV.bool).mapM zj4).map fun y=>PyData.eqvAll x y).map (!·)=_
  rw [zsz,Option.bind_some,Option.map_some,zv0]; rfl
theorem zrn {G: GT} {ρ: Rho} {e: PE} {c: Nat} (hg: G.gv "ord" = some (.bi "ord")) (h: zag G e ρ=some (.str (tx [c]))): zag G (.call (.glob "ord") [e]) ρ=some (.int (c: Int)):=
  zao (zal hg) (zac h zai) (ordP rfl rfl)
theorem zz5 {G: GT} {ρ: Rho} {e: PE} {c: Nat} (hg: G.gv "chr" = some (.bi "chr")) (h: zag G e ρ=some (.int (c: Int))) (hc: c < 1000000): zag G (.call (.glob "chr") [e]) ρ=some (.str (tx [c])):=
  zao (zal hg) (zac h zai) (chrP (by simp; lia))
theorem zro (d: Nat): (G2 d).gv "ord" = some (.bi "ord"):=by rw [zcf]; rfl
theorem zz6 (d: Nat): (G2 d).gv "chr" = some (.bi "chr"):=by rw [zcf]; rfl
theorem z5u (d: Nat): (G2 d).gv "b1_set" = some .b1:=by rw [zcf]; rfl
theorem z5v (d: Nat): (G2 d).gv "b3_exceptions" = some .b3:=by rw [zcf]; rfl
theorem z16 (d: Nat): (G2 d).gv "list" = some (.ty "list"):=by rw [zcf]; rfl
theorem z17 (d: Nat): (G2 d).gv "in_table_b1" = some (.fn "in_table_b1"):=by rw [zcf]; rfl
theorem z18 (d: Nat): (G2 d).gv "map_table_b3" = some (.fn "map_table_b3"):=by rw [zcf]; rfl
theorem zyp (d: Nat) (args: List PV): (G2 (d + 1)).fns "in_table_b1" args=zei (G2 d) zee zef zhq args:=rfl
theorem zyq (d: Nat) (args: List PV): (G2 (d + 1)).fns "map_table_b3" args=zei (G2 d) zdw zdx zgs args:=rfl
theorem zyr (d: Nat) (args: List PV): (G2 (d + 1)).fns "_law_read" args=zei (G2 d) zg3 zg4 zl3 args:=rfl
theorem zys (d: Nat) (c: Nat): (G2 (d + 1)).fns "in_table_b1" [.str (tx [c])]=some (.bool (zdg c)):=by
  rw [zyp]
  refine zby rfl (zay (zcj (zot (zrn (zro d) (zaa rfl)) (zal (z5u d)) ?_)))
  rfl
theorem zyt (d: Nat) {c: Nat} (h: m3ok c=true): (G2 (d + 1)).fns "map_table_b3" [.str (tx [c])]=some (.str (tx (m3 c))):=by
  rw [zyq]
  refine zby rfl ?_
  have hget: ∀ ρ: Rho,zag (G2 d) (.var 1) ρ=some (.str (tx [c])) -> zag (G2 d) (.meth (.glob "b3_exceptions") (Str.ofString "get") [(.call (.glob "ord") [(.var 1)])]) ρ =
      some (match (zhh pw_wc0027_02).lookup (c: Int) with | some s=>.str s | none=>.none):=fun ρ h1=>by
    simp only [eE,z5v,Option.bind_some,zac (zrn (zro d) h1) zai]
    rw [if_pos (show isB3 PV.b3=true from rfl)]
    simp only [vE,Option.bind_some]
    rw [if_pos (by simp),z4b]
    show (some ((zhh pw_wc0027_02).lookup (c: Int))).map _=_
    cases (zhh pw_wc0027_02).lookup (c: Int) <;> rfl
  refine zad (zaz (hget _ (zaa rfl))) ?_
  unfold m3ok at h
  unfold m3
  cases hl: (zhh pw_wc0027_02).lookup (c: Int) with
  | some s=>
    refine zay (zcs (c:=true) (zav (zaa rfl) rfl rfl) (zay (zcj ?_)))
    rw [zaa (v:=.str s) rfl]
  | none=>
    rw [hl] at h
    have hc: c < 128:=by simpa using h
    refine zad (zcs (c:=false) (zav (zaa rfl) rfl rfl) zbc) (zay (zcj (znk (s:=tx [c]) (zaa rfl) zai ?_)))
    have hlow: Txt.lower (tx [c])=tx [lo1 c]:=by
      rw [lower_ascii (x:=tx [c]) (by simpa using hc)]; simp
    rw [z3b (by rw [hlow]; rfl),hlow]
noncomputable def rd (c: Nat): List Nat:=if zdg c then [] else m3 c
noncomputable def img (x y b s: Nat): List Nat:=if s=b then [x,y] else [s]
noncomputable def z19 (c: Nat): Prop:=zdg c=true \/ m3ok c=true
theorem zgo {a b: Int} (hb: 0 < b): binP .Mod (.int a) (.int b)=some (.int (a % b)):=by
  show (if b=0 then none else some (PV.int (Int.fmod a b)))=_
  rw [if_neg (by exact Int.ne_of_gt ‹_›),Int.fmod_eq_emod_of_nonneg _ (Int.le_of_lt ‹_›)]
theorem zlw {a b: Int} (hb: 0 < b) (hs: bits b<=9000): binP .FloorDiv (.int a) (.int b)=some (.int (a / b)):=by
  show (if b=0 then none else if Builtin.divisionGoesByPylong a b=true then none else some (PV.int (Int.fdiv a b)))=_
  rw [if_neg (by exact Int.ne_of_gt ‹_›),zk4 hs,if_neg (by simp),Int.fdiv_eq_ediv_of_nonneg _ (Int.le_of_lt ‹_›)]
theorem znm {a: Int} {n: Nat} (h: bits a * n<=134217728): binP .Pow (.int a) (.int n)=some (.int (a ^ n)):=by
  show (if (decide (0<=(n: Int)) && zd5 (bits a * n))=true then some (PV.int (a ^ (n: Int).toNat)) else none)=_
  have h2: zd5 ((bits a: Int) * n)=true:=decide_eq_true (by
    have: ((bits a * n: Nat): Int)<=((134217728: Nat): Int):=Int.ofNat_le.mpr h
    rw [Int.natCast_mul] at this; exact this)
  rw [h2,decide_eq_true (show 0<=(n: Int) from Int.natCast_nonneg _),Int.toNat_natCast]; rfl
noncomputable def zlx: List Nat:=[173,847,6150,6155,6156,6157,8203,8204,8205,8288,65279] ++ (List.range 16).map fun k=>65024 + k
theorem zyu: zdv=zlx.map fun (c: Nat)=>(c: Int):=by decide +kernel
theorem zv1: zlx.all zdg=true:=by decide +kernel
theorem zqf: zlx.all (fun c=>decide (c < 1000000))=true:=by decide +kernel
theorem zv2: zlx.length=27:=by decide
theorem zv3: zdf.length=12:=by decide
theorem zqg: zdf.all (fun c=>decide (c < 130000))=true:=by decide
noncomputable abbrev readBody: List PS:=[.asg 3 (.bin .Mod (.bin .FloorDiv (.var 9) (.bin .Pow (.int 13) (.var 5))) (.int 36)),.asg 2 (.ifx (.cmp .Eq (.var 4) (.var 10)) (.var 4) (.call (.glob "chr") [(.bin .Sub (.bin .Add (.sub (.var 7) (.bin .Mod (.var 3) (.int 12))) (.call (.glob "ord") [(.var 4)])) (.int 97))])),.asg 1 (.call (.glob "chr") [(.sub (.var 8) (.bin .Mod (.bin .FloorDiv (.var 9) (.bin .Add (.var 5) (.int 2))) (.int 27)))]),.aug 6 .Add (.ifx (.cmp .Lt (.var 3) (.int 12)) (.list [(.var 2)]) (.ifx (.cmp .Lt (.var 3) (.int 24)) (.list [(.var 1),(.var 2)]) (.list [(.var 2),(.var 1)])))]
noncomputable abbrev rhoR (x y b: Nat) (num: Int) (row: PV) (T: List Nat) (o0 o1 o2 o3 o4 o5 o13: Option Slot): Rho:=
  [o0,o1,o2,o3,o4,o5,some (.own (lets T)),some (.val (.list (zdf.map fun (c: Nat)=>.int (c: Int)))),some (.val (.list (zlx.map fun (c: Nat)=>.int (c: Int)))),some (.val (.int num)),some (.val (.lit (tx [b]))),some (.val (.lit (tx [x,y]))),some (.val row),o13]
theorem zyv (a b: List Nat): lets a ++ lets b=lets (a ++ b):=by simp [lets]
theorem znn (a: List Nat): (lets a).length=a.length:=by simp [lets]
inductive zz7 (x y b: Nat) (num: Int) (row: PV) (T: List Nat) (o0 o13: Option Slot) (run: Option Out) (n: Nat) (out: List Nat): Prop where
  | mk (T': List Nat) (v: Nat -> Option Slot) (e: run=some (.next (rhoR x y b num row (T ++ T') o0 (v 1) (v 2) (v 3) (v 4) (v 5) o13))) (l: T'.length<=n) (g: ∀ c ∈ T',z19 c) (r: T'.flatMap rd=out)
theorem zv4 {d: Nat} {x y b: Nat} (hb: b < 1000000) (hbb: zdg b=false) (hbm: m3ok b=true/\m3 b=[x,y]) {num: Int} {row: PV} {T: List Nat} (hT: T.length<=1000) {o0 o1 o2 o3 o4 o5 o13: Option Slot} {i s: Nat} (hi: i<=100) (hs: s=b \/ s ≠ b/\s ∈ zct) :
    zz7 x y b num row T o0 o13 (zsl (G2 d) [5,4] false readBody (.tuple [.int (i: Int),.str (tx [s])]) (rhoR x y b num row T o0 o1 o2 o3 o4 o5 o13)) 2 (img x y b s):=by
  have h13: (0: Int) < 13 ^ i:=Int.pow_pos (by decide)
  have hb13: bits ((13: Int) ^ i)<=9000:=by
    refine Nat.le_trans (zas (k:=4 * i + 1) (Int.le_of_lt h13) ?_) (by lia)
    have h1: (13: Nat) ^ i < 2 ^ (4 * i + 1):=by
      have h2: (13: Nat) ^ i<=16 ^ i:=Nat.pow_le_pow_left (by decide) i
      have h3: (16: Nat) ^ i=2 ^ (4 * i):=by rw [Nat.pow_mul]
      have h4:=Nat.two_pow_pos (4 * i)
      rw [Nat.pow_succ]; lia
    exact_mod_cast h1
  obtain ⟨f,hf,hf36⟩: ∃ f: Nat,num / 13 ^ i % 36=(f: Int)/\f < 36:=modN _ 36 (by decide)
  obtain ⟨k,hk,hk27⟩: ∃ k: Nat,num / ((i: Int) + 2) % 27=(k: Int)/\k < 27:=modN _ 27 (by decide)
  have hcl: f % 12 < zdf.length:=by rw [zv3]; exact Nat.mod_lt _ (by decide)
  have hbl: k < zlx.length:=by rw [zv2]; exact hk27
  obtain ⟨cj,hcj⟩: ∃ cj,zdf[f % 12]? = some cj:=⟨_,List.getElem?_eq_getElem hcl⟩
  obtain ⟨mu,hmu⟩: ∃ mu,zlx[k]? = some mu:=⟨_,List.getElem?_eq_getElem hbl⟩
  have hcjm:=List.mem_of_getElem? hcj
  have hmum:=List.mem_of_getElem? hmu
  have hmub:=List.all_eq_true.mp zv1 mu hmum
  have hmus:=of_decide_eq_true (List.all_eq_true.mp zqf mu hmum)
  have hcjs:=of_decide_eq_true (List.all_eq_true.mp zqg cj hcjm)
  obtain ⟨be,hbe,hbev,hbr,hbg⟩: ∃ be,be < 1000000/\(∀ ρ: Rho,ρ[4]? = some (some (.val (.str (tx [s])))) -> ρ[10]? = some (some (.val (.lit (tx [b])))) -> ρ[3]? = some (some (.val (.int (f: Int)))) -> ρ[7]? = some (some (.val (.list (zdf.map fun (c: Nat)=>.int (c: Int))))) ->
      zag (G2 d) (.ifx (.cmp .Eq (.var 4) (.var 10)) (.var 4) (.call (.glob "chr") [(.bin .Sub (.bin .Add (.sub (.var 7) (.bin .Mod (.var 3) (.int 12))) (.call (.glob "ord") [(.var 4)])) (.int 97))])) ρ=some (.str (tx [be])))/\rd be=img x y b s/\z19 be:=by
    rcases hs with rfl | ⟨hsb,hsl⟩
    · refine ⟨s,hb,fun ρ g1 g2 g3 g4=>zdj (c:=true) (zav (zaa g1) (zaa g2) (by rw [zyf]; simp)) (zaa g1),?_,.inr hbm.1⟩
      unfold rd img
      rw [if_pos rfl,hbb,hbm.2]; rfl
    · have hl:=of_decide_eq_true (List.all_eq_true.mp zk7 s hsl)
      have hcr:=zvz hcjm hsl
      refine ⟨cj + s - 97,by lia,fun ρ g1 g2 g3 g4=>zdj (c:=false) (zav (zaa g1) (zaa g2) (by rw [zyf]; simp [hsb])) (zz5 (zz6 d) (zaf (x:=.int ((cj + s: Nat): Int)) (zaf (za9 (zaa g4) (zaf (zaa g3) rfl (zrh (b:=12) (by decide))) (zce (Nat.le_trans ‹_› (by decide)) (v:=.int (cj: Int)) (by rw [List.getElem?_map,hcj]; rfl))) (zrn (zro d) (zaa g1)) rfl) rfl ?_) (by lia)),?_,.inr hcr.2.1⟩
      · show some (PV.int (((cj + s: Nat): Int) - 97))=_
        congr 2; lia
      · unfold rd img
        rw [if_neg hsb,hcr.2.2,hcr.1]; rfl
  have hlast: ∀ ρ: Rho,ρ[1]? = some (some (.val (.str (tx [mu])))) -> ρ[2]? = some (some (.val (.str (tx [be])))) -> ρ[3]? = some (some (.val (.int (f: Int)))) -> ∃ T',zag (G2 d) (.ifx (.cmp .Lt (.var 3) (.int 12)) (.list [(.var 2)]) (.ifx (.cmp .Lt (.var 3) (.int 24)) (.list [(.var 1),(.var 2)]) (.list [(.var 2),(.var 1)]))) ρ=some (.list (lets T')) /\
      T'.length<=2/\(∀ c ∈ T',z19 c)/\T'.flatMap rd=img x y b s:=fun ρ g1 g2 g3=>by
    have hrm: rd mu=[]:=by unfold rd; rw [hmub]; rfl
    by_cases h1: f < 12
    · refine ⟨[be],zdj (c:=true) (zav (zaa g3) rfl (by show some (decide ((f: Int) < 12))=_; rw [decide_eq_true (by lia)])) (zi7 (zac (zaa g2) zai)),by simp,by simpa using hbg,by simpa using hbr⟩
    · by_cases h2: f < 24
      · refine ⟨[mu,be],zdj (c:=false) (zav (zaa g3) rfl (by show some (decide ((f: Int) < 12))=_; rw [decide_eq_false (by lia)])) (zdj (c:=true) (zav (zaa g3) rfl (by show some (decide ((f: Int) < 24))=_; rw [decide_eq_true (by lia)])) (zi7 (zac (zaa g1) (zac (zaa g2) zai)))),by simp,?_,?_⟩
        · intro c hc
          rcases List.mem_cons.mp hc with rfl | hc
          · exact .inl hmub
          · obtain rfl:=List.mem_singleton.mp hc; exact hbg
        · simp [hrm,hbr]
      · refine ⟨[be,mu],zdj (c:=false) (zav (zaa g3) rfl (by show some (decide ((f: Int) < 12))=_; rw [decide_eq_false (by lia)])) (zdj (c:=false) (zav (zaa g3) rfl (by show some (decide ((f: Int) < 24))=_; rw [decide_eq_false (by lia)])) (zi7 (zac (zaa g2) (zac (zaa g1) zai)))),by simp,?_,?_⟩
        · intro c hc
          rcases List.mem_cons.mp hc with rfl | hc
          · exact hbg
          · obtain rfl:=List.mem_singleton.mp hc; exact .inl hmub
        · simp [hrm,hbr]
  obtain ⟨T',hT',t1,t2,t3⟩:=hlast (rhoR x y b num row T o0 (some (.val (.str (tx [mu])))) (some (.val (.str (tx [be])))) (some (.val (.int (f: Int)))) (some (.val (.str (tx [s])))) (some (.val (.int (i: Int)))) o13) rfl rfl rfl
  refine ⟨T',fun k=>[none,some (.val (.str (tx [mu]))),some (.val (.str (tx [be]))),some (.val (.int (f: Int))),some (.val (.str (tx [s]))),some (.val (.int (i: Int)))].getD k none,?_,t1,t2,t3⟩
  show zap (G2 d) readBody (rhoR x y b num row T o0 o1 o2 o3 (some (.val (.str (tx [s])))) (some (.val (.int (i: Int)))) o13)=_
  refine zad (zaz (v:=.int (f: Int)) (zaf (zaf (zaa rfl) (zaf rfl (zaa rfl) (znm (a:=13) (n:=i) ?_)) (zlw h13 hb13)) rfl (by rw [zgo (by decide),hf]))) ?_
  · have: bits 13<=4:=zch (by decide)
    have:=Nat.mul_le_mul this hi
    exact Nat.le_trans ‹_› (by decide)
  refine zad (zaz (hbev _ rfl rfl rfl rfl)) ?_
  refine zad (zaz (zz5 (zz6 d) (c:=mu) (za9 (y:=.int (k: Int)) (zaa rfl) (zaf (zaf (zaa rfl) (zaf (z:=.int ((i: Int) + 2)) (zaa rfl) rfl rfl) (zlw (by lia) ?_)) rfl (by rw [zgo (by decide),hk])) (zce (Nat.le_trans ‹_› (by decide)) (v:=.int (mu: Int)) (by rw [List.getElem?_map,hmu]; rfl))) hmus)) ?_
  · exact Nat.le_trans (zas (k:=40) (Int.natCast_nonneg _) (by lia)) (by decide)
  refine zad (zoq rfl hT' (by rw [znn,znn]; lia)) ?_
  rw [zyv]; rfl
theorem zv5 {d: Nat} {x y b: Nat} (hb: b < 1000000) (hbb: zdg b=false) (hbm: m3ok b=true/\m3 b=[x,y]) {num: Int} {row: PV} {o0 o13: Option Slot}: ∀ (sg: List Nat) (i: Nat) (T: List Nat) (v: Nat -> Option Slot),T.length + 2 * sg.length<=1000 -> i + sg.length<=100 -> (∀ s ∈ sg,s=b \/ s ≠ b/\s ∈ zct) ->
    zz7 x y b num row T o0 o13 (zfx (G2 d) [5,4] false readBody (zbo i (lets sg)) (rhoR x y b num row T o0 (v 1) (v 2) (v 3) (v 4) (v 5) o13)) (2 * sg.length) (sg.flatMap (img x y b)):=by
  intro sg
  induction sg with
  | nil=>exact fun i T v _ _ _=>⟨[],v,by rw [List.append_nil]; rfl,Nat.zero_le _,(fun _ h=>nomatch h),rfl⟩
  | cons s sg ih=>
    intro i T v h1 h2 h3
    rw [List.length_cons] at h1 h2
    obtain ⟨T1,u,e1,l1,g1,r1⟩:=zv4 (d:=d) hb hbb hbm (num:=num) (row:=row) (T:=T) (by lia) (o0:=o0) (o1:=v 1) (o2:=v 2) (o3:=v 3) (o4:=v 4) (o5:=v 5) (o13:=o13) (i:=i) (s:=s) (by lia) (h3 s List.mem_cons_self)
    obtain ⟨T2,w,e2,l2,g2,r2⟩:=ih (i + 1) (T ++ T1) u (by rw [List.length_append]; lia) (by lia) fun t ht=>h3 t (List.mem_cons_of_mem _ ht)
    refine ⟨T1 ++ T2,w,?_,by rw [List.length_append,List.length_cons]; lia,fun c hc=>(List.mem_append.mp hc).elim (g1 c) (g2 c),?_⟩
    · rw [<- List.append_assoc]
      exact (zci e1).trans e2
    · rw [List.flatMap_append,r1,r2,List.flatMap_cons]
theorem zea {x y b: Nat} (hx: x ≠ b) (hy: y ≠ b): ∀ r: List Bool,(zax x y b r).flatMap (img x y b)=word x y r
  | []=>rfl
  | [c]=>by cases c <;> simp [zdc,word,img,hx,hy]
  | true :: false :: r=>by
    have ih:=zea hx hy r
    simp only [zdc,List.flatMap_cons,ih,img,if_true]; rfl
  | true :: true :: r=>by
    have ih:=zea hx hy (true :: r)
    have e: zax x y b (true :: true :: r)=x :: zax x y b (true :: r):=rfl
    rw [e,List.flatMap_cons,ih]
    simp [img,hx,word]
  | false :: c :: r=>by
    have ih:=zea hx hy (c :: r)
    have e: zax x y b (false :: c :: r)=y :: zax x y b (c :: r):=rfl
    rw [e,List.flatMap_cons,ih]
    simp [img,hy,word]
theorem zeb {x y b: Nat}: ∀ r: List Bool,∀ s ∈ zax x y b r,s=b \/ s=x \/ s=y
  | [],s,h=>by simp [zdc] at h
  | [c],s,h=>by cases c <;> simp [zdc] at h <;> simp [h]
  | true :: false :: r,s,h=>by
    simp only [zdc,List.mem_cons] at h
    rcases h with h | h
    · exact .inl h
    · exact zeb r s h
  | true :: true :: r,s,h=>by
    have e: zax x y b (true :: true :: r)=x :: zax x y b (true :: r):=rfl
    rw [e] at h
    rcases List.mem_cons.mp h with h | h
    · exact .inr (.inl h)
    · exact zeb (true :: r) s h
  | false :: c :: r,s,h=>by
    have e: zax x y b (false :: c :: r)=y :: zax x y b (c :: r):=rfl
    rw [e] at h
    rcases List.mem_cons.mp h with h | h
    · exact .inr (.inr h)
    · exact zeb (c :: r) s h
theorem zec {x y b: Nat}: ∀ r: List Bool,(zax x y b r).length<=r.length
  | []=>by simp [zdc]
  | [c]=>by cases c <;> simp [zdc]
  | true :: false :: r=>by have:=zec (x:=x) (y:=y) (b:=b) r; simp only [zdc,List.length_cons]; lia
  | true :: true :: r=>by
    have e: zax x y b (true :: true :: r)=x :: zax x y b (true :: r):=rfl
    have:=zec (x:=x) (y:=y) (b:=b) (true :: r)
    rw [e]; simp only [List.length_cons] at this ⊢; lia
  | false :: c :: r=>by
    have e: zax x y b (false :: c :: r)=y :: zax x y b (c :: r):=rfl
    have:=zec (x:=x) (y:=y) (b:=b) (c :: r)
    rw [e]; simp only [List.length_cons] at this ⊢; lia
theorem zmk: (zba 4).1.all (fun r=>decide (r.length<=5))=true:=by decide +kernel
theorem zs0 {β: Type} (F: Nat -> List β): ∀ T: List Nat,(List.range T.length).flatMap (fun k=>F (T.getD k 0))=T.flatMap F:=fun T=>by
  have: (List.range T.length).map (fun k=>T.getD k 0)=T:=by
    apply List.ext_getElem
    · simp
    · intro k h1 h2
      simp [List.getD_eq_getElem?_getD,h2]
  conv=>rhs; rw [<- this]
  rw [List.flatMap_map]
theorem zk8 {α β: Type} {p: α -> Bool} {F: α -> List β}: ∀ l: List α,((l.filter p).map F).flatten=l.flatMap fun a=>if p a then F a else []
  | []=>rfl
  | a :: l=>by cases h: p a <;> simp [h,zk8 l]
theorem zyw (d: Nat) {p: Nat × Nat × Nat} (hp: p ∈ zgy) {r: List Bool} (hr: r ∈ (zba 4).1) (num: Int) :
    (G2 (d + 2)).fns "_law_read" [.str (tx (word p.1 p.2.1 r)),.lit (tx [p.1,p.2.1]),.lit (tx [p.2.2]),.int num]=some (.str (tx (word p.1 p.2.1 r))):=by
  obtain ⟨x,y,b⟩:=p
  have hb:=List.all_eq_true.mp zvy _ hp
  simp only [Bool.and_eq_true,decide_eq_true_eq,Bool.not_eq_true'] at hb
  obtain ⟨⟨hxy,hxb,hyb,hxl,hyl,hbs,hw⟩,hbb⟩:=hb
  have hm:=zvx hw
  have hr5: r.length<=5:=of_decide_eq_true (List.all_eq_true.mp zmk r hr)
  have hrep:=of_decide_eq_true (List.all_eq_true.mp (List.all_eq_true.mp replaced _ hp) r hr)
  show (G2 (d + 1 + 1)).fns "_law_read" _=_
  rw [zyr]
  refine zby rfl ?_
  refine zad (zaz (v:=.list (zlx.map fun (c: Nat)=>.int (c: Int))) ?_) ?_
  · refine zaf (x:=.list ([173,847,6150,6155,6156,6157,8203,8204,8205,8288,65279].map fun (c: Nat)=>.int (c: Int))) rfl (zao (zal (z16 _)) (zac (zij (zbq _) (a:=65024) (b:=65040) rfl rfl (by decide) (by decide)) zai) (v:=.list ((List.range 16).map fun (k: Nat)=>.int ((65024 + k: Nat): Int))) ?_) ?_
    · show some (PV.list (zan ((65024: Nat): Int) ((65040: Nat): Int) 1))=_
      rw [zd3]
    · rfl
  refine zad (zaz (v:=.list (zdf.map fun (c: Nat)=>.int (c: Int))) ?_) ?_
  · refine zaf (x:=.list ([97,65].map fun (c: Nat)=>.int (c: Int))) rfl (zbz (l:=[0,1,2,4,7,8,9,10,11,12]) (mk:=fun (k: Nat)=>.int (k: Int)) (g:=fun (k: Nat)=>.int ((119808 + 52 * k: Nat): Int)) rfl (fun k hk=>?_) (by decide)) rfl
    refine zaf rfl (zaf (z:=.int ((52 * k: Nat): Int)) rfl (zaa rfl) ?_) ?_
    · have hk13: k < 13:=by
        have: [0,1,2,4,7,8,9,10,11,12].all (fun k=>decide (k < 13))=true:=by decide
        exact of_decide_eq_true (List.all_eq_true.mp this k hk)
      rw [zja (by
        have h1: bits 52<=6:=zch (by decide)
        have h2: bits (k: Int)<=6:=zch (by show k < 2 ^ 6; exact Nat.le_trans ‹_› (by decide))
        lia)]
      simp
    · show some (PV.int (119808 + ((52 * k: Nat): Int)))=_
      simp
  refine zad (zku (v:=.list []) rfl rfl) ?_
  obtain ⟨sg,hsgv,hsgl,hsgm,hsgi⟩: ∃ sg: List Nat,zag (G2 (d + 1)) (.ifx (.cmp .Eq (.bin .Mod (.var 9) (.int 2)) (.int 1)) (.meth (.var 12) (Str.ofString "replace") [(.var 11),(.var 10)]) (.var 12))
      (rhoR x y b num (.str (tx (word x y r))) [] none none none none none none none)=some (.str (tx sg))/\sg.length<=5/\(∀ s ∈ sg,s=b \/ s ≠ b/\s ∈ zct)/\sg.flatMap (img x y b)=word x y r:=by
    by_cases hodd: num % 2=1
    · refine ⟨zax x y b r,zdj (c:=true) (zav (zaf (zaa rfl) rfl (zgo (by decide))) rfl (by show some (num % 2 == 1)=_; rw [hodd]; rfl)) (znk (zaa rfl) (zac (zaa rfl) (zac (zaa rfl) zai)) ?_),Nat.le_trans (zec r) hr5,fun s hs=>?_,zea hxb hyb r⟩
      · have hne: tx [x,y] ≠ tx [b]:=fun e=>by have:=zz0 e; simp at this
        have hz: (tx (word x y r)).length + ((tx (word x y r)).length + 1) * (tx [b]).length<=16777216:=by
          rw [zfk,zfk,zc5]; simp; lia
        rw [zw8 (by simp [szok hz,hne]),hrep]
      · rcases zeb r s hs with h | h | h
        · exact .inl h
        · exact .inr ⟨h ▸ hxb,h ▸ hxl⟩
        · exact .inr ⟨h ▸ hyb,h ▸ hyl⟩
    · refine ⟨word x y r,zdj (c:=false) (zav (zaf (zaa rfl) rfl (zgo (by decide))) rfl (by show some (num % 2 == 1)=_; rw [beq_eq_false_iff_ne.mpr hodd])) (zaa rfl),by rw [zc5]; exact hr5,fun s hs=>?_,?_⟩
      · unfold word at hs
        obtain ⟨c,_,rfl⟩:=List.mem_map.mp hs
        cases c
        · exact .inr ⟨hyb,hyl⟩
        · exact .inr ⟨hxb,hxl⟩
      · have: ∀ r: List Bool,(word x y r).flatMap (img x y b)=word x y r:=fun r=>by
          induction r with
          | nil=>rfl
          | cons c r ih=>
            show ((if c then x else y) :: word x y r).flatMap _=(if c then x else y) :: word x y r
            rw [List.flatMap_cons,ih]
            cases c <;> simp [img,hxb,hyb]
        exact this r
  obtain ⟨T,v,hloop,hTl,hTg,hTr⟩:=zv5 (d:=d + 1) hbs hbb ⟨hm.2,hm.1⟩ (num:=num) (row:=.str (tx (word x y r))) (o0:=none) (o13:=none) sg 0 [] (fun _=>none) (by simp; lia) (by lia) hsgm
  rw [List.nil_append] at hloop
  refine zad (zid (items:=zbo 0 (lets sg)) ?_ (by simp [znh]) hloop) ?_
  · show (zag (G2 (d + 1)) _ _).bind (fun x=>(enumItems x).map (zbo 0))=_
    have e:=hsgv
    rw [show setR _ 6 (.own [])=rhoR x y b num (.str (tx (word x y r))) [] none none none none none none none from rfl,e,Option.bind_some,zvj]; rfl
  refine zad (zd2 rfl) ?_
  have hT10: T.length<=10:=by lia
  refine zad (zaz (v:=.list (T.map fun c=>.bool (zdg c))) (zbz (l:=T) (mk:=fun c=>.str (tx [c])) (zfd (zaa rfl)) (fun c _=>zao (zal (z17 _)) (zac (zaa rfl) zai) (zys d c)) (Nat.le_trans ‹_› (by decide)))) ?_
  have hk: T.map (fun c=>PV.bool (zdg c))=(T.map zdg).map .bool:=by simp
  refine zad (zcs (c:=false) (zav (x:=.list ((T.map zdg).map .bool)) (y:=.list ((T.map zdg).map .bool)) ?_ ?_ (zrm _)) zbc) ?_
  · rw [<- hk]
    refine zbz (l:=T) (mk:=fun c=>.bool (zdg c)) (zfd (zaa rfl)) (fun c _=>zot (zaa rfl) rfl ?_) (Nat.le_trans ‹_› (by decide))
    show some (zdg c == true)=_
    simp
  · rw [<- hk]
    refine zbz (l:=T) (mk:=fun c=>.str (tx [c])) (zfd (zaa rfl)) (fun c _=>zot (zrn (zro _) (zaa rfl)) (zaa rfl) ?_) (Nat.le_trans ‹_› (by decide))
    show inP (.int c) (.list (zlx.map fun (c: Nat)=>.int (c: Int)))=_
    have: zgk (zlx.map fun (c: Nat)=>PV.int (c: Int))=some zdv:=by
      rw [zyu,<- zh9,List.map_map]; rfl
    exact z0j this
  refine zay (zcj ?_)
  have hfin: (((List.range T.length).filter fun k=>!zdg (T.getD k 0)).map fun k=>m3 (T.getD k 0)).flatten=word x y r:=by
    rw [zk8]
    have: (fun a=>if (!zdg (T.getD a 0))=true then m3 (T.getD a 0) else [])=fun a=>rd (T.getD a 0):=by
      funext a
      unfold rd
      cases zdg (T.getD a 0) <;> simp
    rw [this,zs0 rd T,hTr,hsgi]
  have hj:=zvu (G:=G2 (d + 1)) (ls:=((List.range T.length).filter fun k=>!zdg (T.getD k 0)).map fun k=>m3 (T.getD k 0)) (ρ:=setR (setR (rhoR x y b num (.str (tx (word x y r))) T none (v 1) (v 2) (v 3) (v 4) (v 5) none) 6 (.val (.list (lets T)))) 0 (.val (.list (T.map fun c=>.bool (zdg c)))))
    (e:=.comp (.call (.glob "map_table_b3") [(.subOwn 6 (.var 13))]) [(.mk [13] true (.plain (.call (.glob "range") [(.call (.glob "len") [(.var 6)])])) [(.cmp .Is (.sub (.var 0) (.var 13)) (.bool false))])]) ?_ ?_
  · rw [hfin] at hj
    exact hj
  · rw [List.map_map]
    refine zik (l:=List.range T.length) (mk:=fun (k: Nat)=>.int (k: Int)) (zdb (zbq _) (n:=T.length) ?_ (Nat.le_trans ‹_› (by decide))) (fun k hk=>?_) (fun k hk hf=>?_) (by simp; exact Nat.le_trans ‹_› (by decide))
    · have:=zp9 (G:=G2 (d + 1)) (l:=lets T) (ρ:=setR (setR (rhoR x y b num (.str (tx (word x y r))) T none (v 1) (v 2) (v 3) (v 4) (v 5) none) 6 (.val (.list (lets T)))) 0 (.val (.list (T.map fun c=>.bool (zdg c))))) (zih _) (zaa (k:=6) rfl)
      rw [znn] at this
      exact this
    · have hk':=List.mem_range.mp hk
      refine zav (za9 (z:=.bool (zdg (T.getD k 0))) (zaa rfl) (zaa rfl) (zce (by lia) (by rw [List.getElem?_map,List.getD_eq_getElem?_getD,List.getElem?_eq_getElem hk']; rfl))) rfl ?_
      show some (zdg (T.getD k 0) == false)=_
      cases zdg (T.getD k 0) <;> rfl
    · have hk':=List.mem_range.mp hk
      have hmem: T.getD k 0 ∈ T:=by rw [List.getD_eq_getElem?_getD,List.getElem?_eq_getElem hk']; exact List.getElem_mem hk'
      have hok: m3ok (T.getD k 0)=true:=by
        rcases hTg _ hmem with h | h
        · rw [h] at hf; exact ft hf
        · exact h
      refine zao (zal (z18 _)) (zac (zu9 (x:=.list (lets T)) (zaa rfl) rfl (z:=.str (tx [T.getD k 0])) (zce (by lia) ?_)) zai) (zyt d hok)
      unfold lets
      rw [List.getElem?_map,List.getD_eq_getElem?_getD,List.getElem?_eq_getElem hk']; rfl
  · rw [hfin,zc5]; exact Nat.le_trans ‹_› (by decide)
noncomputable def swapAt (r: List Bool) (k: Nat): List Bool:=r.take k ++ [false] ++ [true] ++ r.drop (k + 2)
noncomputable def zcz (r: List Bool): List (List Bool):=((List.range (r.length - 1)).filter fun k=>decide ((r.drop k).take 2=[true,false])).map (swapAt r)
noncomputable def zgp: Nat -> List Bool -> Nat
  | 0,_=>0
  | f + 1,r=>if (zcz r).isEmpty then 1 else ((zcz r).map (zgp f)).sum
theorem z5w (f: Nat) (r: List Bool): zgp (f + 1) r=if (zcz r).isEmpty then 1 else ((zcz r).map (zgp f)).sum:=rfl
noncomputable def okW: Nat -> List Bool -> Bool
  | 0,_=>false
  | f + 1,r=>(zcz r).all (okW f)
theorem okE (f: Nat) (r: List Bool): okW (f + 1) r=(zcz r).all (okW f):=rfl
theorem zyx (d: Nat) (args: List PV): (G2 (d + 1)).fns "_law_ways" args=zei (G2 d) zg7 zg8 zl5 args:=rfl
theorem zv6 (d: Nat): (G2 d).gv "_law_ways" = some (.fn "_law_ways"):=by rw [zcf]; rfl
theorem zrp (d: Nat): (G2 d).gv "sum" = some (.bi "sum"):=by rw [zcf]; rfl
theorem zrq {G: GT} {ρ: Rho} {e: PE} {l: List Int} (hg: G.gv "sum" = some (.bi "sum")) (h: zag G e ρ=some (.list (l.map .int))): zag G (.call (.glob "sum") [e]) ρ=some (.int l.sum):=
  zao (zal hg) (zac h zai) (sumP (zh9 _))
theorem zo8 {x y: Nat} {r: List Bool} {i: Nat}: (word x y r).take i=word x y (r.take i):=by simp [word,List.map_take]
theorem zil {x y: Nat} {a b: List Bool}: word x y a ++ word x y b=word x y (a ++ b):=by simp [word]
theorem zrr {x y: Nat} (h: x ≠ y): ∀ {a b: List Bool},word x y a=word x y b -> a=b
  | [],[],_=>rfl
  | [],b :: r,e=>by simp [word] at e
  | a :: r,[],e=>by simp [word] at e
  | a :: r,b :: s,e=>by
    have e': (if a then x else y) :: word x y r=(if b then x else y) :: word x y s:=e
    injection e' with e1 e2
    rw [zrr h e2]
    cases a <;> cases b <;> simp at e1 <;> first | rfl | exact absurd e1 h | exact absurd e1.symm h
theorem zz8: ∀ l: List Nat,(l.map fun (n: Nat)=>(n: Int)).sum=((l.sum: Nat): Int):=by
  intro zz
  induction zz with
  | nil=>exact rfl
  | cons a l ih=>rw [List.map_cons,List.sum_cons,List.sum_cons,ih]; simp
theorem zrs {x y: Nat} (hxy: x ≠ y): ∀ (f d: Nat),f<=d -> ∀ r: List Bool,okW f r=true -> 1<=r.length -> r.length<=1000 -> (G2 d).fns "_law_ways" [.str (tx (word x y r)),.lit (tx [x,y])]=some (.int (zgp f r: Nat))
  | 0,_,_,r,hok,_,_=>ft hok
  | f + 1,0,hd,_,_,_,_=>by lia
  | f + 1,d + 1,hd,r,hok,h1,hr=>by
    rw [zyx]
    refine zby rfl ?_
    have hlow: ∀ k,k < r.length - 1 -> (swapAt r k).length=r.length:=fun k hk=>by
      obtain ⟨n,hn⟩:=Nat.exists_eq_add_of_le (Nat.succ_le_of_lt (Nat.add_lt_of_lt_sub hk))
      unfold swapAt
      simp only [List.length_append,List.length_take,List.length_drop,List.length_cons,List.length_nil]
      rw [hn,Nat.min_eq_left (Nat.le_trans (Nat.le_add_right k 2) (Nat.le_add_right _ n))]
      exact congrArg (k + 2 + ·) (Nat.add_sub_cancel_left (k + 2) n)
    refine zad (zaz (v:=.list ((zcz r).map fun q=>.str (tx (word x y q)))) ?_) ?_
    · unfold zcz
      rw [List.map_map]
      refine zik (l:=List.range (r.length - 1)) (mk:=fun (k: Nat)=>.int (k: Int)) (zdb (zbq _) (n:=r.length - 1) (zaf (x:=.int (r.length: Nat)) (y:=.int 1) ?_ rfl ?_) (by lia)) (fun k hk=>?_) (fun k hk _=>?_) (by simp; exact Nat.le_trans ‹_› (by decide))
      · have:=zmj (ρ:=[none,some (.val (.lit (tx [x,y]))),some (.val (.str (tx (word x y r)))),none]) (zih d) (zaa (k:=2) rfl)
        rw [zc5] at this
        exact this
      · show some (PV.int ((r.length: Int) - 1))=_
        congr 2; exact (Int.ofNat_sub ‹_›).symm
      · have hk':=List.mem_range.mp hk
        refine zav (x:=.str (tx (((word x y r).drop k).take (k + 2 - k)))) (zfe (zaa rfl) (zf2 (k:=(k: Int)) (zaa rfl)) (zf2 (k:=((k + 2: Nat): Int)) (zaf (zaa rfl) rfl rfl)) (.inr rfl) (.inr rfl) (Nat.le_add_right _ _)) (zaa rfl) ?_
        rw [zyf]
        congr 1
        rw [zk6,zo8,show k + 2 - k=2 by lia,show [x,y]=word x y [true,false] from rfl]
        apply decide_eq_decide.mpr
        exact ⟨zrr hxy,fun e=>by rw [e]⟩
      · have hk':=List.mem_range.mp hk
        have e1: word x y (swapAt r k)=(((word x y r).drop 0).take (k - 0) ++ [y]) ++ [x] ++ ((word x y r).drop (k + 2)).take ((word x y r).length - (k + 2)):=by
          rw [List.take_of_length_le (l:=(word x y r).drop (k + 2)) (by simp),List.drop_zero,Nat.sub_zero,zo8,zk6]
          unfold swapAt
          rw [<- zil,<- zil,<- zil]; rfl
        show zag _ _ _=some (.str (tx (word x y (swapAt r k))))
        rw [e1]
        have hw: (word x y r).length=r.length:=zc5
        have hA: min (k - 0) ((word x y r).length - 0)<=1000:=Nat.le_trans (Nat.min_le_right _ _) (Nat.le_trans (Nat.sub_le _ _) (hw.symm ▸ hr))
        refine zaf (zaf (zaf (zfe (lo:=none) (hi:=some (.var 3)) (p:=0) (q:=k) (zaa rfl) zjc (zf2 (k:=(k: Int)) (zaa rfl)) (.inl ⟨rfl,rfl⟩) (.inr rfl) (Nat.le_add_left _ _)) (za9 (zaa rfl) rfl (zhi (i:=1) (Nat.le_add_left _ _) rfl)) (zlt ?_)) (za9 (zaa rfl) rfl (zhi (i:=0) (Nat.le_add_left _ _) rfl)) (zlt ?_))
          (zfe (lo:=some (.bin .Add (.var 3) (.int 2))) (hi:=none) (p:=k + 2) (q:=(word x y r).length) (zaa rfl) (zf2 (k:=((k + 2: Nat): Int)) (zaf (zaa rfl) rfl rfl)) zjc (.inr rfl) (.inl ⟨rfl,rfl⟩) (by lia)) (zlt ?_)
        all_goals simp only [List.length_append,List.length_take,List.length_drop,List.length_cons,List.length_nil]
        · exact Nat.le_trans (Nat.add_le_add hA (Nat.le_refl _)) (by decide)
        · exact Nat.le_trans (Nat.add_le_add (Nat.add_le_add hA (Nat.le_refl _)) (Nat.le_refl _)) (by decide)
        · exact Nat.le_trans (Nat.add_le_add (Nat.add_le_add (Nat.add_le_add hA (Nat.le_refl _)) (Nat.le_refl _)) (Nat.le_trans (Nat.min_le_right _ _) (Nat.le_trans (Nat.sub_le _ _) (hw.symm ▸ hr)))) (by decide)
    refine zay (zcj (zdj (c:=!((zcz r).map fun q=>PV.str (tx (word x y q))).isEmpty) (zie rfl rfl) ?_))
    rw [okE] at hok
    have hisE: ((zcz r).map fun q=>PV.str (tx (word x y q))).isEmpty=(zcz r).isEmpty:=by cases zcz r <;> rfl
    rw [hisE]
    rw [z5w]
    by_cases he: (zcz r).isEmpty=true
    · rw [he]; rfl
    · rw [show (zcz r).isEmpty=false by simpa using he]
      show zag _ (.call (.glob "sum") _) _=_
      have hl: (zcz r).length<=r.length:=by
        unfold zcz
        rw [List.length_map]
        exact Nat.le_trans (List.length_filter_le _ _) (by simp)
      rw [if_neg (by simp),<- zz8,List.map_map]
      refine zrq (zrp d) ?_
      rw [List.map_map]
      refine zbz (l:=zcz r) (mk:=fun q=>.str (tx (word x y q))) (zfd (zaa rfl)) (fun q hq=>?_) (by lia)
      have hok':=List.all_eq_true.mp hok q hq
      have hql: q.length=r.length:=by
        unfold zcz at hq
        obtain ⟨k,hk,rfl⟩:=List.mem_map.mp hq
        exact hlow k (List.mem_range.mp (List.mem_filter.mp hk).1)
      exact zao (zal (zv6 d)) (zac (zaa rfl) (zac (zaa rfl) zai)) (zrs hxy f d (Nat.le_of_lt_succ ‹_›) q hok' (by lia) (by lia))
theorem zyy: (zba 4).1.all (fun r=>okW 8 r && decide (1<=r.length))=true:=by decide +kernel
noncomputable def zbx (l: List Int): Int:=l.foldl (· * ·) 1
noncomputable def zdo (n: Nat): Int:=zbx ((List.range n).map fun k=>((1 + k: Nat): Int))
noncomputable def zd4 (r: List Bool): List Int:=(za0 r).map fun (n: Nat)=>(n: Int)
noncomputable def z4k (r: List Bool): Bool:=decide (4 < (za0 r).length) || (decide (zbx (zd4 r) ≠ 0) && decide (bits (zbx (zd4 r))<=4000) && decide ((bits (zdo (za0 r).length) + bits (zbx (zd4 r)) - 1) / bits (zbx (zd4 r))<=64) &&
  decide ((zdo (za0 r).length).fdiv (zbx (zd4 r))=(zgp 8 r: Nat)) && decide ((zdo (za0 r).length).fmod (zbx (zd4 r))=0) && decide (zgp 8 r<=1000))
theorem z2a: (zba 4).1.all z4k=true:=by decide +kernel
theorem zqh: (zba 4).1.all (fun r=>(za0 r).all (fun h=>decide (h<=1000)) && decide ((za0 r).length<=1000))=true:=by decide +kernel
noncomputable def zed (m: Nat) (z: Int) (s: List Int × List Int) (r: List Bool): List Int × List Int:=
  if (za0 r).length<=m then (s.1.set (za0 r).length (s.1.getD (za0 r).length 0 + 1),s.2.set (za0 r).length (s.2.getD (za0 r).length 0 + ((zgp 8 r: Nat): Int) ^ 2 * zbx ((za0 r).map fun (h: Nat)=>(h: Int) ^ 2 - z))) else s
theorem zs1 {m: Nat} {z: Int} {s: List Int × List Int} {r: List Bool}: (zed m z s r).1.length=s.1.length/\(zed m z s r).2.length=s.2.length:=by
  unfold zed; split <;> simp
noncomputable abbrev zno: List PS:=[.asgT [9,8,7] (.call (.glob "_law_hand") [(.bin .Mod (.bin .Add (.sub (.var 17) (.int 2)) (.bin .Mult (.var 10) (.bin .Add (.int 1) (.bin .Mod (.bin .FloorDiv (.sub (.var 17) (.int 2)) (.int 5)) (.int 4))))) (.int 5))]),.asg 6 (.bin .Mod (.bin .Add (.bin .FloorDiv (.sub (.var 17) (.int 2)) (.int 20)) (.var 10)) (.call (.glob "len") [(.var 8)])),.asg 5 (.bin .Add (.slice (.var 8) (some (.var 6)) none) (.slice (.var 8) none (some (.var 6)))),.asg 4 (.call (.glob "_law_read") [(.var 11),(.var 19),(.var 18),(.bin .Add (.sub (.var 17) (.int 1)) (.bin .Mult (.int 1000003) (.var 10)))]),.asg 3 (.call (.glob "_law_page") [(.var 4),(.sub (.var 19) (.int 0)),(.var 9),(.var 5)]),.ite (.or [(.cmp .NotEq (.var 4) (.var 11)),(.cmp .NotEq (.var 3) (.call (.glob "_law_due") [(.var 11),(.var 19),(.var 7),(.var 5)]))]) [.ret (.tuple [(.list []),(.list [])])] [],.asg 2 (.meth (.var 3) (Str.ofString "count") [(.str ";")]),.ite (.cmp .LtE (.var 2) (.var 20)) [.asg 1 (.comp (.bin .Sub (.var 21) (.var 22)) [(.mk [21] true (.plain (.call (.glob "range") [(.call (.glob "len") [(.var 11)])])) []),(.mk [22] true (.plain (.call (.glob "range") [(.var 21)])) [(.cmp .Eq (.bin .Add (.sub (.var 11) (.var 22)) (.sub (.var 11) (.var 21))) (.var 19))])]),.asg 0 (.call (.glob "_law_ways") [(.var 11),(.var 19)]),.ite (.cmp .NotEq (.call (.glob "int_divmod") [(.call (.glob "_law_product") [(.call (.glob "range") [(.int 1),(.bin .Add (.var 2) (.int 1))])]),(.call (.glob "_law_product") [(.var 1)])]) (.tuple [(.var 0),(.int 0)])) [.ret (.tuple [(.list []),(.list [])])] [],.augIdx 16 (.var 2) .Add (.int 1),.augIdx 15 (.var 2) .Add (.bin .Mult (.bin .Pow (.var 0) (.int 2)) (.call (.glob "_law_product") [(.comp (.bin .Sub (.bin .Pow (.var 21) (.int 2)) (.sub (.var 17) (.int 3))) [(.mk [21] true (.plain (.var 1)) [])])]))] []]
theorem zf3 (d: Nat) {f: Str} (h: zfy.contains f=true) (h2: zvb.lookup f=none): (G2 d).gv f=some (.fn f):=gv_h d h h2
theorem zv7: ∀ (l: List Int) (a: Int),(∀ x ∈ l,bits x<=64) -> zfa a l=true:=by
  intro zz
  induction zz with
  | nil=>exact fun _ _=>rfl
  | cons x r ih=>
    intro a h
    have hx:=h x List.mem_cons_self
    rw [z1q]
    rw [ih _ fun y hy=>h y (List.mem_cons_of_mem _ hy)]
    unfold zc0
    rw [decide_eq_true (show Builtin.Int.intBits x<=64 from hx)]; simp
theorem zff (d: Nat) {p: PV} {l: List Int} (hp: zj6 p=some (l.map .int)) (h: ∀ x ∈ l,bits x<=64): (G2 (d + 1)).fns "_law_product" [p]=some (.int (zbx l)):=zmi d p l hp (zv7 l 1 h)
theorem zcu {n k: Nat} (h: n < 2 ^ k): bits (n: Int)<=k:=zch h
theorem zz9 {a b: Int}: cmpV .NotEq (.tuple [.int a,.int b]) (.tuple [.int a,.int b])=some false:=by
  show (eqP (.tuple [.int a,.int b]) (.tuple [.int a,.int b])).map (!·)=_
  have: PyData.eqvAll [.int a,.int b] [.int a,.int b]=true:=by simp [PyData.eqvAll,PyData.eqv]
  show (some (PyData.eqvAll [.int a,.int b] [.int a,.int b])).map (!·)=_
  rw [this]; rfl
theorem z4l {a: List Nat}: cmpV .NotEq (.str (tx a)) (.str (tx a))=some false:=by
  show (some (tx a == tx a)).map (!·)=_
  simp
theorem zyz: ∀ h < 5,0 < (zb2 h).length/\(zb2 h).length < 10:=by decide +kernel
theorem z2b {k: Nat} {l: List Nat} (h: k<=l.length): (rotL k l).length=l.length:=by
  unfold rotL; rw [List.length_append,List.length_drop,List.length_take,Nat.min_eq_left h,Nat.sub_add_cancel h]
theorem z2c {k: Nat} {l: List Nat}: ∀ c ∈ rotL k l,c ∈ l:=fun c h=>by
  unfold rotL at h
  rcases List.mem_append.mp h with h | h
  · exact List.mem_of_mem_drop h
  · exact List.mem_of_mem_take h
theorem zv8 {h: Nat} (hh: h < 5): ∀ c ∈ zb2 h,c ∈ zsp:=fun c hc=>by
  have:=List.all_eq_true.mp (zsq h hh) c hc
  simp only [Bool.and_eq_true] at this
  exact List.contains_iff_mem.mp this.2
theorem zjq {a b: Int} (h: bits a<=64 \/ bits b<=64): binP .Mult (.int a) (.int b)=some (.int (a * b)):=by
  show (if zc0 a b=true then some (PV.int (a * b)) else none)=_
  rw [if_pos]
  unfold zc0
  rcases h with h | h
  · rw [decide_eq_true (show Builtin.Int.intBits a<=64 from h)]; simp
  · rw [decide_eq_true (show Builtin.Int.intBits b<=64 from h)]; simp
theorem zy0 {d: Nat} {x y: Nat} (hxy: x ≠ y) {r: List Bool} (hr: r.length<=5) {ρ: Rho} (g11: ρ[11]? = some (some (.val (.str (tx (word x y r)))))) (g19: ρ[19]? = some (some (.val (.lit (tx [x,y]))))) (g23: ρ.length=23) :
    zag (G2 d) (.comp (.bin .Sub (.var 21) (.var 22)) [(.mk [21] true (.plain (.call (.glob "range") [(.call (.glob "len") [(.var 11)])])) []),(.mk [22] true (.plain (.call (.glob "range") [(.var 21)])) [(.cmp .Eq (.bin .Add (.sub (.var 11) (.var 22)) (.sub (.var 11) (.var 21))) (.var 19))])]) ρ =
      some (.list ((zd4 r).map .int)):=by
  have get: ∀ (v w: Slot) (k: Nat),k ≠ 21 -> k ≠ 22 -> (setR (setR ρ 21 v) 22 w)[k]? = ρ[k]?:=fun v w k h1 h2=>by
    unfold setR
    rw [List.getElem?_set_ne (Ne.symm h2),List.getElem?_set_ne (Ne.symm h1)]
  have get21: ∀ (v w: Slot),(setR (setR ρ 21 v) 22 w)[21]? = some (some v):=fun v w=>by
    unfold setR
    rw [List.getElem?_set_ne (by decide),List.getElem?_set_self (by lia)]
  have get22: ∀ (v w: Slot),(setR (setR ρ 21 v) 22 w)[22]? = some (some w):=fun v w=>by
    unfold setR
    rw [List.getElem?_set_self (by rw [List.length_set]; lia)]
  have get1: ∀ (v: Slot),(setR ρ 21 v)[21]? = some (some v):=fun v=>by
    unfold setR
    rw [List.getElem?_set_self (by lia)]
  have e: (zd4 r).map PV.int=(List.range r.length).flatMap fun j=>((List.range j).filter fun i=>r.getD i false && !r.getD j true).map fun i=>.int ((j - i: Nat): Int):=by
    unfold zd4 za0
    rw [List.map_map,List.map_flatMap]
    congr 1
    funext j
    rw [List.map_map]; rfl
  rw [e]
  have hlen: ((List.range r.length).flatMap fun j=>((List.range j).filter fun i=>r.getD i false && !r.getD j true).map fun i=>PV.int ((j - i: Nat): Int)).length<=16777216:=by
    rw [List.length_flatMap]
    have: ∀ l: List Nat,(∀ a ∈ l,a<=5) -> (l.map fun j=>(((List.range j).filter fun i=>r.getD i false && !r.getD j true).map fun i=>PV.int ((j - i: Nat): Int)).length).sum<=5 * l.length:=fun l=>by
      induction l with
      | nil=>intro _; simp
      | cons a l ih=>
        intro h
        have h1:=ih fun b hb=>h b (List.mem_cons_of_mem _ hb)
        have h2:=h a List.mem_cons_self
        have h3: (((List.range a).filter fun i=>r.getD i false && !r.getD a true).map fun i=>PV.int ((a - i: Nat): Int)).length<=5:=by
          rw [List.length_map]
          exact Nat.le_trans (List.length_filter_le _ _) (by rw [List.length_range]; exact h2)
        rw [List.map_cons,List.sum_cons,List.length_cons]; lia
    have:=this (List.range r.length) fun a ha=>by have:=List.mem_range.mp ha; exact Nat.le_trans (Nat.le_of_lt ‹_›) ‹_›
    rw [List.length_range] at this; lia
  refine zo5 (l:=List.range r.length) (mk:=fun (k: Nat)=>.int (k: Int)) (l2:=fun j=>List.range j) (mk2:=fun (k: Nat)=>.int (k: Int)) (f:=fun j i=>r.getD i false && !r.getD j true) (g:=fun j i=>.int ((j - i: Nat): Int)) (zdb (zbq _) (n:=r.length) ?_ (Nat.le_trans ‹_› (by decide))) (fun j hj=>zdb (zbq _) (zaa (get1 _)) (by have:=List.mem_range.mp hj; lia)) (fun j hj i hi=>?_) (fun j hj i hi _=>?_) hlen
  · have:=zmj (zih d) (zaa g11)
    rw [zc5] at this
    exact this
  · have hj':=List.mem_range.mp hj
    have hi':=List.mem_range.mp hi
    have:=zav (G:=G2 d) (op:=.Eq) (c:=decide ([if r.getD i false then x else y,if r.getD j false then x else y]=[x,y])) (zaf (op:=.Add) (za9 (zaa ((get (.val (.int (j: Int))) (.val (.int (i: Int))) 11 (by decide) (by decide)).trans g11)) (zaa (get22 _ _)) (zow (by lia) (znl (show i < r.length by lia)))) (za9 (zaa ((get (.val (.int (j: Int))) (.val (.int (i: Int))) 11 (by decide) (by decide)).trans g11)) (zaa (get21 _ _)) (zow (by lia) (znl hj'))) (zlt (by simp)))
      (zaa ((get (.val (.int (j: Int))) (.val (.int (i: Int))) 19 (by decide) (by decide)).trans g19)) (by rw [zyf]; rfl)
    have hd: decide ([if r.getD i false then x else y,if r.getD j false then x else y]=[x,y])=(r.getD i false && !r.getD j true):=by
      have hg: r.getD j true=r.getD j false:=by rw [List.getD_eq_getElem?_getD,List.getD_eq_getElem?_getD,List.getElem?_eq_getElem hj']; rfl
      rw [hg]
      cases r.getD i false <;> cases r.getD j false <;> simp [hxy,Ne.symm hxy]
    rw [hd] at this
    simp only [pE,this,Option.bind_some]
    cases (r.getD i false && !r.getD j true) <;> rfl
  · have hi':=List.mem_range.mp hi
    refine zaf (zaa (get21 _ _)) (zaa (get22 _ _)) ?_
    show some (PV.int ((j: Int) - (i: Int)))=_
    congr 2; lia
end Mine
namespace Mine
open PySem PySem.W PySem.Calls PyProof.Rows
section
variable {p: Program} {w: World} {s₀ s: Shared} {mg mb: Str -> Option Value} {k ad: Addr} {ns: List Int}
variable (H: zes p w s₀ mg mb k ad ns) {tabs: List zb9} (N: zjt s₀ k tabs) {lit: Str -> Tok -> Prop} {litNz: ∀ {x t},lit x t -> t ≠ 0} {litNe: ∀ {x y t},lit x t -> lit y t -> x=y}
theorem zs2 {c P: Addr} (hd: CodeHd s₀.heap c P) (ck: c<=k) {h: Heap} (hi: (zbm H N lit litNz litNe).Inv h): CodeHd h c P:=
  zia hd fun o e=>hi.1 c o ck (N.ne e fun q=>by
    obtain ⟨o₂,_,_,_,_,_,_,_,_,e₂,hcls,_⟩:=hd
    rw [e₂] at e; replace e:=oj e; subst e
    rw [q] at hcls; cases hcls) e
theorem zqi {M: Model} {A: Around} {q: zb9} (hq: q ∈ tabs) {c: Addr} (hd: CodeHd s₀.heap c q.1) (ck: c<=k) (hi: (zbm H N lit litNz litNe).Inv s.heap) {env: Env} (he: env.code = .ref c)
    {firstLine: Nat} {name: Str} {params: Arguments} {scope: Scope} {body: FuncBody} {Q: Value -> Shared -> Prop} {E: Value -> Shared -> Prop}
    (h: ∀ c' h' tk,Ext0 (zbm H N lit litNz litNe) s { s with heap:=h',toks:=tk } -> k + 1<=c' -> h'.CodeRec (.ref c') q.2.2 -> (∃ o,h'.get? c'=some o/\zeo o) -> Q (.ref c') { s with heap:=h',toks:=tk }) :
    wpAny M A (functionCode env q.2.1 firstLine name q.2.2 params scope body) Q E s:=by
  obtain ⟨ps,hP,ht,hc⟩:=hi.2 q hq
  have hh:=zs2 H N hd ck hi
  rcases hc with hc | ⟨c',o,vs,t,hn,hc,ho,hcls,hdt,hv⟩
  · refine wpAny_functionCodeX he (hh.code hP ht) (hh.tab hP) hc fun c' h' tk hx hge hlt _ hrec htb htb'=>?_
    obtain ⟨P',_,_,⟨⟨oc,vc,e1,e2,e3,_⟩,_⟩⟩:=htb'
    obtain ⟨c₂,oc₂,vs,t,e4,g1,g2,g3⟩:=id hrec
    cases e4
    rw [e1] at g1; cases (g1)
    rw [e3] at g2; cases g2
    have hlow: k + 1<=s.heap.objs.size:=(zbm H N lit litNz litNe).low hi
    have hPk:=N.lo q hq
    refine h c' h' tk ⟨fun b o lo e=>hx b o (fun r=>by subst r; exact Nat.lt_irrefl _ (Nat.lt_of_lt_of_le (Nat.lt_succ_of_le hPk) lo)) e,fun _=>⟨fun b o hb hn e=>?_,fun q' hq'=>?_⟩,rfl,rfl,rfl⟩ (Nat.le_trans hlow hge) hrec ⟨oc,e1,e2,vc,e3⟩
    · exact hx b o (fun r=>hn (List.mem_map.mpr ⟨q,hq,r.symm⟩)) (hi.1 b o hb hn e)
    · by_cases hqq: q'.1=q.1
      · obtain ⟨ps',hP',ht',hc'⟩:=hi.2 q' hq'
        rw [hqq,hP] at hP'
        cases hP'
        refine ⟨_,(by rw [hqq]; exact htb.2),by simpa using TriplesOk_snoc _ _ _ _ ht,?_⟩
        have ha: (ps ++ #[rawInt q.2.1.line,rawInt q.2.1.col,Value.ref c']).toList=ps.toList ++ [rawInt q.2.1.line,rawInt q.2.1.col,.ref c']:=by simp
        rw [ha,znc _ _ _ _ ht]
        rcases hc' with hc' | ⟨c₁,o₁,vs₁,t₁,h0,h1,h2,h3,h4,h5⟩
        · rw [hc']
          by_cases hp: (((q.2.1.line: Nat): Int) == ((q'.2.1.line: Nat): Int) && ((q.2.1.col: Nat): Int) == ((q'.2.1.col: Nat): Int))=true
          · refine .inr ⟨c',oc,vc,t,Nat.le_trans hlow hge,by simp only [hp,if_true],e1,e2,e3,?_⟩
            simp only [Bool.and_eq_true,beq_iff_eq] at hp
            rw [<- N.uniq q hq q' hq' (by lia) (by lia)]
            exact g3
          · exact .inl (by simp only [hp]; rfl)
        · rw [h1]
          exact .inr ⟨c₁,o₁,vs₁,t₁,h0,rfl,hx _ _ (fun r=>by subst r; exact Nat.lt_irrefl _ (Nat.lt_of_lt_of_le (Nat.lt_succ_of_le (N.lo q hq)) h0)) h2,h3,h4,h5⟩
      · obtain ⟨ps',hP',ht',hc'⟩:=hi.2 q' hq'
        refine ⟨ps',hx _ _ hqq hP',ht',?_⟩
        rcases hc' with hc' | ⟨c₁,o₁,vs₁,t₁,h0,h1,h2,h3⟩
        · exact .inl hc'
        · exact .inr ⟨c₁,o₁,vs₁,t₁,h0,h1,hx _ _ (fun r=>by subst r; exact Nat.lt_irrefl _ (Nat.lt_of_lt_of_le (Nat.lt_succ_of_le (N.lo q hq)) h0)) h2,h3⟩
  · exact wpAny_functionCode_hit he (hh.code hP ht) hc (h c' s.heap s.toks (.refl s) hn ⟨c',o,vs,t,rfl,ho,hdt,hv⟩ ⟨o,ho,hcls,vs,hdt⟩)
structure z4m (C: CX) (s s': Shared) (f: Addr) (name qual: Str) (params: Arguments) (body: List Stmt) (scope: Scope) (clos: List (Str × Addr)): Prop where
  ext: Ext0 C s s'
  new: s.heap.get? f=none
  lo: C.n₀<=f
  fn: ∃ doc pm c' ctv o,s'.heap.get? f=some o/\o.data = .func (fnX name qual params body scope clos .none .none doc pm none (.ref c') ctv)/\C.n₀<=c'/\s'.heap.CodeRec (.ref c') qual /\ ∃ o',s'.heap.get? c'=some o'/\zeo o'
theorem zv9 {M: Model} {A: Around} {q: zb9} (hq: q ∈ tabs) {c: Addr} (hd: CodeHd s₀.heap c q.1) (ck: c<=k) (hi: (zbm H N lit litNz litNe).Inv s.heap) {env: Env} (he: env.code = .ref c) (hg: env.globals=mainGlobals)
    {firstLine: Nat} {name: Str} {params: Arguments} {scope: Scope} {body: List Stmt} {clos: List (Str × Addr)} (hcl: closureFor scope env=pure clos) (hdoc: docOf body=none) {Q: Value -> Shared -> Prop} {E: Value -> Shared -> Prop}
    (h: ∀ f s',z4m (zbm H N lit litNz litNe) s s' f name q.2.2 params body scope clos -> Q (.ref f) s') :
    wpAny M A (makeFunction name q.2.2 params (.stmts body) scope env [] [] [] q.2.1 firstLine) Q E s:=by
  rw [makeFunction_eq]
  simp only [List.zip_nil_right,List.filterMap_nil,List.isEmpty_nil,if_true,pure_bind]
  unfold makeTail
  rw [hcl,hg]
  refine wpAny_bind (wpAny_pure ?_)
  obtain ⟨bm,ob,bk,b1,b2,b3,b4,b5,b6⟩:=H.bmain
  have hbm: ∀ {h: Heap},(zbm H N lit litNz litNe).Inv h -> h.get? bm=some ob:=fun hi'=>hi'.1 bm ob bk (N.ne b3 fun q=>by rw [q] at b4; cases b4) b3
  have rest: ∀ (s₁: Shared) (cv: Value),Ext0 (zbm H N lit litNz litNe) s s₁ -> wpAny M A (functionCode env q.2.1 firstLine name q.2.2 params scope (.stmts body) >>= fun code=>builtinsFor mainGlobals env.builtins >>= fun bu=>nsGet mainGlobals "__name__" >>= fun pm=>
      pure Value.none >>= fun doc=>newObj (.type "function") (.func { name:=name,qualname:=q.2.2,params:=params,body:=.stmts body,scope:=scope,globals:=mainGlobals,closure:=clos,closureTuple:=cv,code:=code,builtins:=bu,defaults:=Value.none,kwdefaults:=Value.none,annotations:=none,pyModule:=pm.getD .none,doc:=doc })) Q E s₁:=fun s₁ cv x=>by
    refine wpAny_bind (zqi H N hq hd ck (x.inv hi) he fun c' h' tk x' hn hrec ho=>?_)
    have i':=x'.inv (x.inv hi)
    refine wpAny_bind (wpAny_builtinsFor ((zbm H N lit litNz litNe).g i') b1 b2 (hbm i') b4 b5 b6 ?_)
    refine wpAny_bind (wpAny_nsGet ((zbm H N lit litNz litNe).g i') (wpAny_bind (wpAny_pure (wpAny_newObj_type ?_ (by size_fits)))))
    refine h _ _ ⟨x.trans (x'.trans (.push _ _)),?_,(zbm H N lit litNz litNe).low i',?_⟩
    · cases e: s.heap.get? h'.objs.size with
      | none=>rfl
      | some o=>exact absurd (Heap.lt_size (x'.new _ o ((zbm H N lit litNz litNe).low i') (x.new _ o ((zbm H N lit litNz litNe).low i') e))) (Nat.lt_irrefl _)
    · obtain ⟨o',e',hc'⟩:=ho
      exact ⟨_,_,c',cv,_,Heap.get?_push_size _ rfl,rfl,hn,hrec.push _,o',Heap.get?_push_of_some _ e',hc'⟩
  have hb: (match FuncBody.stmts body with
    | .stmts b=>(match docOf b with | some s=>mkText s | none=>pure Value.none)
    | .expr _=>pure Value.none: Sem Value)=pure Value.none:=by simp only [hdoc]
  cases clos with
  | nil=>
    simp only [List.isEmpty_nil,if_true]
    refine wpAny_bind (wpAny_pure ?_)
    rw [hdoc]
    exact rest s .none (.refl s)
  | cons a r=>
    simp only [List.isEmpty_cons,Bool.false_eq_true,if_false]
    refine wpAny_bind (wpAny_newTextTuple ?_)
    rw [hdoc]
    exact rest _ _ (.push _ _)
end
structure zc4 (C: CX) (h: Heap) (f: Addr) (name qual: Str) (params: Arguments) (body: List Stmt) (scope: Scope) (clos: List (Str × Addr)): Prop where
  lo: C.n₀<=f
  fn: ∃ doc pm c' ctv o,h.get? f=some o/\o.data = .func (fnX name qual params body scope clos .none .none doc pm none (.ref c') ctv)/\C.n₀<=c'/\h.CodeRec (.ref c') qual /\ ∃ o',h.get? c'=some o'/\zeo o'
theorem zc4.keep {C: CX} {h h': Heap} {f: Addr} {name qual: Str} {params: Arguments} {body: List Stmt} {scope: Scope} {clos: List (Str × Addr)} (x: zc4 C h f name qual params body scope clos)
    (k: ∀ b o,C.n₀<=b -> (zeo o \/ ∃ fd,o.data = .func fd) -> h.get? b=some o -> h'.get? b=some o): zc4 C h' f name qual params body scope clos:=by
  obtain ⟨lo,doc,pm,c',ctv,o,e,hd,hc,hr,o',e',ho⟩:=x
  exact ⟨lo,doc,pm,c',ctv,o,k f o lo (.inr ⟨_,hd⟩) e,hd,hc,hr.at fun o₂ e₂=>k c' o₂ hc (.inl (by rw [e'] at e₂; replace e₂:=oj e₂; subst e₂; exact ho)) e₂,o',k c' o' hc (.inl ho) e',ho⟩
theorem zs3: ∀ {xs: List Str} {vs: List Value} {j: Nat} {x: Str} {v: Value},xs.Nodup -> xs[j]? = some x -> vs[j]? = some v -> (xs.zip vs).reverse.lookup x=some v:=by
  intro xs
  induction xs with
  | nil=>intro vs j x v _ h; simp at h
  | cons y ys ih=>
    intro vs j x v hn hx hv
    cases vs with
    | nil=>simp at hv
    | cons u us=>
      rw [List.zip_cons_cons,List.reverse_cons,List.lookup_append]
      cases j with
      | zero=>
        simp at hx hv; subst hx hv
        have: ∀ (l: List (Str × Value)),(∀ q ∈ l,q.1 ≠ y) -> l.lookup y=none:=fun l=>by
          induction l with
          | nil=>intro _; rfl
          | cons q r ih'=>
            intro h
            obtain ⟨a,b⟩:=q
            have: (y == a)=false:=by simpa using fun e=>h (a,b) List.mem_cons_self e.symm
            rw [List.lookup_cons,this]
            exact ih' fun q hq=>h q (List.mem_cons_of_mem _ hq)
        rw [this _ fun q hq e=>(List.nodup_cons.mp hn).1 (by
          have hz:=List.mem_reverse.mp hq
          obtain ⟨a,b⟩:=q
          simp only at e; subst e
          exact (List.of_mem_zip hz).1)]
        simp
      | succ j=>
        rw [ih (List.nodup_cons.mp hn).2 (by simpa using hx) (by simpa using hv)]
        rfl
section
variable {C: CX} {c: CE} {W OO: Addr -> Prop} {s: Shared}
structure zwa (C: CX) (c: CE) (W OO: Addr -> Prop) (h: Heap) (scope: Scope) (clos: List (Str × Addr)) (ρ₀: Rho): Prop where
  sc: ∀ x,c.sc.names.lookup x=scope.names.lookup x \/ c.sc.names.lookup x=none
  base: c.base=0
  ow: ∀ b,OO b -> W b
  cells: ∀ x,c.sc.names.lookup x=some .free -> ∃ b v,clos.lookup x=some b/\OO b/\h.IsCell b v
  cinj: ∀ x y b,clos.lookup x=some b -> clos.lookup y=some b -> x=y
  top: ∀ (i: Nat) (sl: Slot),ρ₀[i]? = some (some sl) -> ∃ x,idx c.σ x=some i/\c.sc.names.lookup x=some .free /\ ∃ b v,clos.lookup x=some b/\h.IsCell b (some v)/\RepS C h W OO sl v
  one: ∀ (i j: Nat) (sl t: Slot),ρ₀[i]? = some (some sl) -> ρ₀[j]? = some (some t) -> sl.isOwn=true -> t.isOwn=true -> i=j
theorem zml {A: Around} {name qual: Str} {params: Arguments} {body: List Stmt} {scope: Scope} {clos: List (Str × Addr)} {f: Addr} {as: List Arg} {ts: List Nat} {args: List PV} {vs: List Value} {ρ₀ ρ: Rho} {Q E: Value -> Shared -> Prop}
    (hk: scope.kind = .function) (hco: scope.isCoroutine=false) (hgen: scope.isGenerator=false) (hcell: ∀ x ∈ scope.names,x.2 ≠ .cell)
    (hpar: params = ⟨[],as,none,[],[],none,[]⟩) (hn: (as.map (·.arg)).Nodup) (hp: Places c (as.map (·.arg)) ts) (hloc: ∀ a ∈ as,c.sc.names.lookup a.arg=some .local)
    (hin: zc4 C s.heap f name qual params body scope clos) (ni: zwa C c W OO s.heap scope clos ρ₀) (at': At C W s) (hr: RepL C s.heap W args vs) (hb: zcw ts args ρ₀=some ρ) (hroom: A.depth < recursionLimit)
    (h: ∀ env s₁,env.locals=s.heap.objs.size -> env.cells=clos -> env.scope=scope -> Ext C s s₁ -> zam C c env (fun b=>W b \/ b=env.locals) (fun b=>OO b \/ b=env.locals) s₁.heap ρ -> At C (fun b=>W b \/ b=env.locals) s₁ ->
      wpAny (model C.prog C.w) (A.deeper env) (execs body env) (fun fl s'=>Q (match fl with | .ret v=>v | _=>.none) s') (fun _ _=>False) s₁): wpAny (model C.prog C.w) A (call (.ref f) vs) Q E s:=by
  obtain ⟨lo,doc,pm,c',ctv,o,e,hd,hc,hrec,o',e',ho⟩:=hin
  have hl: as.length=vs.length:=by
    rw [hr.length,<- zi2 hb,<- hp.length]; simp
  have hhl: ∀ b,s.heap.get? b=some o -> True:=fun _ _=>trivial
  refine wpAny_call (codeAny_call_def (fd:=fnX name qual params body scope clos .none .none doc pm none (.ref c') ctv) (body:=body) (binds:=(as.map (·.arg)).zip vs) hroom e hd (C.nolimit at'.inv) hrec rfl
    (BindsTo.of_eq (zfv (fd:=fnX name qual params body scope clos .none .none doc pm none (.ref c') ctv) (by exact hpar) rfl hl hn)) hcell (fun x hx=>?_) (fun h₀ hns keep=>?_) hco hgen hk)
  · have hx1:=(List.of_mem_zip (a:=x.1) (b:=x.2) hx).1
    obtain ⟨a,ha,hae⟩:=List.mem_map.mp hx1
    have h1:=hloc a ha
    rw [hae] at h1
    rcases ni.sc x.1 with h2 | h2
    · exact h2.symm.trans h1
    · rw [h2] at h1; exact zae h1
  · generalize henv: callEnv (fnX name qual params body scope clos .none .none doc pm none (.ref c') ctv) s.heap.objs.size f=env at hns ⊢
    have hL: env.locals=s.heap.objs.size:=by rw [<- henv]; rfl
    have hcl: env.cells=clos:=by rw [<- henv]; rfl
    have hsc: env.scope=scope:=by rw [<- henv]; rfl
    have hlow:=at'.low
    have ext: Ext C s { s with heap:=h₀,toks:=s.toks + ((as.map (·.arg)).zip vs).length }:=⟨.grow keep,Nat.le_add_right _ _⟩
    have hkind: ∀ {x k},c.sc.names.lookup x=some k -> env.kindOf x=some k:=fun {x k} hx=>by
      rcases ni.sc x with h2 | h2
      · show env.scope.names.lookup x=_
        rw [hsc,<- h2,hx]
      · rw [h2] at hx; exact zae hx
    have nW: ¬ W env.locals:=hL ▸ at'.nw
    have hS: Stay C s.heap h₀ W (fun b=>W b \/ b=env.locals):=fun b o lo hw eo=>⟨keep b o eo,fun hq=>by
      rcases hq with hq | hq
      · exact hw hq
      · rw [hq,hL] at eo; exact Nat.lt_irrefl _ (Heap.lt_size eo)⟩
    have inW: ∀ b,OO b -> C.n₀<=b /\ ∃ o,s.heap.get? b=some o:=fun b hb=>at'.wocc b (ni.ow b hb)
    have repS: ∀ {sl v},RepS C s.heap W OO sl v -> RepS C h₀ (fun b=>W b \/ b=env.locals) (fun b=>(OO b \/ b=env.locals)/\b ≠ env.locals) sl v:=fun {sl v} r=>by
      have nl: ∀ {b},OO b -> b ≠ env.locals:=fun {b} hb h=>nW (h ▸ ni.ow b hb)
      induction r with
      | val r=>exact .val (Rep.stay hS _ _ r)
      | own w lo l r z=>exact .own ⟨.inl w,nl w⟩ lo (keep _ _ l) (RepL.stay hS _ _ r) z
      | ownD w lo g r=>
        obtain ⟨o,e1,e2,ho,hr⟩:=g
        exact .ownD ⟨.inl w,nl w⟩ lo ⟨o,e1,e2,keep _ _ ho,hr⟩ (RepD.stay hS _ _ r)
    have slots: ∀ x i sl,idx c.σ x=some i -> ρ[i]? = some (some sl) -> ∃ v,zbl h₀ env C.n₀ x v/\RepS C h₀ (fun b=>W b \/ b=env.locals) (fun b=>(OO b \/ b=env.locals)/\b ≠ env.locals) sl v:=fun x i sl hi hsl=>by
      rcases zcp hb hsl with ⟨h1,_⟩ | ⟨j,q,g1,g2,rfl⟩
      · obtain ⟨y,hy,hf,b,v,hbl,hcb,hrs⟩:=ni.top i sl h1
        obtain rfl:=zcq hy hi
        obtain ⟨b',v',h2,h3,h4⟩:=ni.cells y hf
        rw [hbl] at h2; cases (h2)
        obtain ⟨ob,hob,hod⟩:=hcb
        exact ⟨v,.cell (.inr (hkind hf)) (by rw [hcl]; exact hbl) (inW b h3).1 ⟨ob,keep _ _ hob,hod⟩,repS hrs⟩
      · obtain ⟨y,hy,hyi,_⟩:=hp.at g1
        obtain rfl:=zcq hyi hi
        obtain ⟨v,hv,rv⟩:=hr.get j g2
        have hyl: c.sc.names.lookup y=some .local:=by
          rw [List.getElem?_map] at hy
          obtain ⟨a,ha,hae⟩:=Option.map_eq_some_iff.mp hy
          rw [<- hae]; exact hloc a (List.mem_of_getElem? ha)
        exact ⟨v,.loc (hkind hyl) (hL ▸ hns) (zs3 hn hy hv),repS (.val rv)⟩
    have ev: zam C c env (fun b=>W b \/ b=env.locals) (fun b=>OO b \/ b=env.locals) h₀ ρ:={
      glob:=by rw [<- henv]; rfl
      bui:=by rw [<- henv]; rfl
      kind:=by rw [hsc]; exact hk
      ow:=fun b hb=>hb.imp_left (ni.ow b)
      lo:=fun b hb=>by
        rcases hb with hb | hb
        · exact (inW b hb).1
        · rw [hb,hL]; exact hlow
      loc:=.inr rfl
      ns:=⟨_,hL ▸ hns⟩
      names:=fun x=>by
        rcases ni.sc x with h2 | h2
        · exact .inl (by show env.scope.names.lookup x=_; rw [hsc,<- h2])
        · exact .inr (.inr h2)
      cells:=fun x hx=>by
        rcases hx with hx | hx
        · rcases ni.sc x with h2 | h2
          · rw [h2] at hx; exact absurd rfl (hcell _ (mem_of_lookup hx))
          · rw [h2] at hx; exact zae hx
        · obtain ⟨b,v,h1,h2,ob,hob,hod⟩:=ni.cells x hx
          exact ⟨b,v,by rw [hcl]; exact h1,.inl h2,ob,keep _ _ hob,hod⟩
      cinj:=fun x y b h1 h2=>ni.cinj x y b (by rw [<- hcl]; exact h1) (by rw [<- hcl]; exact h2)
      top:=fun i sl hi=>by
        rcases zcp hb hi with ⟨h1,_⟩ | ⟨j,q,g1,_,_⟩
        · obtain ⟨y,hy,_⟩:=ni.top i sl h1
          exact zfr hy
        · obtain ⟨y,_,hyi,_⟩:=hp.at g1
          exact zfr hyi
      vars:=fun x i sl hi _ hsl=>slots x i sl hi hsl
      apart:=fun x y i j sl t v h1 h2 _ _ h3 h4 h5 h6 _ _=>by
        rcases zcp hb h3 with ⟨g1,_⟩ | ⟨_,q,_,_,rfl⟩
        · rcases zcp hb h4 with ⟨g2,_⟩ | ⟨_,q,_,_,rfl⟩
          · exact ni.one i j sl t g1 g2 h5 h6
          · exact ft h6
        · cases h5 }
    refine wpAny_mono (h env _ hL hcl hsc ext ev ⟨ext.inv at'.inv,fun b hb=>?_,Nat.lt_of_lt_of_le at'.tok ext.toks⟩) (fun fl s' hq=>?_) fun _ _ x=>x.elim
    · rcases hb with hb | hb
      · obtain ⟨lo',ob,eb⟩:=at'.wocc b hb
        exact ⟨lo',ob,keep _ _ eb⟩
      · obtain ⟨ob,_,_,eo,_⟩:=hns
        exact ⟨by rw [hb,hL]; exact hlow,ob,by rw [hb,hL]; exact eo⟩
    · exact hq
end
section
variable {C: CX} {c: CE} {env: Env} {W O: Addr -> Prop} {s: Shared} {ρ: Rho} {A: Around} {E: Value -> Shared -> Prop}
theorem zje {G: GT} {K: Nat} (ok: FnOk C G K) (rm: Room A K) {e: Expr} {x: PE} {y: Str} {i: Nat} {p pos: Pos} {v: PV} {Q: Flow -> Shared -> Prop} (h: SE c e x) (hc: zdi e=false) (hi: idx c.σ y=some i) (hk: c.sc.names.lookup y=some .local) (hnc: ∀ x,c.sc.names.lookup x ≠ some .cell)
    (ev: zam C c env W O s.heap ρ) (a: At C W s) (hv: zag G x ρ=some v) (q: ∀ s',ExtO C (fun b=>b=env.locals) s s' -> zam C c env W O s'.heap (setR ρ i (.val v)) -> At C W s' -> Q .next s') :
    wpAny (model C.prog C.w) A (exec (.Assign [.Name y p] e pos) env) Q E s:=by
  refine wpAny_Assign_Name (h.val ok ev a rm hv _ _ fun u s₁ e₁ r₁=>?_) (ze7 hc rfl)
  refine zbn (ev.ext e₁.toExt0) hi (.inl hk) (.val r₁) (fun h=>by exact ft h) fun s₂ e₂ ev₂=>?_
  have e₂': ExtO C (fun b=>b=env.locals) s₁ s₂:=e₂.mono fun b hb=>by
    rcases hb with hb | ⟨x,hx,_⟩
    · exact hb
    · exact absurd hx (hnc x)
  exact q s₂ (e₁.toO.trans e₂') ev₂ ((a.ext e₁).extO e₂)
theorem zds {G: GT} {K: Nat} (ok: FnOk C G K) (rm: Room A K) {x: Str} {args: List Expr} {xs: List PE} {ps: List PV} {f: Addr} {p₁ pos: Pos} {name qual: Str} {params: Arguments} {body: List Stmt} {scope: Scope} {clos: List (Str × Addr)} {Q: Value -> Shared -> Prop}
    (hs: SEs c args xs) (ev: zam C c env W O s.heap ρ) (a: At C W s) (hd: (x == ("__debug__" : Str))=false) (hcd: (x == ("__classdict__" : Str))=false) (hv: zbl s.heap env C.n₀ x (.ref f)) (hin: zc4 C s.heap f name qual params body scope clos)
    (h2: zbe G xs ρ=some ps) (q: ∀ vs s',Ext C s s' -> RepL C s'.heap W ps vs -> wpAny (model C.prog C.w) A (call (.ref f) vs) Q E s'): wpAny (model C.prog C.w) A (eval (.Call (.Name x p₁) args [] pos) env) Q E s:=by
  obtain ⟨lo,doc,pm,c',ctv,o,e,hod,_⟩:=hin
  refine wpAny_Call_NameR (wpAny_Name (zb7 ev hcd hv ?_) hd)
  refine callWith_function (o:=o) (za3 (hs.star env) ((hs.sndL ok rm ev a h2) _ _ fun vs s₂ e₂ r₂=>⟨⟨e₂.new _ _ lo e,hod⟩,?_⟩))
  exact q vs s₂ e₂ r₂
theorem ExtO.dropO {X: Addr -> Prop} {L: Addr} {s s': Shared} (x: ExtO C (fun b=>X b \/ b=L) s s') (h: s.heap.get? L=none): ExtO C X s s':=
  ⟨fun b o lo hb e=>x.new b o lo (fun hx=>by
    rcases hx with hx | rfl
    · exact hb hx
    · rw [h] at e; exact zae e) e,x.occ,x.inv,x.gens,x.drawn,x.os,x.toks⟩
theorem zam.around {X: Addr -> Prop} {s': Shared} (ev: zam C c env W O s.heap ρ) (x: ExtO C X s s') (hX: ∀ b,X b -> W b /\ ¬ O b): zam C c env W O s'.heap ρ:=
  ev.move (fun b o lo hb e=>x.new b o lo (fun h=>by
    rcases hb with hb | hb
    · exact hb (hX b h).1
    · exact (hX b h).2 hb) e) ev.ow fun b hb=>.inl hb
theorem zs4 {X: Addr -> Prop} {s': Shared} {f: Addr} {name qual: Str} {params: Arguments} {body: List Stmt} {scope: Scope} {clos: List (Str × Addr)} (hin: zc4 C s.heap f name qual params body scope clos) (x: ExtO C X s s')
    (hX: ∀ b,X b -> ∀ o,s.heap.get? b=some o -> ¬ (zeo o \/ ∃ fd,o.data = .func fd)): zc4 C s'.heap f name qual params body scope clos:=
  hin.keep fun b o lo ho e=>x.new b o lo (fun h=>hX b h o e ho) e
end
theorem z2d {x: Int} {k: Nat} (h: 0<=x): Builtin.bitXor x (x / 2 ^ k * 2 ^ k)=x % 2 ^ k:=by
  obtain ⟨m,rfl⟩:=Int.eq_ofNat_of_zero_le h
  have e1: ((m: Int) / 2 ^ k * 2 ^ k)=((m / 2 ^ k * 2 ^ k: Nat): Int):=by simp
  have e2: ((m: Int) % 2 ^ k)=((m % 2 ^ k: Nat): Int):=by simp
  rw [e1,e2]
  have hy: m=(m / 2 ^ k * 2 ^ k) ||| (m % 2 ^ k):=by
    have:=Nat.two_pow_add_eq_or_of_lt (b:=m % 2 ^ k) (i:=k) (Nat.mod_lt _ (Nat.two_pow_pos k)) (m / 2 ^ k)
    rw [Nat.mul_comm,<- this]
    exact (Nat.div_add_mod m (2 ^ k)).symm
  generalize hq: m / 2 ^ k * 2 ^ k=y at hy ⊢
  have hr: m % 2 ^ k=m - y:=by
    have:=Nat.div_add_mod m (2 ^ k)
    rw [Nat.mul_comm,hq,Nat.add_comm] at this
    exact Nat.eq_sub_of_add_eq this
  have hle: y<=m:=by
    have:=Nat.div_add_mod m (2 ^ k)
    rw [Nat.mul_comm,hq] at this
    exact Nat.le_trans (Nat.le_add_right _ _) (Nat.le_of_eq this)
  have hor: m ||| y=m:=by
    apply Nat.eq_of_testBit_eq; intro i
    rw [hy]
    simp only [Nat.testBit_or]
    cases y.testBit i <;> simp
  have hand: m &&& y=y:=by
    apply Nat.eq_of_testBit_eq; intro i
    rw [Nat.testBit_and]
    conv=>lhs; rw [hy]
    simp only [Nat.testBit_or]
    cases y.testBit i <;> simp
  unfold Builtin.bitXor
  have b1: Builtin.bitOr (m: Int) (y: Int)=(m: Int):=by
    unfold Builtin.bitOr Builtin.bitAnd Builtin.bitNot
    rw [decide_eq_false (by lia),decide_eq_false (by lia)]
    show -(-(((-(-(m: Int) - 1) - 1).toNat ||| (-(-(y: Int) - 1) - 1).toNat: Nat): Int) - 1) - 1=_
    have e1: ∀ u: Nat,(-(-(u: Int) - 1) - 1).toNat=u:=fun u=>by lia
    rw [e1,e1,hor]; lia
  have b2: Builtin.bitAnd (m: Int) (y: Int)=(y: Int):=by
    unfold Builtin.bitAnd
    rw [decide_eq_true ‹_›,decide_eq_true (Int.natCast_nonneg _)]
    show (((m: Int).toNat &&& (y: Int).toNat: Nat): Int)=_
    rw [Int.toNat_natCast,Int.toNat_natCast,hand]
  rw [b1,b2,hr]; exact (Int.ofNat_sub ‹_›).symm
noncomputable def digF (n: Nat): Nat -> Int -> Nat -> Nat -> List Int -> List Int
  | 0,x,L,_,xs=>xs.set L x
  | k + 1,x,L,R,xs=>if L + 1=R then xs.set L x else
      digF n k (x / 2 ^ (((L + R) / 2 - L) * n)) ((L + R) / 2) R (digF n k (x % 2 ^ (((L + R) / 2 - L) * n)) L ((L + R) / 2) xs)
theorem zy1 (n k: Nat) (x: Int) (L R: Nat) (xs: List Int): digF n (k + 1) x L R xs=if L + 1=R then xs.set L x else digF n k (x / 2 ^ (((L + R) / 2 - L) * n)) ((L + R) / 2) R (digF n k (x % 2 ^ (((L + R) / 2 - L) * n)) L ((L + R) / 2) xs):=rfl
theorem zhk {n: Nat}: ∀ {k: Nat} {x: Int} {L R: Nat} {xs: List Int},(digF n k x L R xs).length=xs.length
  | 0,x,L,R,xs=>List.length_set
  | k + 1,x,L,R,xs=>by
    rw [zy1]
    split
    · simp
    · rw [zhk,zhk]
theorem zbd {C: CX} {h h': Heap} {W W': Addr -> Prop}: ∀ {xs: List Int} {vs: List Value},RepL C h W (xs.map .int) vs -> RepL C h' W' (xs.map .int) vs
  | [],_,r=>r
  | x :: xs,vs,r=>by
    obtain ⟨v,u,rfl,h1,h2⟩:=r
    exact ⟨v,u,rfl,h1,zbd h2⟩
inductive z4n (c: CE) (body: List Stmt): Prop
  | mk (t: Expr) (pn: Pos) (iE: Expr) (ps: Pos) (vE: Expr) (pa: Pos) (pr: Pos) (pif: Pos) (e1: Expr) (q1: Pos) (r1: Pos) (e2: Expr) (q2: Pos) (r2: Pos) (e3: Expr) (q3: Pos) (r3: Pos) (e4: Expr) (q4: Pos) (r4: Pos) (a1: List Expr) (w1: Pos) (w2: Pos) (w3: Pos) (a2: List Expr) (u1: Pos) (u2: Pos) (u3: Pos)
    (x0: body=[.If t [.Assign [.Subscript (.Name "a_digits" pn) iE ps] vE pa,.Return none pr] [] pif,.Assign [.Name "mid" q1] e1 r1,.Assign [.Name "shift" q2] e2 r2,.Assign [.Name "upper" q3] e3 r3,.Assign [.Name "lower" q4] e4 r4,
      .Expr (.Call (.Name "inner" w1) a1 [] w2) w3,.Expr (.Call (.Name "inner" u1) a2 [] u2) u3]) (x1: SE c t (.cmp .Eq (.bin .Add (.var 2) (.int 1)) (.var 3))) (x2: SE c iE (.var 2)) (x3: SE c vE (.var 1)) (x4: zdi vE=false) (x5: (SE c e1 (.bin .RShift (.bin .Add (.var 2) (.var 3)) (.int 1))/\zdi e1=false)) (x6: (SE c e2 (.bin .Mult (.bin .Sub (.var 4) (.var 2)) (.var 0))/\zdi e2=false)) (x7: (SE c e3 (.bin .RShift (.var 1) (.var 5))/\zdi e3=false)) (x8: (SE c e4 (.bin .BitXor (.var 1) (.bin .LShift (.var 6) (.var 5)))/\zdi e4=false)) (x9: SEs c a1 [.var 7,.var 2,.var 4]) (x10: SEs c a2 [.var 6,.var 4,.var 3])
structure FormA (c: CE) (as: List Arg) (body: List Stmt) (scope: Scope): Prop where
  kind: scope.kind = .function
  noco: scope.isCoroutine=false
  nogen: scope.isGenerator=false
  nocell: ∀ x ∈ scope.names,x.2 ≠ .cell
  nodup: (as.map (·.arg)).Nodup
  places: Places c (as.map (·.arg)) [1,2,3]
  loc: ∀ a ∈ as,c.sc.names.lookup a.arg=some .local
  sc: ∀ x,c.sc.names.lookup x=scope.names.lookup x \/ c.sc.names.lookup x=none
  base: c.base=0
  nocell': ∀ x,c.sc.names.lookup x ≠ some .cell
  free: ∀ x,c.sc.names.lookup x=some .free -> x=(Str.ofString "n")
  nf: c.sc.names.lookup (Str.ofString "n")=some .free
  ni: idx c.σ (Str.ofString "n")=some 0
  mi: idx c.σ (Str.ofString "mid")=some 4
  si: idx c.σ (Str.ofString "shift")=some 5
  ui: idx c.σ (Str.ofString "upper")=some 6
  li: idx c.σ (Str.ofString "lower")=some 7
  ml: c.sc.names.lookup (Str.ofString "mid")=some .local
  sl: c.sc.names.lookup (Str.ofString "shift")=some .local
  ul: c.sc.names.lookup (Str.ofString "upper")=some .local
  ll: c.sc.names.lookup (Str.ofString "lower")=some .local
  fa: scope.names.lookup (Str.ofString "a_digits")=some .free
  fi: scope.names.lookup (Str.ofString "inner")=some .free
  form: z4n c body
section
variable {name qual: Str} {as: List Arg} {body: List Stmt} {scope: Scope} {clos: List (Str × Addr)}
structure CloA (C: CX) (name qual: Str) (as: List Arg) (body: List Stmt) (scope: Scope) (clos: List (Str × Addr)) (W: Addr -> Prop) (h: Heap) (f cn ci ca ad: Addr) (n: Nat) (xs: List Int): Prop where
  inn: zc4 C h f name qual ⟨[],as,none,[],[],none,[]⟩ body scope clos
  cn': ∃ t,h.IsCell cn (some (.int n t))
  ci': h.IsCell ci (some (.ref f))
  ca': h.IsCell ca (some (.ref ad))
  l: ∃ vs k,h.get? ad=some (za5 vs k)/\RepL C h W (xs.map .int) vs
  wn: W cn
  wi: W ci
  wa: W ca
  wd: W ad
theorem znp {h: Heap} {ad: Addr} {vs: List Value} {k: Nat} (e: h.get? ad=some (za5 vs k)): ∀ o,h.get? ad=some o -> ¬ (zeo o \/ ∃ fd,o.data = .func fd):=fun o eo hc=>by
  rw [e] at eo; replace eo:=oj eo; subst eo
  rcases hc with hc | ⟨fd,hc⟩
  · exact (zfl (o:=za5 vs k) (a:="list") rfl (by decide)) hc
  · cases hc
theorem CloA.step {C: CX} {W W': Addr -> Prop} {s s': Shared} {f cn ci ca ad: Addr} {n: Nat} {xs xs': List Int} (x: CloA C name qual as body scope clos W s.heap f cn ci ca ad n xs) (a: At C W s) (e: ExtO C (fun b=>b=ad) s s') (hW: ∀ b,W b -> W' b)
    (l: ∃ vs k,s'.heap.get? ad=some (za5 vs k)/\RepL C s'.heap W' (xs'.map .int) vs): CloA C name qual as body scope clos W' s'.heap f cn ci ca ad n xs':=by
  obtain ⟨vs,k,hl,_⟩:=x.l
  have cell: ∀ {b v},W b -> s.heap.IsCell b v -> s'.heap.IsCell b v:=fun {b v} hb z=>by obtain ⟨o,ho,hd⟩:=z; exact ⟨o,e.new b o (a.wocc b hb).1 (fun h=>by subst h; rw [hl] at ho; replace ho:=oj ho; subst ho; cases hd) ho,hd⟩
  obtain ⟨t,ht⟩:=x.cn'
  exact { inn:=zs4 x.inn e fun b hb=>by subst hb; exact znp hl
          cn':=⟨t,cell x.wn ht⟩
          ci':=cell x.wi x.ci'
          ca':=cell x.wa x.ca'
          l:=l
          wn:=hW _ x.wn
          wi:=hW _ x.wi
          wa:=hW _ x.wa
          wd:=hW _ x.wd }
end
section
variable {C: CX} {c: CE} {as: List Arg} {body: List Stmt} {scope: Scope} {clos: List (Str × Addr)} {name qual: Str}
structure CloL (clos: List (Str × Addr)) (cn ci ca: Addr): Prop where
  n: clos.lookup (Str.ofString "n")=some cn
  i: clos.lookup (Str.ofString "inner")=some ci
  a: clos.lookup (Str.ofString "a_digits")=some ca
  inj: ∀ x y b,clos.lookup x=some b -> clos.lookup y=some b -> x=y
theorem Room.mono {A: Around} {K K': Nat} (h: Room A K) (hk: K'<=K): Room A K':=⟨h.1,by have:=h.2.1; lia,by have:=h.2.2; lia⟩
theorem Room.deeper {A: Around} {K: Nat} {env: Env} (h: Room A (K + 1)): Room (A.deeper env) K:=⟨h.1,by have:=h.2.1; show A.depth + 1 + 2 * K + 110 < _; lia,by have:=h.2.2; show A.units + 3 + 16 * K + 200 < _; lia⟩
theorem ExtO.listSet {s: Shared} {ad: Addr} {h': Heap} {vs vs': List Value} {k k': Nat} (lo: C.n₀<=ad) (hl: s.heap.get? ad=some (za5 vs k)) (hl': h'.get? ad=some (za5 vs' k')) (hs: Heap.SameBut ad s.heap h'): ExtO C (fun b=>b=ad) s { s with heap:=h' } where
  new:=fun b o _ hb e=>(hs.2 b hb).trans e
  occ:=fun b o _ e=>by
    by_cases hb: b=ad
    · subst hb; exact ⟨_,hl'⟩
    · exact ⟨o,(hs.2 b hb).trans e⟩
  inv:=C.keepBut lo (fun o e=>by rw [hl] at e; replace e:=oj e; subst e; exact zfl (a:="list") rfl (by decide)) fun b o hb e=>(hs.2 b hb).trans e
  gens:=rfl
  drawn:=rfl
  os:=rfl
  toks:=Nat.le_refl _
noncomputable abbrev rhoA (n: Nat) (x L R: Int) (mid sh up lo: Option Slot): Rho:=[some (.val (.int n)),some (.val (.int x)),some (.val (.int L)),some (.val (.int R)),mid,sh,up,lo]
noncomputable def z2e (C: CX) (c: CE) (name qual: Str) (as: List Arg) (body: List Stmt) (scope: Scope) (clos: List (Str × Addr)) (K: Nat) (f cn ci ca ad: Addr) (n k: Nat): Prop:=
    ∀ (x: Int) (L R: Nat) (xs: List Int) (A: Around) (W: Addr -> Prop) (s: Shared) (vs: List Value),Room A (K + k + 1) -> At C W s -> CloA C name qual as body scope clos W s.heap f cn ci ca ad n xs -> C.n₀<=ad -> C.n₀<=ca -> C.n₀<=ci ->
      RepL C s.heap W [.int x,.int L,.int R] vs -> 0<=x -> bits x<=64000000 -> L < R -> R - L<=2 ^ k -> R<=xs.length -> R<=64 -> ∀ (Q E: Value -> Shared -> Prop),
      (∀ s',ExtO C (fun b=>b=ad) s s' -> At C W s' -> CloA C name qual as body scope clos W s'.heap f cn ci ca ad n (digF n k x L R xs) -> Q .none s') -> wpAny (model C.prog C.w) A (call (.ref f) vs) Q E s
theorem zew {x y: Int} (h0: 0<=y) (h: y<=x): bits y<=bits x:=zas h0 (Int.lt_of_le_of_lt h (zc1 (Int.le_trans h0 h)))
theorem z2f {x m: Int} (h0: 0<=x) (hm: 0 < m): x % m<=x:=by
  have:=Int.mul_ediv_add_emod x m
  have:=Int.mul_nonneg (Int.le_of_lt hm) (Int.ediv_nonneg h0 (Int.le_of_lt hm))
  lia
theorem z4o {L R: Nat}: binP .RShift (.int ((L: Int) + R)) (.int 1)=some (.int (((L + R) / 2: Nat): Int)):=by
  have:=zoy (x:=(L: Int) + R) (n:=1)
  rw [show ((1: Nat): Int)=1 from rfl] at this
  rw [this]
  congr 2
theorem zwb {m L n: Nat} (h: L<=m) (h2: m<=64) (hN: n<=1000000): binP .Mult (.int ((m: Int) - L)) (.int n)=some (.int (((m - L) * n: Nat): Int)):=by
  have e: (m: Int) - L=((m - L: Nat): Int):=(Int.ofNat_sub h).symm
  rw [e]
  have b1: bits ((m - L: Nat): Int)<=7:=zch (Nat.lt_of_le_of_lt (Nat.le_trans (Nat.sub_le m L) h2) (by decide))
  have b2: bits (n: Int)<=20:=zch (Nat.lt_of_le_of_lt hN (by decide))
  rw [zja (by lia)]
  congr 2
theorem ExtO.thenLoc {X: Addr -> Prop} {L: Addr} {s s' s'': Shared} (x: ExtO C X s s') (y: ExtO C (fun b=>b=L) s' s'') (h: s.heap.get? L=none): ExtO C X s s'':=
  ((x.mono fun _ h=>.inl h).trans (y.mono fun _ h=>.inr h)).dropO h
theorem zo9 {n k: Nat} {x: Int} {L: Nat} {xs: List Int}: digF n k x L (L + 1) xs=xs.set L x:=by
  cases k with
  | zero=>rfl
  | succ k=>rw [zy1,if_pos rfl]
theorem tdf {a b: Nat}: ((a: Int) == (b: Int))=decide (a=b):=by
  by_cases h: a=b
  · subst h; simp
  · rw [decide_eq_false h]; exact beq_eq_false_iff_ne.mpr (by lia)
theorem z0a {c k: Nat} (h1: 1<=c) (hl: ¬ c=1) (hk: c<=2 ^ (k + 1)): ∃ p q,c / 2=p/\p + q=c/\1<=p/\1<=q/\p<=2 ^ k/\q<=2 ^ k:=by
  have e:=Nat.div_add_mod c 2
  have r:=Nat.mod_lt c (show 0 < 2 from Nat.two_pos)
  rw [Nat.pow_succ] at hk
  refine ⟨c / 2,c / 2 + c % 2,rfl,?_,?_⟩ <;> generalize c / 2=p at e ⊢ <;> generalize c % 2=s at e r ⊢ <;> generalize 2 ^ k=T at hk ⊢
  · rw [<- Nat.add_assoc,<- Nat.two_mul]; exact e
  · subst e
    have p1: 1<=p:=by lia
    exact ⟨p1,Nat.le_add_right_of_le p1,by lia,by lia⟩
theorem mids {L R k m: Nat} (h1: L < R) (h2: ¬ L + 1=R) (h3: R - L<=2 ^ (k + 1)) (h4: m=(L + R) / 2): L < m/\m < R/\m - L<=2 ^ k/\R - m<=2 ^ k:=by
  obtain ⟨c,rfl⟩:=Nat.exists_eq_add_of_le (Nat.le_of_lt h1)
  rw [Nat.add_sub_cancel_left] at h3
  obtain ⟨p,q,e,rfl,p1,q1,pk,qk⟩:=z0a (Nat.pos_of_lt_add_right h1) (fun e=>h2 (congrArg (L + ·) e).symm) h3
  rw [<- Nat.add_assoc,<- Nat.two_mul,Nat.mul_add_div Nat.two_pos,e] at h4
  subst h4
  rw [Nat.add_sub_cancel_left,<- Nat.add_assoc,Nat.add_sub_cancel_left]
  exact ⟨Nat.lt_add_of_pos_right p1,Nat.lt_add_of_pos_right q1,pk,qk⟩
theorem z4p {L R: Nat} (h: L < R) (h2: R - L<=2 ^ 0): L + 1=R:=Nat.le_antisymm h (Nat.sub_le_iff_le_add'.mp h2)
theorem zmm {G: GT} {K: Nat} (ok: FnOk C G K) (frm: FormA c as body scope) {cn ci ca f ad: Addr} {n: Nat} (cl: CloL clos cn ci ca) (hn: 1<=n) (hN: n<=1000000) (k: Nat)
    (ih: ∀ k',k=k' + 1 -> z2e C c name qual as body scope clos K f cn ci ca ad n k'): z2e C c name qual as body scope clos K f cn ci ca ad n k:=by
  intro x L R xs A W s vs rm at' hcl lo lca lci hr h0 hb hLR hk hRl hR Q E q
  obtain ⟨t,pn,iE,ps,vE,pa,pr,pif,e1,q1,r1,e2,q2,r2,e3,q3,r3,e4,q4,r4,a1,w1,w2,w3,a2,u1,u2,u3,hbody,ht,hiE,hvE,hcv,⟨h1,hc1⟩,⟨h2,hc2⟩,⟨h3,hc3⟩,⟨h4,hc4⟩,ha1,ha2⟩:=frm.form
  have ni: zwa C c W (fun b=>b=cn) s.heap scope clos (some (.val (.int n)) :: List.replicate 7 none):={
      sc:=frm.sc
      base:=frm.base
      ow:=fun b hb=>by subst hb; exact hcl.wn
      cells:=fun y hy=>by
        obtain rfl:=frm.free y hy
        obtain ⟨t,ht⟩:=hcl.cn'
        exact ⟨cn,_,cl.n,rfl,ht⟩
      cinj:=cl.inj
      top:=fun i sl hi=>by
        rcases i with _ | i
        · simp at hi; subst hi
          obtain ⟨t,ht⟩:=hcl.cn'
          exact ⟨_,frm.ni,frm.nf,cn,_,cl.n,ht,.val zbf⟩
        · rw [List.getElem?_cons_succ,List.getElem?_replicate] at hi
          split at hi <;> simp at hi
      one:=fun i j sl u hi hj=>by
        rcases i with _ | i
        · simp at hi; subst hi
          intro h; exact ft h
        · rw [List.getElem?_cons_succ,List.getElem?_replicate] at hi
          split at hi <;> simp at hi }
  refine zml frm.kind frm.noco frm.nogen frm.nocell rfl frm.nodup frm.places frm.loc hcl.inn ni at' hr (ρ:=rhoA n x L R none none none none) rfl (by have:=rm.2.1; lia) fun env s₁ hL hcells hscope e₁ ev₁ a₁=>?_
  have rm': Room (A.deeper env) (K + k):=rm.deeper
  have rmK: Room (A.deeper env) K:=rm'.mono (Nat.le_add_right _ _)
  have fresh: s.heap.get? env.locals=none:=by rw [hL]; exact zar
  have hcl₁: CloA C name qual as body scope clos (fun b=>W b \/ b=env.locals) s₁.heap f cn ci ca ad n xs:=hcl.step at' e₁.toO (fun b h=>.inl h) (by
    obtain ⟨vs,k,h1,h2⟩:=hcl.l
    exact ⟨vs,k,e₁.new _ _ lo h1,zbd h2⟩)
  have kf: ∀ {y},scope.names.lookup y=some .free -> env.kindOf y=some .free:=fun {y} h=>by show env.scope.names.lookup y=_; rw [hscope]; exact h
  have dO: ∀ b,b=ad -> (W b \/ b=env.locals) /\ ¬ (b=cn \/ b=env.locals):=fun b hb=>by
    subst hb
    refine ⟨.inl hcl.wd,fun h=>?_⟩
    obtain ⟨vs,k,hl,_⟩:=hcl.l
    rcases h with h | h
    · subst h
      obtain ⟨t,o,ho,hd⟩:=hcl.cn'
      rw [hl] at ho; replace ho:=oj ho; subst ho; cases hd
    · rw [h,fresh] at hl; exact zae hl
  rw [hbody]
  refine wpAny_execs_cons (wpAny_If (ht.tst ok ev₁ a₁ rmK (b:=decide (L + 1=R)) (zav (zaf (zaa rfl) rfl rfl) (zaa rfl) (by show some (((L: Int) + 1) == (R: Int))=_; rw [<- tdf]; rfl)) _ _ fun s₂ e₂=>?_))
  have ev₂:=ev₁.ext e₂.toExt0
  have a₂:=a₁.ext e₂
  have hcl₂: CloA C name qual as body scope clos (fun b=>W b \/ b=env.locals) s₂.heap f cn ci ca ad n xs:=hcl₁.step a₁ e₂.toO (fun b h=>h) (by
    obtain ⟨vs,k,h1,h2⟩:=hcl₁.l
    exact ⟨vs,k,e₂.new _ _ lo h1,zbd h2⟩)
  by_cases hleaf: L + 1=R
  · rw [decide_eq_true hleaf]
    refine wpAny_execs_cons (wpAny_Assign_Subscript (hvE.val ok ev₂ a₂ rmK (zaa rfl) _ _ fun v s₃ e₃ r₃=>?_) (ze7 hcv rfl))
    have e₁₃:=(e₁.trans e₂).trans e₃
    refine wpAny_Name (zb7 (ev₂.ext e₃.toExt0) rfl (v:=.ref ad) (.cell (.inr (kf frm.fa)) (by rw [hcells]; exact cl.a) lca ?_) ?_) rfl
    · obtain ⟨o,ho,hd⟩:=hcl.ca'
      exact ⟨o,e₁₃.new _ _ lca ho,hd⟩
    refine hiE.val ok (ev₂.ext e₃.toExt0) (a₂.ext e₃) rmK (zaa rfl) _ _ fun iv s₄ e₄ r₄=>?_
    obtain ⟨tt,rfl⟩:=zah r₄
    have e₁₄:=e₁₃.trans e₄
    obtain ⟨us,kk,hl,hrl⟩:=hcl.l
    have hl₄:=e₁₄.new _ _ lo hl
    have hlen: us.length=xs.length:=by rw [hrl.length]; simp
    refine zun hl₄ (Int.natCast_nonneg _) (by lia) (by lia) fun h' n' hl' same=>?_
    refine wpAny_execs_cons (wpAny_Return_none ?_)
    have eO: ExtO C (fun b=>b=ad) s { s₄ with heap:=h' }:=(e₁₄.toO (O:=fun b=>b=ad)).trans (ExtO.listSet lo hl₄ hl' same)
    refine q _ eO (at'.extO eO) (hcl.step at' eO (fun b h=>h) ⟨us.set L v,n',by simpa using hl',?_⟩)
    subst hleaf
    rw [zo9,List.map_set]
    exact RepL.setAt L (zbd hrl) r₃
  · rw [decide_eq_false hleaf]
    show wpAny _ _ (execs [] env) _ _ s₂
    refine wpAny_execs_nil ?_
    cases k with
    | zero=>exact absurd (z4p hLR hk) hleaf
    | succ k=>
    have ihk:=ih k rfl
    have hnc: ∀ x,c.sc.names.lookup x ≠ some .cell:=frm.nocell'
    obtain ⟨m,hm⟩: ∃ m,m=(L + R) / 2:=⟨_,rfl⟩
    obtain ⟨hLm,hmR,hmk,hmk2⟩:=mids hLR hleaf hk hm
    have hm64: m<=64:=Nat.le_trans (Nat.le_of_lt hmR) hR
    have hmR':=Nat.le_of_lt hmR
    have hLm':=Nat.le_of_lt hLm
    obtain ⟨sh,hsh⟩: ∃ sh,sh=(m - L) * n:=⟨_,rfl⟩
    have hshl: sh<=64000000:=by
      rw [hsh]
      exact Nat.le_trans (Nat.mul_le_mul (Nat.le_trans (Nat.sub_le _ _) hm64) hN) (by decide)
    have hup: 0<=x / 2 ^ sh:=Int.ediv_nonneg h0 (Int.le_of_lt (p2 sh))
    have hlow: 0<=x % 2 ^ sh:=Int.emod_nonneg _ (Int.ne_of_gt (p2 sh))
    have hupb: bits (x / 2 ^ sh)<=bits x:=zew hup (Int.ediv_le_self _ h0)
    have hlowb: bits (x % 2 ^ sh)<=bits x:=zew hlow (z2f h0 (p2 sh))
    refine wpAny_execs_cons (zje ok rmK h1 hc1 frm.mi frm.ml hnc ev₂ a₂ (v:=.int m) (zaf (zaf (zaa rfl) (zaa rfl) rfl) rfl (by rw [hm]; exact z4o)) fun s₃ e₃ ev₃ a₃=>?_)
    refine wpAny_execs_cons (zje ok rmK h2 hc2 frm.si frm.sl hnc ev₃ a₃ (v:=.int sh) (zaf (zaf (zaa rfl) (zaa rfl) rfl) (zaa rfl) (by rw [hsh]; exact zwb hLm' hm64 hN)) fun s₄ e₄ ev₄ a₄=>?_)
    refine wpAny_execs_cons (zje ok rmK h3 hc3 frm.ui frm.ul hnc ev₄ a₄ (v:=.int (x / 2 ^ sh)) (zaf (zaa rfl) (zaa rfl) zoy) fun s₅ e₅ ev₅ a₅=>?_)
    refine wpAny_execs_cons (zje ok rmK h4 hc4 frm.li frm.ll hnc ev₅ a₅ (v:=.int (x % 2 ^ sh)) (zaf (zaa rfl) (zaf (zaa rfl) (zaa rfl) (zni (by lia))) (by show some (PV.int (Builtin.bitXor _ _))=_; rw [z2d h0])) fun s₆ e₆ ev₆ a₆=>?_)
    have hne: ad ≠ env.locals:=fun h=>(dO ad rfl).2 (.inr h)
    have eO₆: ExtO C (fun b=>b=ad) s s₆:=(((((e₁.trans e₂).toO (O:=fun b=>b=ad)).thenLoc e₃ fresh).thenLoc e₄ fresh).thenLoc e₅ fresh).thenLoc e₆ fresh
    have hcl₆: CloA C name qual as body scope clos (fun b=>W b \/ b=env.locals) s₆.heap f cn ci ca ad n xs:=hcl.step at' eO₆ (fun b h=>.inl h) (by
      obtain ⟨vs,k,h1,h2⟩:=hcl₂.l
      exact ⟨vs,k,e₆.new _ _ lo hne (e₅.new _ _ lo hne (e₄.new _ _ lo hne (e₃.new _ _ lo hne h1))),zbd h2⟩)
    refine wpAny_execs_cons (wpAny_Expr_any (zds ok rmK (ps:=[.int (x % 2 ^ sh),.int L,.int m]) ha1 ev₆ a₆ rfl rfl (.cell (.inr (kf frm.fi)) (by rw [hcells]; exact cl.i) lci hcl₆.ci') hcl₆.inn
      (zac (zaa rfl) (zac (zaa rfl) (zac (zaa rfl) zai))) fun vs₁ s₇ e₇ r₇=>?_) (zbw ev₆.kind) rfl)
    have hcl₇: CloA C name qual as body scope clos (fun b=>W b \/ b=env.locals) s₇.heap f cn ci ca ad n xs:=hcl₆.step a₆ e₇.toO (fun b h=>h) (by
      obtain ⟨vs,k,h1,h2⟩:=hcl₆.l
      exact ⟨vs,k,e₇.new _ _ lo h1,zbd h2⟩)
    refine ihk _ L m xs _ _ s₇ vs₁ rm' (a₆.ext e₇) hcl₇ lo lca lci r₇ hlow (Nat.le_trans ‹_› ‹_›) hLm hmk (Nat.le_trans hmR' hRl) hm64 _ _ fun s₈ e₈ a₈ hcl₈=>?_
    have ev₈:=(ev₆.ext e₇.toExt0).around e₈ dO
    refine wpAny_execs_cons (wpAny_Expr_any (zds ok rmK (ps:=[.int (x / 2 ^ sh),.int m,.int R]) ha2 ev₈ a₈ rfl rfl (.cell (.inr (kf frm.fi)) (by rw [hcells]; exact cl.i) lci hcl₈.ci') hcl₈.inn
      (zac (zaa rfl) (zac (zaa rfl) (zac (zaa rfl) zai))) fun vs₂ s₉ e₉ r₉=>?_) (zbw ev₈.kind) rfl)
    have hcl₉:=hcl₈.step (xs':=digF n k (x % 2 ^ sh) L m xs) (W':=fun b=>W b \/ b=env.locals) a₈ e₉.toO (fun b h=>h) (by
      obtain ⟨vs,k,h1,h2⟩:=hcl₈.l
      exact ⟨vs,k,e₉.new _ _ lo h1,zbd h2⟩)
    refine ihk _ m R _ _ _ s₉ vs₂ rm' (a₈.ext e₉) hcl₉ lo lca lci r₉ hup (Nat.le_trans ‹_› ‹_›) hmR hmk2 (by rw [zhk]; exact hRl) hR _ _ fun s' e' a' hcl'=>wpAny_execs_nil ?_
    have eO: ExtO C (fun b=>b=ad) s s':=(((eO₆.trans e₇.toO).trans e₈).trans e₉.toO).trans e'
    refine q _ eO (at'.extO eO) (hcl.step at' eO (fun b h=>h) ?_)
    obtain ⟨vs,kk,h1,h2⟩:=hcl'.l
    refine ⟨vs,kk,h1,?_⟩
    have: digF n (k + 1) x L R xs=digF n k (x / 2 ^ sh) m R (digF n k (x % 2 ^ sh) L m xs):=by
      rw [zy1]
      rw [if_neg hleaf,<- hm,<- hsh]
    rw [this]
    exact zbd h2
theorem zpa {G: GT} {K: Nat} (ok: FnOk C G K) (frm: FormA c as body scope) {cn ci ca f ad: Addr} {n: Nat} (cl: CloL clos cn ci ca) (hn: 1<=n) (hN: n<=1000000): ∀ k,z2e C c name qual as body scope clos K f cn ci ca ad n k
  | 0=>zmm ok frm cl hn hN 0 fun _ h=>by lia
  | k + 1=>zmm ok frm cl hn hN (k + 1) fun k' h=>by
    obtain rfl: k=k':=by lia
    exact zpa ok frm cl hn hN k
end
theorem zs5 {M: Model} {A: Around} {s: Shared} {env: Env} {name: Str} {params: Arguments} {body: List Stmt} {scope: Scope} {pos: Pos} (hexec: PlainDefTree name params body scope pos) {Q: Flow -> Shared -> Prop} {E: Value -> Shared -> Prop}
    (h: wpAny M A (makeFunction name (qualnameIn env name name) params (.stmts body) scope env [] [] [] pos pos.line) (fun f s'=>wpAny M A (storeName env name f) (fun _ s''=>Q .next s'') E s') E s): wpAny M A (exec (.FunctionDef name params body [] none [] scope none name pos) env) Q E s:=by
  rw [hexec]
  exact wpAny_bind (wpAny_standAt (wpAny_bind (wpAny_holding (wpAny_mono h (fun f s' h'=>wpAny_bind (wpAny_standAt (wpAny_bind (wpAny_bindName (wpAny_mono h' (fun _ s'' q=>wpAny_pure q) fun _ _ x=>x))))) fun _ _ x=>x))))
theorem zwc {C: CX} {W: Addr -> Prop} {s: Shared} {A: Around} {xs: List PV} {n: Int} {v u: Value} (a: At C W s) (hz: xs.length * n.toNat<=16777216) (hn1: n < 1000000) (hn0: -1000000 < n) (rx: Rep C s.heap W (.list xs) v) (ry: Rep C s.heap W (.int n) u) {Q E: Value -> Shared -> Prop}
    (q: ∀ vs k,RepL C s.heap W (List.replicate n.toNat xs).flatten vs -> Q (.ref s.heap.objs.size) { s with heap:=s.heap.push (za5 vs k) }): wpAny (model C.prog C.w) A (binaryOp .Mult v u) Q E s:=by
  obtain ⟨l,vs,k,rfl,_,_,ho,hl,hxl⟩:=zbg rx; obtain ⟨t',rfl⟩:=zah ry
  have hvl:=hl.length
  have hrep: RepL C s.heap W (List.replicate n.toNat xs).flatten (List.replicate n.toNat vs).flatten:=by
    generalize n.toNat=j
    induction j with
    | zero=>rfl
    | succ j ih=>simp only [List.replicate_succ,List.flatten_cons]; exact hl.append ih
  refine wpAny_binaryOp_repeat_ref (T:="list") (U:="int") (by decide) ⟨_,ho,rfl⟩ (fun s'=>typeIs_int s' n t') noFill_list_mul F.fills_int_mul F.slot_int_rmul repeat_list F.slot_int_index.lookup
      (call_meets F.slot_int_rmul (typeIs_int s n t') F.entry_int_rmul (F.args_int_rmul_2 _ _) (int___rmul___int_list n t' l vs.toArray k)
        ⟨ho,rfl,⟨_,ho,rfl⟩,call_meets F.slot_list_mul ⟨_,ho,rfl⟩ F.entry_list_mul (F.args_list_mul_2 _ _)
          (AutoListH.list___mul___list_int_3 l vs.toArray k n t' (by simp [Builtin.List.listFitsIndex]; lia) (by simp only [List.size_toArray,hvl]; lia) (by simp [Builtin.List.listTooLong,sizeLine,hvl]; exact hz))
          ⟨ho,?_⟩⟩)
  have e1: List.foldl (fun x1 x2=>x1 ++ x2) #[] (List.replicate (if vs.toArray.isEmpty=true then 0 else n.toNat) vs.toArray)=(List.replicate n.toNat vs).flatten.toArray:=by
    rw [zkc,Array.empty_append]
    by_cases he: vs.toArray.isEmpty=true
    · rw [if_pos he]
      have: vs=[]:=by simpa using he
      subst this; simp
    · rw [if_neg he]
  rw [e1]
  exact q _ 0 hrep
theorem ExtO.free {C: CX} {X: Addr -> Prop} {s s': Shared} (x: ExtO C X s s') (h: ∀ b,X b -> s.heap.get? b=none): Ext C s s':=
  ⟨⟨fun b o lo e=>x.new b o lo (fun hb=>by rw [h b hb] at e; exact zae e) e,x.inv,x.gens,x.drawn,x.os⟩,x.toks⟩
section
variable {p: Program} {w: World} {s₀ s: Shared} {mg mb: Str -> Option Value} {k ad: Addr} {ns: List Int}
variable (H: zes p w s₀ mg mb k ad ns) {tabs: List zb9} (N: zjt s₀ k tabs) {lit: Str -> Tok -> Prop} {litNz: ∀ {x t},lit x t -> t ≠ 0} {litNe: ∀ {x y t},lit x t -> lit y t -> x=y}
theorem zwd {A: Around} {q: zb9} (hq: q ∈ tabs) {cc: Addr} (hd: CodeHd s₀.heap cc q.1) (ck: cc<=k) (hi: (zbm H N lit litNz litNe).Inv s.heap) {env: Env} (he: env.code = .ref cc) (hg: env.globals=mainGlobals)
    (hk: env.scope.kind = .function) {name: Str} (hkind: env.kindOf name=some .cell) {cI: Addr} (hcI: env.cells.lookup name=some cI) (lo: (zbm H N lit litNz litNe).n₀<=cI) {v₀: Option Value} (hcell: s.heap.IsCell cI v₀) (hqual: env.qual ++ name=q.2.2)
    {params: Arguments} {bodyI: List Stmt} {scI: Scope} (hfree: ∀ n,(n,NameKind.free) ∈ scI.names -> ∃ a,env.cells.lookup n=some a) (hdoc: docOf bodyI=none) (htree: PlainDefTree name params bodyI scI q.2.1) {Q: Flow -> Shared -> Prop} {E: Value -> Shared -> Prop}
    (h: ∀ f s',ExtO (zbm H N lit litNz litNe) (fun b=>b=cI) s s' -> zc4 (zbm H N lit litNz litNe) s'.heap f name q.2.2 params bodyI scI (zb1 env scI.names []) -> s'.heap.IsCell cI (some (.ref f)) -> Q .next s') :
    wpAny (model p w) A (exec (.FunctionDef name params bodyI [] none [] scI none name q.2.1) env) Q E s:=by
  have hqn: qualnameIn env name name=q.2.2:=by
    unfold qualnameIn
    rw [hkind]
    exact hqual
  refine zs5 htree ?_
  rw [hqn]
  refine wpAny_with_toks (Nat.le_refl s.toks) (zv9 H N hq hd ck hi he hg (zh4 hfree) hdoc fun f s₁ hN htk=>?_)
  obtain ⟨e,hfr,lof,hfn⟩:=hN
  obtain ⟨oc,hoc,hcd⟩:=hcell
  refine wpAny_storeName_cell hk hkind hcI ⟨oc,e.new _ _ lo hoc,hcd⟩ fun h' hc' same=>?_
  have eO: ExtO (zbm H N lit litNz litNe) (fun b=>b=cI) s { s₁ with heap:=h' }:={
    new:=fun b o lo' hb eb=>(same.2 b hb).trans (e.new b o lo' eb)
    occ:=fun b o lo' eb=>by
      by_cases hb: b=cI
      · subst hb; obtain ⟨o',ho',_⟩:=hc'; exact ⟨o',ho'⟩
      · exact ⟨o,(same.2 b hb).trans (e.new b o lo' eb)⟩
    inv:=fun hi'=>CX.keepBut (zbm H N lit litNz litNe) lo (fun o eo hcode=>by
      rw [e.new _ _ lo hoc] at eo; replace eo:=oj eo; subst eo
      obtain ⟨_,vs,hq⟩:=hcode
      rw [hcd] at hq; cases hq) (fun b o hb eb=>(same.2 b hb).trans eb) (e.inv hi')
    gens:=e.gens
    drawn:=e.drawn
    os:=e.os
    toks:=htk }
  refine h f _ eO ?_ hc'
  have hI₁: zc4 (zbm H N lit litNz litNe) s₁.heap f name q.2.2 params bodyI scI (zb1 env scI.names []):=⟨lof,hfn⟩
  exact hI₁.keep fun b o _ ho eb=>(same.2 b (fun hb=>by
    subst hb
    rw [e.new _ _ lo hoc] at eb; replace eb:=oj eb; subst eb
    rcases ho with ⟨_,vs,hq⟩ | ⟨fd,hq⟩ <;> rw [hcd] at hq <;> cases hq)).trans eb
end
theorem zqj {x a b: Int} (ha: 0 < a) (hb: 0 < b): x % (a * b) / a=x / a % b:=by
  have h1:=Int.mul_ediv_add_emod x a
  have h2:=Int.mul_ediv_add_emod (x / a) b
  have r1:=Int.emod_nonneg x (show a ≠ 0 from Int.ne_of_gt ‹_›)
  have r2:=Int.emod_lt_of_pos x ha
  have r3:=Int.emod_nonneg (x / a) (show b ≠ 0 from Int.ne_of_gt ‹_›)
  have r4:=Int.emod_lt_of_pos (x / a) hb
  generalize x / a / b=q at h2
  generalize x / a % b=r at h2 r3 r4 ⊢
  generalize x / a=u at h1 h2
  generalize x % a=v at h1 r1 r2
  have e: x=q * (a * b) + (a * r + v):=by rw [<- h1,<- h2]; grind
  have hlt: a * r + v < a * b:=by
    have: a * r + a<=a * b:=by
      have:=Int.mul_le_mul_of_nonneg_left (show r + 1<=b from ‹_›) (Int.le_of_lt ha)
      rw [Int.mul_add,Int.mul_one] at this; exact this
    lia
  have hnn: 0<=a * r + v:=by
    have:=Int.mul_nonneg (Int.le_of_lt ha) r3
    lia
  rw [(zf0 e hnn hlt).2]
  exact (zf0 (q:=r) (r:=v) (by rw [Int.mul_comm]) r1 r2).1
theorem zqk {x a b: Int}: x % (a * b) % a=x % a:=Int.emod_emod_of_dvd x ⟨b,rfl⟩
theorem zs6 (N: Nat): ∀ (p q: Nat) (x: Int),figs N x (p + q)=figs N (x % 2 ^ (p * N)) p ++ figs N (x / 2 ^ (p * N)) q:=by
  intro zz
  induction zz with
  | zero=>intro q x; simp [zqc]
  | succ p ih=>
    intro q x
    have e: (2: Int) ^ ((p + 1) * N)=2 ^ N * 2 ^ (p * N):=by rw [Nat.succ_mul,Nat.add_comm,Int.pow_add]
    rw [show p + 1 + q=(p + q) + 1 by lia]
    simp only [zqc,List.cons_append]
    rw [e,zqk,zqj (p2 _) (p2 _),ih q (x / 2 ^ N),Int.ediv_ediv_of_nonneg (Int.le_of_lt (p2 N))]
theorem z2g {α: Type} {a: List α} {b: List α} {L: Nat} {xs: List α} (h: L < xs.length) (x: α): xs.set L x=xs.take L ++ x :: xs.drop (L + 1):=by
  rw [List.set_eq_take_append_cons_drop,if_pos h]
theorem zpb {n k: Nat} {x: Int} {L: Nat} {xs: List Int} (h0: 0<=x) (hx: x < 2 ^ (1 * n)) (hR: L + 1<=xs.length): digF n k x L (L + 1) xs=xs.take L ++ (figs n x 1 ++ xs.drop (L + 1)):=by
  rw [zo9,z2g (a:=xs) (b:=xs) hR]
  rw [Nat.one_mul] at hx
  show _=xs.take L ++ (x % 2 ^ n :: xs.drop (L + 1))
  rw [Int.emod_eq_of_lt h0 hx]
theorem z2h (n k: Nat): ∀ (x: Int) (L c: Nat) (xs: List Int),0<=x -> x < 2 ^ (c * n) -> 1<=c -> c<=2 ^ k -> L + c<=xs.length -> digF n k x L (L + c) xs=xs.take L ++ (figs n x c ++ xs.drop (L + c)):=by
  induction k with
  | zero=>
    intro x L c xs h0 hx h1 hk hR
    obtain rfl: c=1:=Nat.le_antisymm hk h1
    exact zpb h0 hx hR
  | succ k ih=>
    intro x L c xs h0 hx h1 hk hR
    by_cases hl: c=1
    · subst hl; exact zpb h0 hx hR
    · obtain ⟨p,q,e1,rfl,p1,q1,pk,qk⟩:=z0a h1 hl hk
      have em: (L + (L + (p + q))) / 2=L + p:=by rw [<- Nat.add_assoc,<- Nat.two_mul,Nat.mul_add_div Nat.two_pos,e1]
      have hpw:=p2 (p * n)
      rw [Nat.add_mul,Int.pow_add] at hx
      rw [zy1,if_neg (fun e=>hl (Nat.add_left_cancel e).symm),em,Nat.add_sub_cancel_left]
      rw [<- Nat.add_assoc] at hR ⊢
      have hR': L + p<=xs.length:=Nat.le_trans (Nat.le_add_right _ _) hR
      rw [ih _ L p xs (Int.emod_nonneg _ (Int.ne_of_gt hpw)) (Int.emod_lt_of_pos _ hpw) p1 pk hR',<- List.append_assoc]
      have hA: (xs.take L ++ figs n (x % 2 ^ (p * n)) p).length=L + p:=by
        rw [List.length_append,zk2,List.length_take_of_le (Nat.le_trans (Nat.le_add_right _ _) hR')]
      rw [zs6 n p q x]
      generalize figs n (x % 2 ^ (p * n)) p=F at hA ⊢
      rw [ih _ (L + p) q _ (Int.ediv_nonneg h0 (Int.le_of_lt hpw)) (Int.ediv_lt_of_lt_mul hpw (by rw [Int.mul_comm]; exact hx)) q1 qk (by rw [List.length_append,hA,List.length_drop,Nat.add_sub_cancel' hR']; exact hR)]
      rw [List.take_left' hA,<- List.drop_drop,List.drop_left' hA,List.drop_drop]
      simp only [List.append_assoc]
theorem zy2 {n k: Nat} {a: Int} (ha: 0 < a) (hn: 1<=n) (hk: (bits a + n - 1) / n<=2 ^ k): digF n k a 0 ((bits a + n - 1) / n) (List.replicate ((bits a + n - 1) / n) 0)=digitsOf a n:=by
  have hb:=zd9 ha
  have h0: bits a + n - 1=bits a - 1 + n:=by rw [Nat.sub_add_comm hb]
  have h1: 1<=(bits a + n - 1) / n:=(Nat.le_div_iff_mul_le hn).mpr (by rw [h0,Nat.one_mul]; exact Nat.le_add_left _ _)
  have h2: bits a<=(bits a + n - 1) / n * n:=by rw [Nat.mul_comm]; exact cdiv hn
  have h3:=z2h n k a 0 _ (List.replicate ((bits a + n - 1) / n) 0) (Int.le_of_lt ha) (Int.lt_of_lt_of_le (zc1 (Int.le_of_lt ha)) (zfc h2)) h1 hk (by rw [List.length_replicate,Nat.zero_add]; exact Nat.le_refl _)
  rw [Nat.zero_add] at h3
  rw [h3,zc2 (Int.le_of_lt ha)]
  simp
inductive z4q (c: CE) (d: DefRec) (asI: List Arg) (bodyI: List Stmt) (scI: Scope) (pI: Pos): Prop
  | mk (q0: Pos) (eL: Expr) (eN: Expr) (pe: Pos) (r0: Pos) (t: Expr) (pt: Pos) (args: List Expr) (w1: Pos) (w2: Pos) (w3: Pos) (r1: Pos) (r2: Pos)
    (x0: d.body=[.Assign [.Name "a_digits" q0] (.BinOp eL .Mult eN pe) r0,.FunctionDef "inner" ⟨[],asI,none,[],[],none,[]⟩ bodyI [] none [] scI none (Str.ofString "inner") pI,
      .If t [.Expr (.Call (.Name "inner" w1) args [] w2) w3] [] pt,.Return (some (.Name "a_digits" r1)) r2]) (x1: SE c eL (.list [.int 0])) (x2: SE c eN (.bin .FloorDiv (.bin .Sub (.bin .Add (.meth (.var 0) (Str.ofString "bit_length") []) (.var 1)) (.int 1)) (.var 1))) (x3: SE c t (.var 0)) (x4: SEs c args [.var 0,.int 0,.call (.glob "len") [.var 2]])
structure z4r (c: CE) (d: DefRec) (as' asI: List Arg) (cI: CE) (bodyI: List Stmt) (scI: Scope) (pI: Pos): Prop where
  inn: FormA cI asI bodyI scI
  fs: ze8 d.scope
  base: c.base=0
  hsc: ∀ x,c.sc.names.lookup x=d.scope.names.lookup x \/ c.sc.names.lookup x=none
  hpar: d.params = ⟨[],as',none,[],[],none,[]⟩
  hn: (as'.map (·.arg)).Nodup
  hp: Places c (as'.map (·.arg)) [0,1]
  ai: idx c.σ (Str.ofString "a_digits")=some 2
  ak: c.sc.names.lookup (Str.ofString "a_digits")=some .cell
  ni: idx c.σ (Str.ofString "n")=some 1
  nk: c.sc.names.lookup (Str.ofString "n")=some .cell
  ik: c.sc.names.lookup (Str.ofString "inner")=none
  id': d.scope.names.lookup (Str.ofString "inner")=some .cell
  docI: docOf bodyI=none
  treeI: PlainDefTree (Str.ofString "inner") ⟨[],asI,none,[],[],none,[]⟩ bodyI scI pI
  freeI: ∀ n,(n,NameKind.free) ∈ scI.names -> n=Str.ofString "a_digits" \/ n=Str.ofString "inner" \/ n=Str.ofString "n"
  memA: (Str.ofString "a_digits",NameKind.free) ∈ scI.names
  memI: (Str.ofString "inner",NameKind.free) ∈ scI.names
  memN: (Str.ofString "n",NameKind.free) ∈ scI.names
  form: z4q c d asI bodyI scI pI
theorem zdt {env: Env} {names: List (Str × NameKind)} {x: Str} {b: Addr} (hm: (x,NameKind.free) ∈ names) (hb: env.cells.lookup x=some b): (zb1 env names []).lookup x=some b:=by
  obtain ⟨a,ha⟩:=zl9 env names hm
  obtain ⟨_,h⟩:=zcr env names ha
  rw [hb] at h
  rw [ha]; exact congrArg some h.symm
theorem zwe {env: Env} {names: List (Str × NameKind)} (hfree: ∀ n,(n,NameKind.free) ∈ names -> ∃ a,env.cells.lookup n=some a) (hinj: ∀ x y a,env.cells.lookup x=some a -> env.cells.lookup y=some a -> x=y) :
    ∀ x y b,(zb1 env names []).lookup x=some b -> (zb1 env names []).lookup y=some b -> x=y:=fun x y b hx hy=>by
  obtain ⟨m1,g1⟩:=zcr env names hx
  obtain ⟨m2,g2⟩:=zcr env names hy
  obtain ⟨a1,e1⟩:=hfree x m1
  obtain ⟨a2,e2⟩:=hfree y m2
  rw [e1] at g1; rw [e2] at g2
  have g1': a1=b:=g1
  have g2': a2=b:=g2
  subst g1' g2'
  exact hinj x y _ e1 e2
noncomputable def z2i (C: CX) (cc: Addr) (q: zb9): Prop:=∀ (A: Around) (s: Shared) (env: Env) (name: Str) (cI: Addr) (v₀: Option Value) (params: Arguments) (bodyI: List Stmt) (scI: Scope),C.Inv s.heap -> env.code = .ref cc -> env.globals=mainGlobals ->
    env.scope.kind = .function -> env.kindOf name=some .cell -> env.cells.lookup name=some cI -> C.n₀<=cI -> s.heap.IsCell cI v₀ -> env.qual ++ name=q.2.2 -> (∀ n,(n,NameKind.free) ∈ scI.names -> ∃ a,env.cells.lookup n=some a) -> docOf bodyI=none ->
    PlainDefTree name params bodyI scI q.2.1 -> ∀ (Q: Flow -> Shared -> Prop) (E: Value -> Shared -> Prop),
      (∀ f s',ExtO C (fun b=>b=cI) s s' -> zc4 C s'.heap f name q.2.2 params bodyI scI (zb1 env scI.names []) -> s'.heap.IsCell cI (some (.ref f)) -> Q .next s') ->
      wpAny (model C.prog C.w) A (exec (.FunctionDef name params bodyI [] none [] scI none name q.2.1) env) Q E s
theorem zbl.cellOf {h: Heap} {env: Env} {n₀: Nat} {x: Str} {v: Value} (y: zbl h env n₀ x v) (k: env.kindOf x=some .cell) {b: Addr} (hb: env.cells.lookup x=some b): n₀<=b/\h.IsCell b (some v):=by
  cases y with
  | loc k' n e=>rw [k] at k'; cases k'
  | cell k' l lo i=>rw [hb] at l; replace l:=oj l; subst l; exact ⟨lo,i⟩
theorem zjf {c: CE} {d: DefRec} {as': List Arg} {ts: List Nat} {vs: List Value} {n: Nat} (hsc: ∀ x,c.sc.names.lookup x=d.scope.names.lookup x \/ c.sc.names.lookup x=none) (hp: Places c (as'.map (·.arg)) ts) (fs: ze8 d.scope) :
    ∀ x ∈ (as'.map (·.arg)).zip vs,d.scope.names.lookup x.1=some .local \/ (d.scope.names.lookup x.1=some .cell/\((cellsFrom n d.scope.names []).lookup x.1).isSome=true):=fun x hx=>by
  obtain ⟨j,hj⟩:=List.mem_iff_getElem?.mp (List.of_mem_zip (a:=x.1) (b:=x.2) hx).1
  have: j < ts.length:=by
    have:=List.getElem?_eq_some_iff.mp hj
    obtain ⟨h,_⟩:=this
    rw [<- hp.length]; exact h
  obtain ⟨y,g1,g2,g3⟩:=hp.at (List.getElem?_eq_getElem this)
  rw [hj] at g1; replace g1:=oj g1; subst g1
  have g4: d.scope.names.lookup x.1=some .local \/ d.scope.names.lookup x.1=some .cell:=by
    rcases hsc x.1 with h | h
    · rw [<- h]; exact g3
    · rw [h] at g3; rcases g3 with g3 | g3 <;> cases g3
  rcases g4 with g4 | g4
  · exact .inl g4
  · exact .inr ⟨g4,zdq (⟨g4,fs.nodup⟩)⟩
section
variable {C: CX}
theorem z2j {G: GT} (ok: FnOk C G 0) (hlen: G.gv (Str.ofString "len")=some (.bi "len")) {c cI': CE} {d: DefRec} {as' asI: List Arg} {bodyI: List Stmt} {scI: Scope} {q: zb9} (fo: z4r c d as' asI cI' bodyI scI q.2.1) (hqual: (d.name ++ ".<locals>.") ++ (Str.ofString "inner")=q.2.2)
    {a: Addr} {o: Obj} {pm doc: Value} {cc: Addr} (DI: z2i C cc q) (ho: ∀ h,C.Inv h -> h.get? a=some o) (hdt: o.data = .func (d.data pm (.ref cc) doc)) (hcode: ∀ h,C.Inv h -> h.CodeRec (.ref cc) d.name)
    {aV: Int} {n: Nat} (h0: 0<=aV) (hn: 1<=n) (hN: n<=1000000) (hl: (bits aV + n - 1) / n<=64) {A: Around} {W: Addr -> Prop} {s: Shared} {vs: List Value} (rm: Room A 9) (at': At C W s) (hr: RepL C s.heap W [.int aV,.int n] vs) :
    Snd C A s W (call (.ref a) vs) (.list ((digitsOf aV n).map .int)):=fun Q E k'=>by
  have hl2: as'.length=vs.length:=by
    rw [hr.length]
    have:=fo.hp.length
    simpa using this
  obtain ⟨q0,eL,eN,pe,r0,t,pt,args,w1,w2,w3,r1,r2,hbody,hL,hNn,ht,hargs⟩:=fo.form
  refine wpAny_call (zgd (prog:=C.prog) (w:=C.w) (fd:=d.data pm (.ref cc) doc) (body:=d.body) (by have:=rm.2.1; lia) (ho _ at'.inv) hdt (C.nolimit at'.inv) (hcode _ at'.inv) rfl (zfv (fd:=d.data pm (.ref cc) doc) fo.hpar rfl hl2 fo.hn) rfl (zjf fo.hsc fo.hp fo.fs) fo.fs.noco fo.fs.nogen fo.fs.kind fun s₁ ic htk=>?_)
  obtain ⟨e₁,hf,ev₁,a₁⟩:=zh8 (c:=c) (fd:=d.data pm (.ref cc) doc) (a:=a) (ρ₀:=[none,none,none]) (ρ:=[some (.val (.int aV)),some (.val (.int n)),none]) fo.hsc fo.base fo.fs rfl rfl fo.hp fo.hn hr at' (fun i h=>by
    rcases i with _ | _ | _ | i <;> simp at h ⊢) htk rfl ic
  have hkind: ∀ x,(callEnvC (d.data pm (.ref cc) doc) s.heap.objs.size a).kindOf x=d.scope.names.lookup x:=fun _=>rfl
  have hcode': (callEnvC (d.data pm (.ref cc) doc) s.heap.objs.size a).code = .ref cc:=rfl
  have hqual': (callEnvC (d.data pm (.ref cc) doc) s.heap.objs.size a).qual=d.name ++ ".<locals>." := rfl
  have hcel: ∀ x,d.scope.names.lookup x=some .cell -> ∃ b,(callEnvC (d.data pm (.ref cc) doc) s.heap.objs.size a).cells.lookup x=some b:=fun x hx=>Option.isSome_iff_exists.mp (zdq (⟨hx,fo.fs.nodup⟩))
  have hsk: (callEnvC (d.data pm (.ref cc) doc) s.heap.objs.size a).scope.kind = .function:=fo.fs.kind
  have hgl: (callEnvC (d.data pm (.ref cc) doc) s.heap.objs.size a).globals=mainGlobals:=rfl
  generalize callEnvC (d.data pm (.ref cc) doc) s.heap.objs.size a=env at *
  have rmK: Room (A.deeper env) 8:=rm.deeper
  have rm0: Room (A.deeper env) 0:=rmK.mono (Nat.le_add_left _ _)
  have dof: ∀ {x k},c.sc.names.lookup x=some k -> d.scope.names.lookup x=some k:=fun {x k} h=>by
    rcases fo.hsc x with h' | h'
    · rw [<- h',h]
    · rw [h'] at h; exact zae h
  obtain ⟨cA,hcA⟩:=hcel _ (dof fo.ak)
  obtain ⟨cN,hcN⟩:=hcel _ (dof fo.nk)
  obtain ⟨cI,hcI⟩:=hcel _ fo.id'
  have icA:=ic.cell _ _ hcA
  have icN:=ic.cell _ _ hcN
  have icI:=ic.cell _ _ hcI
  have loA: C.n₀<=cA:=(a₁.wocc cA (.inr (.inr ⟨_,hcA⟩))).1
  have loI: C.n₀<=cI:=(a₁.wocc cI (.inr (.inr ⟨_,hcI⟩))).1
  have loN: C.n₀<=cN:=(a₁.wocc cN (.inr (.inr ⟨_,hcN⟩))).1
  have hnIA: cI ≠ cA:=fun h=>by subst h; exact absurd (ev₁.cinj _ _ _ hcI hcA) (by decide)
  have hnIN: cI ≠ cN:=fun h=>by subst h; exact absurd (ev₁.cinj _ _ _ hcI hcN) (by decide)
  have hnIL: cI ≠ env.locals:=fun h=>Nat.lt_irrefl _ (h ▸ ic.above _ _ (mem_of_lookup hcI))
  have hcnt: ∃ cnt,cnt=(bits aV + n - 1) / n:=⟨_,rfl⟩
  obtain ⟨cnt,hcn⟩:=hcnt
  have hbn: bits aV<=64 * n:=Nat.le_trans (cdiv hn) (Nat.le_trans (Nat.mul_le_mul_left n hl) (Nat.le_of_eq (Nat.mul_comm n 64)))
  have hfl: binP .FloorDiv (.int ((bits aV: Int) + n - 1)) (.int n)=some (.int cnt):=by
    have e: ((bits aV: Int) + n - 1)=((bits aV + n - 1: Nat): Int):=by rw [Int.ofNat_sub (Nat.le_trans hn (Nat.le_add_left _ _)),Int.natCast_add]; rfl
    have hb1: bits ((bits aV + n - 1: Nat): Int)<=40:=zch (Nat.lt_of_le_of_lt (Nat.sub_le _ _) (Nat.lt_of_le_of_lt (Nat.add_le_add (Nat.le_trans hbn (Nat.mul_le_mul_left 64 hN)) hN) (by decide)))
    have hpy: Builtin.divisionGoesByPylong ((bits aV + n - 1: Nat): Int) (n: Int)=false:=noPylong (by lia)
    rw [e]
    show (if (n: Int)=0 then none else if Builtin.divisionGoesByPylong _ _=true then none else some (PV.int (Int.fdiv _ _)))=_
    rw [if_neg (by lia),hpy,if_neg (by simp)]
    congr 2
    rw [Int.fdiv_eq_ediv_of_nonneg _ (Int.natCast_nonneg _),hcn]
    rfl
  rw [hbody]
  refine wpAny_execs_cons (wpAny_Assign_Name (wpAny_BinOp (hL.val ok ev₁ a₁ rm0 (zi7 (zac rfl zai)) _ _ fun u s₂ e₂ r₂=>hNn.val ok (ev₁.ext e₂.toExt0) (a₁.ext e₂) rm0
    (zaf (zaf (zaf (zo0 (zaa rfl)) (zaa rfl) rfl) rfl rfl) (zaa rfl) hfl) _ _ fun u' s₃ e₃ r₃=>zwc ((a₁.ext e₂).ext e₃) (by simp; lia) (by lia) (Int.natCast_nonneg _) (r₂.ext e₃.toExt0) r₃ fun vs' kk hrep=>?_)) (ze7 rfl rfl))
  have e₁₃:=(e₁.trans e₂).trans e₃
  have a₃:=(a₁.ext e₂).ext e₃
  have hz: (List.replicate (cnt: Int).toNat [PV.int 0]).flatten=(List.replicate cnt (0: Int)).map .int:=by
    rw [Int.toNat_natCast]
    clear hrep
    generalize cnt=j
    induction j with
    | zero=>rfl
    | succ j ih=>rw [List.replicate_succ,List.flatten_cons,ih]; rfl
  rw [hz] at hrep
  have e₄: Ext C s₃ { s₃ with heap:=s₃.heap.push (za5 vs' kk) }:=zcd
  have e₁₄:=e₁₃.trans e₄
  have a₄:=a₃.ext e₄
  have ev₄:=ev₁.ext ((e₂.trans e₃).trans e₄).toExt0
  have hg₄: (s₃.heap.push (za5 vs' kk)).get? s₃.heap.objs.size=some (za5 vs' kk):=Heap.get?_push_size _ rfl
  have loD: C.n₀<=s₃.heap.objs.size:=a₃.low
  have nwD:=a₃.nw
  have frD: s.heap.get? s₃.heap.objs.size=none:=by
    cases hh: s.heap.get? s₃.heap.objs.size with
    | none=>rfl
    | some o=>exact absurd (Heap.lt_size (e₁₃.new _ o loD hh)) (Nat.lt_irrefl _)
  generalize s₃.heap.objs.size=adL at *
  generalize hs₄: ({ s₃ with heap:=s₃.heap.push (za5 vs' kk) }: Shared)=s₄ at *
  have hg₄': s₄.heap.get? adL=some (za5 vs' kk):=by rw [<- hs₄]; exact hg₄
  have rep₄: Rep C s₄.heap (fun b=>W b \/ allO env b) (.list ((List.replicate cnt (0: Int)).map .int)) (.ref adL):=by
    exact ⟨adL,vs',kk,rfl,nwD,loD,hg₄',zbd hrep,by rw [sizeLine_eq]; simp; lia⟩
  refine zjl ev₄ fo.ai (.inr fo.ak) (.val rep₄) (fun h=>by exact ft h) fun s₅ e₅ ev₅ hv₅=>?_
  have a₅:=a₄.extO e₅
  have owrO: ∀ b,OWr c env b -> allO env b:=fun b hb=>(ev₄.owr hb).all
  have neD: ∀ b,allO env b -> b ≠ adL:=fun b hb h=>nwD (h ▸ .inr hb)
  have hl₅: s₅.heap.get? adL=some (za5 vs' kk):=e₅.new _ _ loD (fun h=>neD _ (owrO _ h) rfl) hg₄'
  obtain ⟨_,icA₅⟩:=hv₅.cellOf (hkind _ |>.trans (dof fo.ak)) hcA
  obtain ⟨uN,hvN,rN⟩:=ev₅.vars (Str.ofString "n") 1 _ fo.ni (by rw [fo.base,fo.nk]; rfl) (show (setR _ 2 _)[1]? = some (some (.val (.int n))) from rfl)
  obtain ⟨_,icN₅⟩:=hvN.cellOf (hkind _ |>.trans (dof fo.nk)) hcN
  have icI₅: ∃ v,s₅.heap.IsCell cI v:=by
    obtain ⟨o,ho',hd'⟩:=icI
    refine ⟨_,o,e₅.new _ _ loI (fun h=>?_) (((e₂.trans e₃).trans e₄).new _ _ loI ho'),hd'⟩
    rcases h with h | ⟨x,hx,hxl⟩
    · exact hnIL h
    · obtain rfl:=ev₁.cinj _ _ _ hxl hcI
      rw [fo.ik] at hx; exact zae hx
  obtain ⟨v₀,icI₅⟩:=icI₅
  have hfree: ∀ y,(y,NameKind.free) ∈ scI.names -> ∃ b,env.cells.lookup y=some b:=fun y hy=>by
    rcases fo.freeI y hy with rfl | rfl | rfl
    · exact ⟨_,hcA⟩
    · exact ⟨_,hcI⟩
    · exact ⟨_,hcN⟩
  refine wpAny_execs_cons (DI _ s₅ env (Str.ofString "inner") cI v₀ ⟨[],asI,none,[],[],none,[]⟩ bodyI scI a₅.inv hcode' hgl hsk (hkind _ |>.trans fo.id') hcI loI icI₅ (by rw [hqual']; exact hqual) hfree fo.docI fo.treeI _ _ fun f s₆ e₆ hin icI₆=>?_)
  have ev₆:=ev₅.around e₆ fun b hb=>by
    subst hb
    refine ⟨.inr (.inr ⟨_,hcI⟩),fun h=>?_⟩
    rcases h with h | ⟨x,hx,hxl⟩
    · exact hnIL h
    · obtain rfl:=ev₁.cinj _ _ _ hxl hcI
      exact hx fo.ik
  have a₆:=a₅.extO e₆
  have hneDI: adL ≠ cI:=fun h=>neD cI (.inr ⟨_,hcI⟩) h.symm
  have cellKeep: ∀ {b v},C.n₀<=b -> b ≠ cI -> s₅.heap.IsCell b v -> s₆.heap.IsCell b v:=fun {b v} lo hne z=>by obtain ⟨o,ho',hd'⟩:=z; exact ⟨o,e₆.new _ _ lo hne ho',hd'⟩
  have icA₆:=cellKeep loA (Ne.symm hnIA) icA₅
  have icN₆:=cellKeep loN (Ne.symm hnIN) icN₅
  have hl₆:=e₆.new _ _ loD hneDI hl₅
  have uN': ∃ tN,uN = .int n tN:=by
    cases rN with
    | val r=>exact zah r
  obtain ⟨tN,rfl⟩:=uN'
  have eX₆: ExtO C (fun b=>allO env b \/ b=adL) s s₆:=(e₁₄.toO.trans (e₅.mono fun b hb=>.inl (owrO b hb))).trans (e₆.mono fun b hb=>.inl (.inr ⟨_,hb ▸ hcI⟩))
  have fin: ∀ sE,ExtO C (fun b=>allO env b \/ b=adL) s sE -> sE.heap.IsCell cA (some (.ref adL)) -> (∃ us j,sE.heap.get? adL=some (za5 us j)/\RepL C sE.heap W ((digitsOf aV n).map .int) us) ->
      wpAny (model C.prog C.w) (A.deeper env) (execs [.Return (some (.Name "a_digits" r1)) r2] env) (fun f s'=>(match f with | .ret v=>(fun v s'=>Q v s') v s' | _=>Q .none s'))
        (fun _ _=>False) sE:=fun sE eE icE z=>by
    obtain ⟨us,j,hlE,hrE⟩:=z
    refine wpAny_execs_cons (wpAny_Return_some (wpAny_Name (wpAny_loadName_cell hsk (hkind _ |>.trans (dof fo.ak)) hcA icE ?_) rfl))
    refine k' _ _ (eE.free fun b hb=>?_) ?_
    · rcases hb with hb | rfl
      · exact hf b hb
      · exact frD
    · refine ⟨adL,us,j,rfl,fun h=>nwD (.inl h),loD,hlE,hrE,?_⟩
      have hlen': (digitsOf aV n).length=cnt:=by
        unfold digitsOf
        simp only [List.length_map,List.length_range,Int.toNat_natCast]
        exact hcn.symm
      rw [sizeLine_eq,List.length_map,hlen']; lia
  refine wpAny_execs_cons (wpAny_If (ht.tst ok ev₆ a₆ rm0 (b:=aV != 0) (zie rfl rfl) _ _ fun s₇ e₇=>?_))
  have ev₇:=ev₆.ext e₇.toExt0
  have a₇:=a₆.ext e₇
  have ck₇: ∀ {b v},C.n₀<=b -> s₆.heap.IsCell b v -> s₇.heap.IsCell b v:=fun {b v} lo z=>by obtain ⟨o,ho',hd'⟩:=z; exact ⟨o,e₇.new _ _ lo ho',hd'⟩
  have hl₇:=e₇.new _ _ loD hl₆
  by_cases hz0: aV=0
  · rw [show (aV != 0)=false by simp [hz0]]
    refine wpAny_execs_nil ?_
    have hfin: ∀ (fl: Flow) (s': Shared),(match fl with | .ret v=>(fun v s'=>Q v s') v s' | _=>Q .none s') -> (match (Except.ok (Flow.ret (match fl with | .ret v=>v | _=>Value.none)): Result) with | .ok (.ret v)=>Q v s' | .ok _=>False | .error e=>E e s'):=fun fl s' h=>by
      cases fl <;> exact h
    refine wpAny_mono (fin s₇ (eX₆.trans e₇.toO) (ck₇ loA icA₆) ⟨vs',kk,hl₇,?_⟩) hfin fun _ _ h=>h.elim
    have hc0: cnt=0:=by
      rw [hcn,hz0,zkz]
      exact Nat.div_eq_of_lt (by rw [Nat.zero_add]; exact Nat.sub_lt hn Nat.one_pos)
    have: digitsOf aV n=List.replicate cnt 0:=by
      unfold digitsOf
      rw [hc0,show (Builtin.Int.intBits aV + (n: Int).toNat - 1) / (n: Int).toNat=0 from by rw [Int.toNat_natCast]; rw [hcn] at hc0; exact hc0]
      rfl
    rw [this]
    exact zbd hrep
  · rw [show (aV != 0)=true by simp [hz0]]
    have hfin: ∀ (fl: Flow) (s': Shared),(match fl with | .ret v=>(fun v s'=>Q v s') v s' | _=>Q .none s') -> (match (Except.ok (Flow.ret (match fl with | .ret v=>v | _=>Value.none)): Result) with | .ok (.ret v)=>Q v s' | .ok _=>False | .error e=>E e s'):=fun fl s' h=>by
      cases fl <;> exact h
    have cl: CloL (zb1 env scI.names []) cN cI cA:=⟨zdt fo.memN hcN,zdt fo.memI hcI,zdt fo.memA hcA,zwe hfree ev₁.cinj⟩
    have hin₇: zc4 C s₇.heap f (Str.ofString "inner") q.2.2 ⟨[],asI,none,[],[],none,[]⟩ bodyI scI (zb1 env scI.names []):=hin.keep fun b o lo _ e=>e₇.new b o lo e
    have icI₇:=ck₇ loI icI₆
    refine wpAny_execs_cons (wpAny_Expr_any (zds ok rm0 (ps:=[.int aV,.int ((0: Nat): Int),.int (cnt: Nat)]) hargs ev₇ a₇ rfl rfl (.cell (.inl (hkind _ |>.trans fo.id')) hcI loI icI₇) hin₇
      (zac (zaa rfl) (zac rfl (zac (zao (zal hlen) (zac (zaa rfl) zai) (by show some (PV.int (((List.replicate cnt (0: Int)).map PV.int).length: Nat))=_; simp)) zai))) fun vs₁ s₈ e₈ r₈=>?_) (zbw hsk) rfl)
    have a₈:=a₇.ext e₈
    have ck₈: ∀ {b v},C.n₀<=b -> s₇.heap.IsCell b v -> s₈.heap.IsCell b v:=fun {b v} lo z=>by obtain ⟨o,ho',hd'⟩:=z; exact ⟨o,e₈.new _ _ lo ho',hd'⟩
    have hl₈:=e₈.new _ _ loD hl₇
    have a₈': At C (fun b=>(W b \/ allO env b) \/ b=adL) s₈:=⟨a₈.inv,fun b hb=>by
      rcases hb with hb | rfl
      · exact a₈.wocc b hb
      · exact ⟨loD,_,hl₈⟩,a₈.tok⟩
    have hclo: CloA C (Str.ofString "inner") q.2.2 asI bodyI scI (zb1 env scI.names []) (fun b=>(W b \/ allO env b) \/ b=adL) s₈.heap f cN cI cA adL n (List.replicate cnt 0):={
      inn:=hin₇.keep fun b o lo _ e=>e₈.new b o lo e
      cn':=⟨tN,ck₈ loN (ck₇ loN icN₆)⟩
      ci':=ck₈ loI icI₇
      ca':=ck₈ loA (ck₇ loA icA₆)
      l:=⟨vs',kk,hl₈,zbd hrep⟩
      wn:=.inl (.inr (.inr ⟨_,hcN⟩))
      wi:=.inl (.inr (.inr ⟨_,hcI⟩))
      wa:=.inl (.inr (.inr ⟨_,hcA⟩))
      wd:=.inr rfl }
    have hpos: 0 < aV:=by lia
    have hcp: 1<=cnt:=by
      rw [hcn]
      have:=zd9 hpos
      exact (Nat.le_div_iff_mul_le hn).mpr (by rw [Nat.sub_add_comm this,Nat.one_mul]; exact Nat.le_add_left _ _)
    have hr₈: RepL C s₈.heap (fun b=>(W b \/ allO env b) \/ b=adL) [.int aV,.int ((0: Nat): Int),.int (cnt: Nat)] vs₁:=zbd (xs:=[aV,((0: Nat): Int),(cnt: Int)]) r₈
    refine zpa ok fo.inn cl hn hN 6 aV 0 cnt _ _ _ s₈ vs₁ (rmK.mono (Nat.le_add_left _ _)) a₈' hclo loD loA loI hr₈ h0 (by lia) ‹_› (by lia) (by simp) (by lia) _ _ fun s₉ e₉ a₉ hcl₉=>wpAny_execs_nil ?_
    obtain ⟨us,j,hus,hru⟩:=hcl₉.l
    refine wpAny_mono (fin s₉ (((eX₆.trans e₇.toO).trans e₈.toO).trans (e₉.mono fun b hb=>.inr hb)) hcl₉.ca' ⟨us,j,hus,?_⟩) hfin fun _ _ h=>h.elim
    have hd: digF n 6 aV 0 cnt (List.replicate cnt 0)=digitsOf aV n:=by
      rw [hcn]
      exact zy2 hpos hn (by show _<=64; exact hl)
    rw [hd] at hru
    exact zbd hru
end
theorem zpc (n: Nat): ∀ (a b: List Int),numberOf n (a ++ b)=numberOf n b * 2 ^ (a.length * n) + numberOf n a:=by
  intro zz
  induction zz with
  | nil=>intro b; simp [zca]
  | cons x a ih=>
    intro b
    simp only [List.cons_append,zca,ih b,Int.toNat_natCast,List.length_cons]
    rw [Int.add_mul,Int.mul_assoc,<- Int.pow_add,show a.length * n + n=(a.length + 1) * n by rw [Nat.succ_mul]]
    lia
theorem zmn (k: Nat): ((2: Int) ^ k).natAbs=2 ^ k:=by
  have: ((2: Int) ^ k)=((2 ^ k: Nat): Int):=by simp
  rw [this,Int.natAbs_natCast]
theorem zfg {x y: Int} {k: Nat} (hx: bits x<=k) (hy: bits y<=k): bits (x + y)<=k + 1:=by
  refine zch ?_
  have h1:=Nat.lt_of_lt_of_le (zhj x) (Nat.pow_le_pow_right (by decide) hx)
  have h2:=Nat.lt_of_lt_of_le (zhj y) (Nat.pow_le_pow_right (by decide) hy)
  have h3:=Int.natAbs_add_le x y
  rw [Nat.pow_succ]; lia
theorem zql {x: Int} {k n: Nat} (hx: bits x<=k): bits (x * 2 ^ n)<=k + n:=by
  refine zch ?_
  have h1:=Nat.lt_of_lt_of_le (zhj x) (Nat.pow_le_pow_right (by decide) hx)
  rw [Int.natAbs_mul,zmn,Nat.pow_add]
  exact Nat.mul_lt_mul_of_pos_right h1 (Nat.two_pow_pos n)
theorem zqm {n: Nat}: ∀ (l: List Int),(∀ x ∈ l,bits x<=1000000) -> bits (numberOf n l)<=1000000 + l.length * (n + 1):=by
  intro zz
  induction zz with
  | nil=>intro _; simp [zca,zkz]
  | cons x r ih=>
    intro h
    have ih:=ih fun y hy=>h y (List.mem_cons_of_mem _ hy)
    simp only [zca,Int.toNat_natCast,List.length_cons]
    have h1:=zql (n:=n) ih
    have h2:=zfg (k:=1000000 + r.length * (n + 1) + n) h1 (Nat.le_trans (h x List.mem_cons_self) (by lia))
    rw [Nat.succ_mul]; lia
noncomputable abbrev numB (n: Nat) (xs: List Int) (L R: Nat): Int:=numberOf n ((xs.drop L).take (R - L))
theorem zwf {n: Nat} {xs: List Int} {L: Nat} {x: Int} (h: xs[L]? = some x): numB n xs L (L + 1)=x:=by
  unfold numB
  obtain ⟨hL,hx⟩:=List.getElem?_eq_some_iff.mp h
  rw [Nat.add_sub_cancel_left,List.drop_eq_getElem_cons hL,hx]
  simp [zca]
theorem zs7 {n: Nat} {xs: List Int} {L m R: Nat} (h1: L<=m) (h2: m<=R) (h3: R<=xs.length): numB n xs L R=numB n xs m R * 2 ^ ((m - L) * n) + numB n xs L m:=by
  unfold numB
  have: (xs.drop L).take (R - L)=(xs.drop L).take (m - L) ++ (xs.drop m).take (R - m):=by
    rw [<- Nat.sub_add_sub_cancel h2 h1,Nat.add_comm (R - m),List.take_add,List.drop_drop,Nat.add_sub_cancel' h1]
  rw [this,zpc,List.length_take,List.length_drop,Nat.min_eq_left (Nat.sub_le_sub_right (Nat.le_trans h2 h3) L)]
theorem zwg {n: Nat} {xs: List Int} {L R: Nat} (hb: ∀ x ∈ xs,bits x<=1000000) (hN: n<=1000000) (hR: R<=64): bits (numB n xs L R)<=66000000:=by
  have h1:=zqm (n:=n) ((xs.drop L).take (R - L)) fun x hx=>hb x (List.mem_of_mem_drop (List.mem_of_mem_take hx))
  have h2: ((xs.drop L).take (R - L)).length<=64:=by rw [List.length_take]; exact Nat.le_trans (Nat.min_le_left _ _) (Nat.le_trans (Nat.sub_le _ _) hR)
  have h3:=Nat.mul_le_mul h2 (Nat.succ_le_succ hN)
  show bits (numberOf n ((xs.drop L).take (R - L)))<=_
  lia
inductive z4s (c: CE) (body: List Stmt): Prop
  | mk (t: Expr) (eR: Expr) (pR: Pos) (pif: Pos) (e1: Expr) (q1: Pos) (r1: Pos) (e2: Expr) (q2: Pos) (r2: Pos) (a1: List Expr) (w1: Pos) (w2: Pos) (eS: Expr) (pS: Pos) (a2: List Expr) (u1: Pos) (u2: Pos) (pA: Pos) (pZ: Pos)
    (x0: body=[.If t [.Return (some eR) pR] [] pif,.Assign [.Name "mid" q1] e1 r1,.Assign [.Name "shift" q2] e2 r2,
      .Return (some (.BinOp (.BinOp (.Call (.Name "inner" w1) a1 [] w2) .LShift eS pS) .Add (.Call (.Name "inner" u1) a2 [] u2) pA)) pZ]) (x1: SE c t (.cmp .Eq (.bin .Add (.var 2) (.int 1)) (.var 3))) (x2: SE c eR (.sub (.var 1) (.var 2))) (x3: (SE c e1 (.bin .RShift (.bin .Add (.var 2) (.var 3)) (.int 1))/\zdi e1=false)) (x4: (SE c e2 (.bin .Mult (.bin .Sub (.var 4) (.var 2)) (.var 0))/\zdi e2=false)) (x5: SE c eS (.var 5)) (x6: SEs c a1 [.var 4,.var 3]) (x7: SEs c a2 [.var 2,.var 4])
structure zy3 (c: CE) (as: List Arg) (body: List Stmt) (scope: Scope): Prop where
  kind: scope.kind = .function
  noco: scope.isCoroutine=false
  nogen: scope.isGenerator=false
  nocell: ∀ x ∈ scope.names,x.2 ≠ .cell
  nodup: (as.map (·.arg)).Nodup
  places: Places c (as.map (·.arg)) [2,3]
  loc: ∀ a ∈ as,c.sc.names.lookup a.arg=some .local
  sc: ∀ x,c.sc.names.lookup x=scope.names.lookup x \/ c.sc.names.lookup x=none
  base: c.base=0
  nocell': ∀ x,c.sc.names.lookup x ≠ some .cell
  free: ∀ x,c.sc.names.lookup x=some .free -> x=Str.ofString "n" \/ x=Str.ofString "digits"
  nf: c.sc.names.lookup (Str.ofString "n")=some .free
  df: c.sc.names.lookup (Str.ofString "digits")=some .free
  ni: idx c.σ (Str.ofString "n")=some 0
  di: idx c.σ (Str.ofString "digits")=some 1
  mi: idx c.σ (Str.ofString "mid")=some 4
  si: idx c.σ (Str.ofString "shift")=some 5
  ml: c.sc.names.lookup (Str.ofString "mid")=some .local
  sl: c.sc.names.lookup (Str.ofString "shift")=some .local
  fi: scope.names.lookup (Str.ofString "inner")=some .free
  form: z4s c body
section
variable {C: CX} {c: CE} {name qual: Str} {as: List Arg} {body: List Stmt} {scope: Scope} {clos: List (Str × Addr)}
structure CloB (C: CX) (name qual: Str) (as: List Arg) (body: List Stmt) (scope: Scope) (clos: List (Str × Addr)) (W: Addr -> Prop) (h: Heap) (f cn ci cd: Addr) (n: Nat) (xs: List Int): Prop where
  inn: zc4 C h f name qual ⟨[],as,none,[],[],none,[]⟩ body scope clos
  cn': ∃ t,h.IsCell cn (some (.int n t))
  ci': h.IsCell ci (some (.ref f))
  cd': ∃ v,h.IsCell cd (some v)/\Rep C h W (.list (xs.map .int)) v
  wn: W cn
  wi: W ci
  wd: W cd
  ln: C.n₀<=cn
  li: C.n₀<=ci
  ld: C.n₀<=cd
theorem CloB.grow {W W': Addr -> Prop} {s s': Shared} {f cn ci cd: Addr} {n: Nat} {xs: List Int} (x: CloB C name qual as body scope clos W s.heap f cn ci cd n xs) (keep: ∀ b o,C.n₀<=b -> s.heap.get? b=some o -> s'.heap.get? b=some o) (hW: ∀ b,W b -> W' b)
    (hf: ∀ b,W' b -> W b \/ s.heap.get? b=none): CloB C name qual as body scope clos W' s'.heap f cn ci cd n xs:=by
  have cell: ∀ {b v},C.n₀<=b -> s.heap.IsCell b v -> s'.heap.IsCell b v:=fun {b v} lo z=>by obtain ⟨o,ho,hd⟩:=z; exact ⟨o,keep b o lo ho,hd⟩
  obtain ⟨t,ht⟩:=x.cn'
  obtain ⟨v,hv,r⟩:=x.cd'
  exact { inn:=x.inn.keep fun b o lo _ e=>keep b o lo e
          cn':=⟨t,cell x.ln ht⟩
          ci':=cell x.li x.ci'
          cd':=⟨v,cell x.ld hv,Rep.stay (Stay.grow keep hf) _ _ r⟩
          wn:=hW _ x.wn
          wi:=hW _ x.wi
          wd:=hW _ x.wd
          ln:=x.ln
          li:=x.li
          ld:=x.ld }
noncomputable def z2k (C: CX) (name qual: Str) (as: List Arg) (body: List Stmt) (scope: Scope) (clos: List (Str × Addr)) (K: Nat) (f cn ci cd: Addr) (n: Nat) (xs: List Int) (k: Nat): Prop:=
    ∀ (L R: Nat) (A: Around) (W: Addr -> Prop) (s: Shared) (vs: List Value),Room A (K + k + 1) -> At C W s -> CloB C name qual as body scope clos W s.heap f cn ci cd n xs ->
      RepL C s.heap W [.int L,.int R] vs -> L < R -> R - L<=2 ^ k -> R<=xs.length -> Snd C A s W (call (.ref f) vs) (.int (numB n xs L R))
structure CloM (clos: List (Str × Addr)) (cn ci cd: Addr): Prop where
  n: clos.lookup (Str.ofString "n")=some cn
  i: clos.lookup (Str.ofString "inner")=some ci
  d: clos.lookup (Str.ofString "digits")=some cd
  inj: ∀ x y b,clos.lookup x=some b -> clos.lookup y=some b -> x=y
theorem zk9 {G: GT} {K: Nat} (ok: FnOk C G K) (frm: zy3 c as body scope) {cn ci cd f: Addr} {n: Nat} (cl: CloM clos cn ci cd) (hN: n<=1000000) {xs: List Int} (hb: ∀ x ∈ xs,bits x<=1000000) (hlen: xs.length<=64) (k: Nat)
    (ih: ∀ k',k=k' + 1 -> z2k C name qual as body scope clos K f cn ci cd n xs k'): z2k C name qual as body scope clos K f cn ci cd n xs k:=by
  intro L R A W s vs rm at' hcl hr hLR hk hR Q E q
  obtain ⟨t,eR,pR,pif,e1,q1,r1,e2,q2,r2,a1,w1,w2,eS,pS,a2,u1,u2,pA,pZ,hbody,ht,heR,⟨h1,hc1⟩,⟨h2,hc2⟩,hS,ha1,ha2⟩:=frm.form
  have ni: zwa C c W (fun b=>b=cn \/ b=cd) s.heap scope clos (some (.val (.int n)) :: some (.val (.list (xs.map .int))) :: List.replicate 4 none):={
      sc:=frm.sc
      base:=frm.base
      ow:=fun b hb=>by
        rcases hb with rfl | rfl
        · exact hcl.wn
        · exact hcl.wd
      cells:=fun y hy=>by
        rcases frm.free y hy with rfl | rfl
        · obtain ⟨t,ht⟩:=hcl.cn'
          exact ⟨cn,_,cl.n,.inl rfl,ht⟩
        · obtain ⟨v,hv,_⟩:=hcl.cd'
          exact ⟨cd,_,cl.d,.inr rfl,hv⟩
      cinj:=cl.inj
      top:=fun i sl hi=>by
        rcases i with _ | _ | i
        · simp at hi; subst hi
          obtain ⟨t,ht⟩:=hcl.cn'
          exact ⟨_,frm.ni,frm.nf,cn,_,cl.n,ht,.val zbf⟩
        · simp at hi; subst hi
          obtain ⟨v,hv,r⟩:=hcl.cd'
          exact ⟨_,frm.di,frm.df,cd,_,cl.d,hv,.val r⟩
        · rw [List.getElem?_cons_succ,List.getElem?_cons_succ,List.getElem?_replicate] at hi
          split at hi <;> simp at hi
      one:=fun i j sl u hi hj=>by
        rcases i with _ | _ | i
        · simp at hi; subst hi
          intro h; exact ft h
        · simp at hi; subst hi
          intro h; exact ft h
        · rw [List.getElem?_cons_succ,List.getElem?_cons_succ,List.getElem?_replicate] at hi
          split at hi <;> simp at hi }
  refine zml frm.kind frm.noco frm.nogen frm.nocell rfl frm.nodup frm.places frm.loc hcl.inn ni at' hr (ρ:=[some (.val (.int n)),some (.val (.list (xs.map .int))),some (.val (.int L)),some (.val (.int R)),none,none]) rfl (by have:=rm.2.1; lia) fun env s₁ hL hcells hscope e₁ ev₁ a₁=>?_
  have rm': Room (A.deeper env) (K + k):=rm.deeper
  have rmK: Room (A.deeper env) K:=rm'.mono (Nat.le_add_right _ _)
  have fresh: s.heap.get? env.locals=none:=by rw [hL]; exact zar
  have kf: ∀ {y},scope.names.lookup y=some .free -> env.kindOf y=some .free:=fun {y} h=>by show env.scope.names.lookup y=_; rw [hscope]; exact h
  have hgrow: ∀ {s'},Ext C s s' -> CloB C name qual as body scope clos (fun b=>W b \/ b=env.locals) s'.heap f cn ci cd n xs:=fun {s'} e=>hcl.grow e.new (fun b h=>.inl h) fun b h=>by
    rcases h with h | rfl
    · exact .inl h
    · exact .inr fresh
  have back: ∀ {s': Shared} {x: Int} {v: Value},Rep C s'.heap (fun b=>W b \/ b=env.locals) (.int x) v -> Rep C s'.heap W (.int x) v:=fun r=>r
  rw [hbody]
  refine wpAny_execs_cons (wpAny_If (ht.tst ok ev₁ a₁ rmK (b:=decide (L + 1=R)) (zav (zaf (zaa rfl) rfl rfl) (zaa rfl) (by show some (((L: Int) + 1) == (R: Int))=_; rw [<- tdf]; rfl)) _ _ fun s₂ e₂=>?_))
  have ev₂:=ev₁.ext e₂.toExt0
  have a₂:=a₁.ext e₂
  by_cases hleaf: L + 1=R
  · rw [decide_eq_true hleaf]
    have hLl: L < xs.length:=Nat.le_trans ‹_› ‹_›
    refine wpAny_execs_cons (wpAny_Return_some (heR.val ok ev₂ a₂ rmK (p:=.int xs[L]) (za9 (zaa rfl) (zaa rfl) ?_) _ _ fun v s₃ e₃ r₃=>?_))
    · rw [znw (by simp; lia),Int.toNat_natCast,List.getElem?_map,List.getElem?_eq_getElem hLl]; rfl
    · subst hleaf
      refine q v s₃ ((e₁.trans e₂).trans e₃) ?_
      rw [zwf (List.getElem?_eq_getElem hLl)]
      exact back r₃
  · rw [decide_eq_false hleaf]
    show wpAny _ _ (execs [] env) _ _ s₂
    refine wpAny_execs_nil ?_
    cases k with
    | zero=>exact absurd (z4p hLR hk) hleaf
    | succ k=>
    have ihk:=ih k rfl
    have hnc: ∀ x,c.sc.names.lookup x ≠ some .cell:=frm.nocell'
    obtain ⟨m,hm⟩: ∃ m,m=(L + R) / 2:=⟨_,rfl⟩
    obtain ⟨hLm,hmR,hmk,hmk2⟩:=mids hLR hleaf hk hm
    have hmR':=Nat.le_of_lt hmR
    have hLm':=Nat.le_of_lt hLm
    have hm64: m<=64:=Nat.le_trans (Nat.le_trans hmR' hR) hlen
    obtain ⟨sh,hsh⟩: ∃ sh,sh=(m - L) * n:=⟨_,rfl⟩
    have hshl: sh<=64000000:=by
      rw [hsh]
      exact Nat.le_trans (Nat.mul_le_mul (Nat.le_trans (Nat.sub_le _ _) hm64) hN) (by decide)
    refine wpAny_execs_cons (zje ok rmK h1 hc1 frm.mi frm.ml hnc ev₂ a₂ (v:=.int m) (zaf (zaf (zaa rfl) (zaa rfl) rfl) rfl (by rw [hm]; exact z4o)) fun s₃ e₃ ev₃ a₃=>?_)
    refine wpAny_execs_cons (zje ok rmK h2 hc2 frm.si frm.sl hnc ev₃ a₃ (v:=.int sh) (zaf (zaf (zaa rfl) (zaa rfl) rfl) (zaa rfl) (by rw [hsh]; exact zwb hLm' hm64 hN)) fun s₄ e₄ ev₄ a₄=>?_)
    have eO₄: ExtO C (fun _=>False) s s₄:=((e₁.trans e₂).toO.thenLoc e₃ fresh).thenLoc e₄ fresh
    have eX₄: Ext C s s₄:=eO₄.free fun _ h=>h.elim
    have hcl₄:=hgrow eX₄
    refine wpAny_execs_cons (wpAny_Return_some (wpAny_BinOp (wpAny_BinOp (zds ok rmK (ps:=[.int m,.int R]) ha1 ev₄ a₄ rfl rfl (.cell (.inr (kf frm.fi)) (by rw [hcells]; exact cl.i) hcl.li hcl₄.ci') hcl₄.inn
      (zac (zaa rfl) (zac (zaa rfl) zai)) fun vs₁ s₅ e₅ r₅=>?_))))
    refine ihk m R _ _ s₅ vs₁ rm' (a₄.ext e₅) (hgrow (eX₄.trans e₅)) r₅ hmR hmk2 hR _ _ fun v₆ s₆ e₆ r₆=>?_
    have e₄₆:=e₅.trans e₆
    refine hS.val ok (ev₄.ext e₄₆.toExt0) (a₄.ext e₄₆) rmK (zaa rfl) _ _ fun u₇ s₇ e₇ r₇=>?_
    have hbn:=zwg (L:=m) (R:=R) hb hN (Nat.le_trans hR hlen)
    refine (zmu (zni (by lia)) ((a₄.ext e₄₆).ext e₇) (r₆.ext e₇.toExt0) r₇).up _ _ fun v₈ s₈ e₈ r₈=>?_
    have e₄₈:=(e₄₆.trans e₇).trans e₈
    have ev₈:=ev₄.ext e₄₈.toExt0
    have a₈:=a₄.ext e₄₈
    have hcl₈:=hgrow (eX₄.trans e₄₈)
    refine zds ok rmK (ps:=[.int L,.int m]) ha2 ev₈ a₈ rfl rfl (.cell (.inr (kf frm.fi)) (by rw [hcells]; exact cl.i) hcl.li hcl₈.ci') hcl₈.inn
      (zac (zaa rfl) (zac (zaa rfl) zai)) fun vs₂ s₉ e₉ r₉=>?_
    refine ihk L m _ _ s₉ vs₂ rm' (a₈.ext e₉) (hgrow ((eX₄.trans e₄₈).trans e₉)) r₉ hLm hmk (Nat.le_trans hmR' hR) _ _ fun v₀ s₀ e₀ r₀=>?_
    have a₀:=(a₈.ext e₉).ext e₀
    refine (zmu (op:=.Add) (z:=.int (numB n xs m R * 2 ^ sh + numB n xs L m)) rfl a₀ (r₈.ext (e₉.trans e₀).toExt0) r₀).up _ _ fun v' s' e' r'=>?_
    refine q v' s' ((((eX₄.trans e₄₈).trans e₉).trans e₀).trans e') ?_
    rw [zs7 (m:=m) hLm' hmR' hR,<- hsh]
    exact back r'
theorem zmo {G: GT} {K: Nat} (ok: FnOk C G K) (frm: zy3 c as body scope) {cn ci cd f: Addr} {n: Nat} (cl: CloM clos cn ci cd) (hN: n<=1000000) {xs: List Int} (hb: ∀ x ∈ xs,bits x<=1000000) (hlen: xs.length<=64): ∀ k,z2k C name qual as body scope clos K f cn ci cd n xs k
  | 0=>zk9 ok frm cl hN hb hlen 0 fun _ h=>by lia
  | k + 1=>zk9 ok frm cl hN hb hlen (k + 1) fun k' h=>by
    obtain rfl: k=k':=by lia
    exact zmo ok frm cl hN hb hlen k
end
end Mine
namespace Mine
open PySem PySem.Builtin PySem.Builtin.Str PySem.Challenge PyProof.Rows
set_option maxRecDepth 10000
noncomputable abbrev rhoT (x y b m: Nat) (c0 c1 c2 c3 c4: Int) (cnt sm: List Int) (e13 e14 o0 o1 o2 o3 o4 o5 o6 o7 o8 o9 o10 o11 o12: Option Slot): Rho:=
  [o0,o1,o2,o3,o4,o5,o6,o7,o8,o9,o10,o11,o12,e13,e14,some (.own (sm.map .int)),some (.own (cnt.map .int)),some (.val (.list [.int c0,.int c1,.int c2,.int c3,.int c4])),some (.val (.lit (tx [b]))),some (.val (.lit (tx [x,y]))),some (.val (.int (m: Int))),none,none]
theorem zjg {l: List Int} {k: Nat} (h: k < l.length): (l.map PV.int)[k]? = some (.int (l.getD k 0)):=by
  rw [List.getElem?_map,List.getD_eq_getElem?_getD,List.getElem?_eq_getElem h]; rfl
theorem zrt {l: List Int} {k: Nat} {v: Int}: (l.map PV.int).set k (.int v)=(l.set k v).map .int:=by rw [List.map_set]
theorem zy4: (Str.ofString ";")=tx [59]:=by rfl
noncomputable def slots (l: List (Option Slot)) (i: Nat): Option Slot:=l.getD i none
theorem zy5 {d: Nat} {p: Nat × Nat × Nat} (hp: p ∈ zgy) {r: List Bool} (hr: r ∈ (zba 4).1) {m: Nat} (hm: m<=4) {c0 c1 c2 c3 c4: Int} (hz: bits c3<=50) {cnt sm: List Int} (hl1: cnt.length=m + 1) (hl2: sm.length=m + 1) {i: Nat} (hi: i<=100)
    {e13 e14: Option Slot} (v: Nat -> Option Slot) :
    ∃ w: Nat -> Option Slot,zsl (G2 (d + 13)) [10,11] false zno (.tuple [.int (i: Int),.str (tx (word p.1 p.2.1 r))]) (rhoT p.1 p.2.1 p.2.2 m c0 c1 c2 c3 c4 cnt sm e13 e14 (v 0) (v 1) (v 2) (v 3) (v 4) (v 5) (v 6) (v 7) (v 8) (v 9) (v 10) (v 11) (v 12)) =
      some (.next (rhoT p.1 p.2.1 p.2.2 m c0 c1 c2 c3 c4 (zed m c3 (cnt,sm) r).1 (zed m c3 (cnt,sm) r).2 e13 e14 (w 0) (w 1) (w 2) (w 3) (w 4) (w 5) (w 6) (w 7) (w 8) (w 9) (w 10) (w 11) (w 12))):=by
  have hrd:=fun num=>zyw (d + 11) hp hr num
  obtain ⟨x,y,b⟩:=p
  have hb:=List.all_eq_true.mp zvy _ hp
  simp only [Bool.and_eq_true,decide_eq_true_eq] at hb
  obtain ⟨⟨hxy,_⟩,_⟩:=hb
  have hr5: r.length<=5:=of_decide_eq_true (List.all_eq_true.mp zmk r hr)
  have hrw:=List.all_eq_true.mp zyy r hr
  simp only [Bool.and_eq_true,decide_eq_true_eq] at hrw
  obtain ⟨hn,hh,hh5⟩: ∃ hn: Nat,(c2 + (i: Int) * (1 + c2 / 5 % 4)) % 5=(hn: Int)/\hn < 5:=modN _ 5 (by decide)
  obtain ⟨ml,ml2⟩:=zyz hn hh5
  obtain ⟨sh,hsh,hshl⟩:=modN (c2 / 20 + (i: Int)) (zb2 hn).length ‹_›
  have hrl:=z2b (Nat.le_of_lt hshl)
  have hrk: ∀ c ∈ rotL sh (zb2 hn),c ∈ zsp:=fun c hc=>zv8 hh5 c (z2c c hc)
  have hpd:=List.all_eq_true.mp (zvw hn hh5 sh hshl) r hr
  simp only [Bool.and_eq_true,decide_eq_true_eq] at hpd
  obtain ⟨hpage,hsemi⟩:=hpd
  have hsb: ∀ k: Int,0 < k -> k<=100000 -> bits k<=9000:=fun k h1 h2=>Nat.le_trans (zas (k:=40) (Int.le_of_lt ‹_›) (by lia)) (by decide)
  have hib: bits (i: Int)<=64:=Nat.le_trans (zcu (n:=i) (k:=10) (Nat.lt_of_le_of_lt ‹_› (by decide))) (by decide)
  show ∃ w: Nat -> Option Slot,zap (G2 (d + 13)) zno (rhoT x y b m c0 c1 c2 c3 c4 cnt sm e13 e14 (v 0) (v 1) (v 2) (v 3) (v 4) (v 5) (v 6) (v 7) (v 8) (v 9) (some (.val (.int (i: Int)))) (some (.val (.str (tx (word x y r))))) (v 12))=_
  have first: ∀ (out: Option Out) (rest: List PS),zap (G2 (d + 13)) rest (rhoT x y b m c0 c1 c2 c3 c4 cnt sm e13 e14 (v 0) (v 1) (some (.val (.int ((za0 r).length: Nat)))) (some (.val (.str (tx (dueF hn (rotL sh (zb2 hn)) r))))) (some (.val (.str (tx (word x y r))))) (some (.val (.str (tx (rotL sh (zb2 hn)))))) (some (.val (.int (sh: Int)))) (some (.val (.dict (namesOf hn)))) (some (.val (.str (tx (zb2 hn))))) (some (.val (.fn (zb4 hn)))) (some (.val (.int (i: Int)))) (some (.val (.str (tx (word x y r))))) (v 12))=out ->
      zap (G2 (d + 13)) ([.asgT [9,8,7] (.call (.glob "_law_hand") [(.bin .Mod (.bin .Add (.sub (.var 17) (.int 2)) (.bin .Mult (.var 10) (.bin .Add (.int 1) (.bin .Mod (.bin .FloorDiv (.sub (.var 17) (.int 2)) (.int 5)) (.int 4))))) (.int 5))]),.asg 6 (.bin .Mod (.bin .Add (.bin .FloorDiv (.sub (.var 17) (.int 2)) (.int 20)) (.var 10)) (.call (.glob "len") [(.var 8)])),.asg 5 (.bin .Add (.slice (.var 8) (some (.var 6)) none) (.slice (.var 8) none (some (.var 6)))),.asg 4 (.call (.glob "_law_read") [(.var 11),(.var 19),(.var 18),(.bin .Add (.sub (.var 17) (.int 1)) (.bin .Mult (.int 1000003) (.var 10)))]),.asg 3 (.call (.glob "_law_page") [(.var 4),(.sub (.var 19) (.int 0)),(.var 9),(.var 5)]),.ite (.or [(.cmp .NotEq (.var 4) (.var 11)),(.cmp .NotEq (.var 3) (.call (.glob "_law_due") [(.var 11),(.var 19),(.var 7),(.var 5)]))]) [.ret (.tuple [(.list []),(.list [])])] [],.asg 2 (.meth (.var 3) (Str.ofString "count") [(.str ";")])] ++ rest)
        (rhoT x y b m c0 c1 c2 c3 c4 cnt sm e13 e14 (v 0) (v 1) (v 2) (v 3) (v 4) (v 5) (v 6) (v 7) (v 8) (v 9) (some (.val (.int (i: Int)))) (some (.val (.str (tx (word x y r))))) (v 12))=out:=fun out rest hout=>by
    refine zad (zcn (xs:=[.fn (zb4 hn),.str (tx (zb2 hn)),.dict (namesOf hn)]) (zao (zal (zf3 _ (by decide +kernel) (by rfl))) (zac (zaf (x:=.int (c2 + (i: Int) * (1 + c2 / 5 % 4))) (zaf (za9 (zaa rfl) rfl rfl) (zaf (zaa rfl) (zaf rfl (zaf (zaf (za9 (zaa rfl) rfl rfl) rfl (zlw (by decide) (hsb _ (by decide) (by decide)))) rfl (zgo (by decide))) rfl) (zjq (.inl hib))) rfl) rfl (by rw [zgo (by decide),hh])) zai) (zye (d + 12) hh5)) rfl) ?_
    refine zad (zaz (v:=.int (sh: Int)) (zaf (zaf (zaf (za9 (zaa rfl) rfl rfl) rfl (zlw (by decide) (hsb _ (by decide) (by decide)))) (zaa rfl) rfl) (zmj (l:=zb2 hn) (zih _) (zaa rfl)) (by rw [zgo (Int.ofNat_lt.mpr ‹_›),hsh]))) ?_
    refine zad (zaz (v:=.str (tx (rotL sh (zb2 hn)))) (zaf (zfe (p:=sh) (q:=(zb2 hn).length) (zaa rfl) (zf2 (zaa rfl)) zjc (.inr rfl) (.inl ⟨rfl,rfl⟩) (Nat.le_of_lt hshl)) (zfe (p:=0) (q:=sh) (zaa rfl) zjc (zf2 (zaa rfl)) (.inl ⟨rfl,rfl⟩) (.inr rfl) (Nat.zero_le _)) ?_)) ?_
    · rw [zlt (by simp only [List.length_take,List.length_drop]; exact Nat.le_trans (Nat.add_le_add (Nat.le_trans (Nat.min_le_left _ _) (Nat.sub_le _ _)) (Nat.le_trans (Nat.min_le_right _ _) (Nat.sub_le _ _))) (Nat.le_trans (Nat.add_le_add (Nat.le_of_lt ml2) (Nat.le_of_lt ml2)) (by decide)))]
      unfold rotL
      rw [List.take_of_length_le (by simp),List.drop_zero,Nat.sub_zero]
    refine zad (zaz (v:=.str (tx (word x y r))) (zao (zal (zf3 _ (by decide +kernel) (by rfl))) (zac (zaa rfl) (zac (zaa rfl) (zac (zaa rfl) (zac (zaf (za9 (zaa rfl) rfl rfl) (zaf rfl (zaa rfl) (zjq (.inr hib))) rfl) zai)))) (hrd _))) ?_
    refine zad (zaz (v:=.str (tx (dueF hn (rotL sh (zb2 hn)) r))) ?_) ?_
    · rw [<- hpage]
      exact zao (zal (zf3 _ (by decide +kernel) (by rfl))) (zac (zaa rfl) (zac (za9 (zaa rfl) rfl (zhi (i:=0) (c:=x) (by decide) rfl)) (zac (zaa rfl) (zac (zaa rfl) zai)))) (zyi (d:=d + 11) hh5 (by lia) (by lia) hxy hr5)
    refine zad (zcs (c:=false || false) (zva (zav (zaa rfl) (zaa rfl) z4l) fun _=>zav (zaa rfl) (zao (zal (zf3 _ (by decide +kernel) (by rfl))) (zac (zaa rfl) (zac (zaa rfl) (zac (zaa rfl) (zac (zaa rfl) zai)))) (z14 (d:=d + 12) (by lia) (by lia) hrk hxy (Nat.le_trans ‹_› (by decide)))) z4l) zbc) ?_
    refine zad (zaz (v:=.int ((za0 r).length: Nat)) ?_) hout
    rw [<- hsemi]
    exact zvv (zaa rfl) (by rw [zy4]; rfl)
  by_cases hsz: (za0 r).length<=m
  · refine ⟨slots [some (.val (.int (zgp 8 r: Nat))),some (.val (.list ((zd4 r).map .int))),some (.val (.int ((za0 r).length: Nat))),some (.val (.str (tx (dueF hn (rotL sh (zb2 hn)) r)))),some (.val (.str (tx (word x y r)))),some (.val (.str (tx (rotL sh (zb2 hn))))),some (.val (.int (sh: Int))),some (.val (.dict (namesOf hn))),some (.val (.str (tx (zb2 hn)))),some (.val (.fn (zb4 hn))),some (.val (.int (i: Int))),some (.val (.str (tx (word x y r)))),(v 12)],?_⟩
    refine first _ _ ?_
    have hro:=List.all_eq_true.mp z2a r hr
    unfold z4k at hro
    rw [decide_eq_false (show ¬ 4 < (za0 r).length by lia),Bool.false_or] at hro
    simp only [Bool.and_eq_true,decide_eq_true_eq] at hro
    obtain ⟨⟨⟨⟨⟨k1,k2⟩,k3⟩,k4⟩,k5⟩,k6⟩:=hro
    have hhs:=List.all_eq_true.mp zqh r hr
    simp only [Bool.and_eq_true,decide_eq_true_eq,List.all_eq_true] at hhs
    have hgd: ∀ {l: List Int},l.length=m + 1 -> (za0 r).length < l.length:=fun h=>by lia
    have hbh: ∀ v ∈ zd4 r,bits v<=64:=fun v hv=>by
      unfold zd4 at hv
      obtain ⟨n,hn,rfl⟩:=List.mem_map.mp hv
      exact Nat.le_trans (zcu (n:=n) (k:=20) (by have:=hhs.1 n hn; exact Nat.lt_of_le_of_lt ‹_› (by decide))) (by decide)
    have hbf: ∀ v ∈ ((List.range (za0 r).length).map fun k=>((1 + k: Nat): Int)),bits v<=64:=fun v hv=>by
      obtain ⟨n,hn,rfl⟩:=List.mem_map.mp hv
      have:=List.mem_range.mp hn
      exact Nat.le_trans (zcu (n:=1 + n) (k:=20) (by lia)) (by decide)
    have hadd: zed m c3 (cnt,sm) r=(cnt.set (za0 r).length (cnt.getD (za0 r).length 0 + 1),sm.set (za0 r).length (sm.getD (za0 r).length 0 + ((zgp 8 r: Nat): Int) ^ 2 * zbx ((za0 r).map fun (h: Nat)=>(h: Int) ^ 2 - c3))):=by unfold zed; rw [if_pos hsz]
    rw [hadd]
    have hbw: bits ((zgp 8 r: Nat): Int)<=10:=zcu (Nat.lt_of_le_of_lt ‹_› (by decide))
    refine zad (zcs (c:=true) (zav (zaa rfl) (zaa rfl) (by show some (decide (((za0 r).length: Int)<=(m: Int)))=_; rw [decide_eq_true (by lia)])) (zad (zaz (zy0 hxy hr5 rfl rfl rfl)) (zad (zaz (zao (zal (zv6 _)) (zac (zaa rfl) (zac (zaa rfl) zai)) (zrs hxy 8 (d + 13) (Nat.le_add_left _ _) r hrw.1 hrw.2 (Nat.le_trans ‹_› (by decide)))))
      (zad (zcs (c:=false) (zav (x:=.tuple [.int ((zgp 8 r: Nat): Int),.int 0]) (y:=.tuple [.int ((zgp 8 r: Nat): Int),.int 0]) (zao (zal (zo2 _)) (zac (zao (zal (zf3 _ (by decide +kernel) (by rfl))) (zac (zij (zbq _) (a:=1) (b:=(za0 r).length + 1) rfl (zaf (zaa rfl) rfl rfl) (Nat.le_add_left _ _) (by lia)) zai) (zff (d + 12) (l:=(List.range (za0 r).length).map fun k=>((1 + k: Nat): Int)) ?_ hbf)) (zac (zao (zal (zf3 _ (by decide +kernel) (by rfl))) (zac (zaa rfl) zai) (zff (d + 12) (l:=zd4 r) rfl hbh)) zai)) ?_) (zbv (zac (zaa rfl) (zac rfl zai))) zz9) zbc)
      (zad (zor (k:=((za0 r).length: Int)) (x:=.int (cnt.getD (za0 r).length 0)) (z:=.int (cnt.getD (za0 r).length 0 + 1)) rfl (zaa rfl) rfl ⟨(Int.natCast_nonneg _),by lia⟩ (by rw [Int.toNat_natCast]; exact zjg (hgd hl1)) rfl)
      (zad (zor (k:=((za0 r).length: Int)) (x:=.int (sm.getD (za0 r).length 0)) (z:=.int (sm.getD (za0 r).length 0 + ((zgp 8 r: Nat): Int) ^ 2 * zbx ((za0 r).map fun (h: Nat)=>(h: Int) ^ 2 - c3))) rfl (zaa rfl) (zaf (zaf (x:=.int ((zgp 8 r: Nat): Int)) (y:=.int ((2: Nat): Int)) (zaa rfl) rfl (znm (by lia))) (zao (zal (zf3 _ (by decide +kernel) (by rfl))) (zac ?_ zai) (zff (d + 12) (p:=.list (((za0 r).map fun (h: Nat)=>(h: Int) ^ 2 - c3).map .int)) (l:=(za0 r).map fun (h: Nat)=>(h: Int) ^ 2 - c3) rfl ?_)) (zjq (.inl ?_))) ⟨(Int.natCast_nonneg _),by lia⟩ (by rw [Int.toNat_natCast]; exact zjg (hgd hl2)) rfl) zbc)))))) ?_
    · show some (zan ((1: Nat): Int) (((za0 r).length + 1: Nat): Int) 1)=_
      rw [zd3,List.map_map]
      rw [Nat.add_sub_cancel]; rfl
    · have:=idiv (d:=d + 8) (m:=0) (a:=zdo (za0 r).length) (b:=zbx (zd4 r)) (Nat.le_add_left _ _) (Nat.le_add_left _ _) k1 (by simpa using k2) (Nat.le_trans ‹_› (by decide)) k3
      rw [k4,k5] at this
      exact this
    · unfold zd4
      rw [List.map_map,List.map_map]
      refine zbz (l:=za0 r) (mk:=fun (n: Nat)=>.int (n: Int)) (zfd (zaa rfl)) (fun h hhm=>zaf (zaf (x:=.int (h: Int)) (y:=.int ((2: Nat): Int)) (zaa rfl) rfl (znm ?_)) (za9 (zaa rfl) rfl rfl) rfl) (by lia)
      have:=zcu (n:=h) (k:=20) (by have:=hhs.1 h hhm; exact Nat.lt_of_le_of_lt ‹_› (by decide))
      lia
    · intro v hv
      obtain ⟨h,hhm,rfl⟩:=List.mem_map.mp hv
      have h1: bits ((h: Int) ^ 2)<=50:=by
        refine zas (Int.pow_nonneg (Int.natCast_nonneg _)) ?_
        have:=hhs.1 h hhm
        have h3: h ^ 2<=1000 ^ 2:=Nat.pow_le_pow_left this 2
        have h4: ((h ^ 2: Nat): Int)<=((1000 ^ 2: Nat): Int):=Int.ofNat_le.mpr h3
        rw [Int.natCast_pow] at h4
        refine Int.lt_of_le_of_lt h4 (by decide)
      have h2:=zfg (x:=(h: Int) ^ 2) (y:=-c3) (k:=50) h1 (by rw [zii]; exact hz)
      rw [<- Int.sub_eq_add_neg] at h2
      exact Nat.le_trans ‹_› (by decide)
    · refine Nat.le_trans (zas (k:=60) (Int.pow_nonneg (Int.natCast_nonneg _)) ?_) (by decide)
      have h3: (zgp 8 r) ^ 2<=1000 ^ 2:=Nat.pow_le_pow_left k6 2
      have h4: (((zgp 8 r) ^ 2: Nat): Int)<=((1000 ^ 2: Nat): Int):=Int.ofNat_le.mpr h3
      rw [Int.natCast_pow] at h4
      exact Int.lt_of_le_of_lt h4 (by decide)
    · rw [Int.toNat_natCast,zrt,zrt]
      exact zbc
  · refine ⟨slots [(v 0),(v 1),some (.val (.int ((za0 r).length: Nat))),some (.val (.str (tx (dueF hn (rotL sh (zb2 hn)) r)))),some (.val (.str (tx (word x y r)))),some (.val (.str (tx (rotL sh (zb2 hn))))),some (.val (.int (sh: Int))),some (.val (.dict (namesOf hn))),some (.val (.str (tx (zb2 hn)))),some (.val (.fn (zb4 hn))),some (.val (.int (i: Int))),some (.val (.str (tx (word x y r)))),(v 12)],?_⟩
    refine first _ _ ?_
    have: zed m c3 (cnt,sm) r=(cnt,sm):=by unfold zed; rw [if_neg hsz]
    rw [this]
    refine zad (zcs (c:=false) (zav (zaa rfl) (zaa rfl) (by show some (decide (((za0 r).length: Int)<=(m: Int)))=_; rw [decide_eq_false (by lia)])) zbc) zbc
noncomputable def rowS (x y: Nat) (r: List Bool): PV:=.str (tx (word x y r))
noncomputable def zla (m: Nat): List Int:=1 :: List.replicate m 0
noncomputable def zfh (m: Nat) (z: Int): List Int × List Int:=(zba m).1.foldl (zed m z) (zla m,zla m)
theorem zy6: ∀ m ≤ 4,(zba m).1.all (fun r=>(zba 4).1.contains r)=true:=by decide +kernel
theorem zpd: ∀ m ≤ 4,(zba m).1.length<=50/\(zba m).2.length<=50/\(zba m).2.all (fun r=>decide (r.length<=50))=true:=by decide +kernel
theorem zwh {d: Nat} {p: Nat × Nat × Nat} (hp: p ∈ zgy) {m: Nat} (hm: m<=4) {c0 c1 c2 c3 c4: Int} (hz: bits c3<=50) {e13 e14: Option Slot}: ∀ (rs: List (List Bool)) (i: Nat) (cnt sm: List Int) (v: Nat -> Option Slot),(∀ r ∈ rs,r ∈ (zba 4).1) -> cnt.length=m + 1 -> sm.length=m + 1 -> i + rs.length<=100 ->
    ∃ w: Nat -> Option Slot,zfx (G2 (d + 13)) [10,11] false zno (zbo i (rs.map (rowS p.1 p.2.1))) (rhoT p.1 p.2.1 p.2.2 m c0 c1 c2 c3 c4 cnt sm e13 e14 (v 0) (v 1) (v 2) (v 3) (v 4) (v 5) (v 6) (v 7) (v 8) (v 9) (v 10) (v 11) (v 12)) =
      some (.next (rhoT p.1 p.2.1 p.2.2 m c0 c1 c2 c3 c4 (rs.foldl (zed m c3) (cnt,sm)).1 (rs.foldl (zed m c3) (cnt,sm)).2 e13 e14 (w 0) (w 1) (w 2) (w 3) (w 4) (w 5) (w 6) (w 7) (w 8) (w 9) (w 10) (w 11) (w 12))):=by
  intro zz
  induction zz with
  | nil=>exact fun i cnt sm v _ _ _ _=>⟨v,rfl⟩
  | cons r rs ih=>
    intro i cnt sm v h1 h2 h3 h4
    rw [List.length_cons] at h4
    obtain ⟨u,e⟩:=zy5 (d:=d) hp (h1 r List.mem_cons_self) hm (c0:=c0) (c1:=c1) (c2:=c2) (c4:=c4) hz h2 h3 (i:=i) (by lia) (e13:=e13) (e14:=e14) v
    have hl:=zs1 (m:=m) (z:=c3) (s:=(cnt,sm)) (r:=r)
    obtain ⟨w,e'⟩:=ih (i + 1) (zed m c3 (cnt,sm) r).1 (zed m c3 (cnt,sm) r).2 u (fun r' h=>h1 r' (List.mem_cons_of_mem _ h)) (hl.1.trans h2) (hl.2.trans h3) (by lia)
    exact ⟨w,(zci e).trans e'⟩
noncomputable abbrev zru: List PS:=[.aug 13 .Add (.comp (.bin .Add (.var 21) (.sub (.var 19) (.int 1))) [(.mk [21] true (.plain (.var 14)) [])]),.asg 14 (.comp (.bin .Add (.var 21) (.var 22)) [(.mk [21] true (.plain (.var 14)) []),(.mk [22] true (.plain (.var 19)) [])])]
noncomputable abbrev rhoV (x y b m: Nat) (c0 c1 c2 c3 c4: Int) (cnt sm: List Int) (ev ro: List (List Bool)) (o12: Option Slot): Rho:=
  rhoT x y b m c0 c1 c2 c3 c4 cnt sm (some (.own (ev.map (rowS x y)))) (some (.val (.list (ro.map (rowS x y))))) none none none none none none none none none none none none o12
theorem zy7 {G: GT} {ρ: Rho} {e: PE} {xs: List PV} (h: zag G e ρ=some (.list xs)): zen G (.enum e) ρ=some (zbo 0 xs):=by
  simp only [pE,h,Option.bind_some]; rfl
theorem zwi {d: Nat} {x y b m: Nat} {c0 c1 c2 c3 c4: Int} {cnt sm: List Int}: ∀ (n j: Nat) (o12: Option Slot),j + n<=4 ->
    ∃ o12',zfx (G2 d) [12] true zru ((List.range' j n).map fun (k: Nat)=>.int (k: Int)) (rhoV x y b m c0 c1 c2 c3 c4 cnt sm (zba j).1 (zba j).2 o12)=some (.next (rhoV x y b m c0 c1 c2 c3 c4 cnt sm (zba (j + n)).1 (zba (j + n)).2 o12')):=by
  intro zz
  induction zz with
  | zero=>exact fun j o12 _=>⟨o12,rfl⟩
  | succ n ih=>
    intro j o12 h
    obtain ⟨o',e⟩:=ih (j + 1) (some (.val (.int (j: Int)))) (by lia)
    rw [show j + 1 + n=j + (n + 1) by lia] at e
    refine ⟨o',(zci ?_).trans e⟩
    obtain ⟨l1,l2,l3⟩:=zpd j (by lia)
    have hrl: ∀ r ∈ (zba j).2,r.length<=50:=fun r hr=>of_decide_eq_true (List.all_eq_true.mp l3 r hr)
    show zap (G2 d) zru (rhoV x y b m c0 c1 c2 c3 c4 cnt sm (zba j).1 (zba j).2 (some (.val (.int (j: Int)))))=_
    refine zad (zoq (xs:=(zba j).1.map (rowS x y)) (ys:=((zba j).2.map (· ++ [false])).map (rowS x y)) rfl ?_ (by simp only [List.length_map]; lia)) ?_
    · rw [List.map_map]
      refine zbz (l:=(zba j).2) (mk:=rowS x y) (zfd (zaa rfl)) (fun r hr=>?_) (Nat.le_trans ‹_› (by decide))
      show zag _ _ _=some (.str (tx (word x y (r ++ [false]))))
      rw [<- zil]
      have:=hrl r hr
      exact zaf (zaa rfl) (za9 (zaa rfl) rfl (zhi (i:=1) (by decide) rfl)) (zlt (by rw [zc5]; simp; exact Nat.le_trans ‹_› (by decide)))
    refine zad (zaz (v:=.list ((zba (j + 1)).2.map (rowS x y))) ?_) ?_
    · have hE: (zba (j + 1)).2.map (rowS x y)=(zba j).2.flatMap fun r=>([true,false].filter fun _=>true).map fun c=>rowS x y (r ++ [c]):=by
        show ((zba j).2.flatMap fun r=>[r ++ [true],r ++ [false]]).map (rowS x y)=_
        rw [List.map_flatMap]; rfl
      rw [hE]
      refine zo5 (l:=(zba j).2) (mk:=rowS x y) (l2:=fun _=>[true,false]) (mk2:=fun c=>.str (tx [if c then x else y])) (f:=fun _ _=>true) (g:=fun r c=>rowS x y (r ++ [c])) (zfd (zaa rfl)) (fun r hr=>rfl) (fun r hr c hc=>by simp only [pE]) (fun r hr c hc _=>?_) ?_
      · show zag _ _ _=some (.str (tx (word x y (r ++ [c]))))
        rw [<- zil]
        have:=hrl r hr
        exact zaf (zaa rfl) (zaa rfl) (zlt (by rw [zc5]; simp; exact Nat.le_trans ‹_› (by decide)))
      · rw [List.length_flatMap]
        have hf: ([true,false].filter fun (_: Bool)=>true).length=2:=rfl
        simp only [List.length_map,hf,List.map_const',List.sum_replicate_nat]
        lia
    · rw [<- List.map_append]; rfl
theorem zy8 (d: Nat) (args: List PV): (G2 (d + 1)).fns "_law_sums" args=zei (G2 d) zg9 zha zl6 args:=rfl
theorem zs8 {G: GT} {ts: List Nat} {ow: List Bool} {es: List PE} {ρ ρ': Rho} {xs: List PV} (h: zbe G es ρ=some xs) (hb: znx ts ow xs ρ=some ρ'): zbr G (.asgTOwn ts ow es) ρ=some (.next ρ'):=by simp only [xE,h,Option.bind_some,hb,Option.map_some]
theorem zrv {G: GT} {ρ: Rho} {m: Nat} (hm: m<=4) (h: ρ[20]? = some (some (.val (.int (m: Int))))): zag G (.bin .Add (.list [(.int 1)]) (.bin .Mult (.list [(.int 0)]) (.var 20))) ρ=some (.list ((zla m).map .int)):=by
  refine zaf (y:=.list ((List.replicate m (0: Int)).map .int)) rfl (zaf (x:=.list [.int 0]) rfl (zaa h) ?_) ?_
  · have h5:=lt5 (Nat.lt_succ_of_le hm)
    rcases h5 with rfl | rfl | rfl | rfl | rfl <;> rfl
  · have h5:=lt5 (Nat.lt_succ_of_le hm)
    rcases h5 with rfl | rfl | rfl | rfl | rfl <;> rfl
theorem zy9 (d: Nat) {p: Nat × Nat × Nat} (hp: p ∈ zgy) {m: Nat} (hm: m<=4) {c0 c1 c2 c3 c4: Int} (hz: bits c3<=50) :
    (G2 (d + 14)).fns "_law_sums" [.int (m: Int),.lit (tx [p.1,p.2.1]),.lit (tx [p.2.2]),.list [.int c0,.int c1,.int c2,.int c3,.int c4]]=some (.tuple [.list ((zfh m c3).1.map .int),.list ((zfh m c3).2.map .int)]):=by
  show (G2 (d + 13 + 1)).fns "_law_sums" _=_
  rw [zy8]
  refine zby rfl ?_
  refine zad (zs8 (ρ':=rhoT p.1 p.2.1 p.2.2 m c0 c1 c2 c3 c4 (zla m) (zla m) (some (.own [])) (some (.own [rowS p.1 p.2.1 [true]])) none none none none none none none none none none none none none) (zac (zrv hm rfl) (zac (zrv hm rfl) (zac (zi7 (zac (za9 (zaa rfl) rfl (zhi (i:=0) (c:=p.1) (by decide) rfl)) zai)) (zac rfl zai)))) rfl) ?_
  refine zad (zd2 rfl) ?_
  obtain ⟨o12,e⟩:=zwi (d:=d + 13) (x:=p.1) (y:=p.2.1) (b:=p.2.2) (m:=m) (c0:=c0) (c1:=c1) (c2:=c2) (c3:=c3) (c4:=c4) (cnt:=zla m) (sm:=zla m) m 0 none (by lia)
  rw [<- List.range_eq_range',Nat.zero_add] at e
  refine zad (zid (zdb (zbq _) (zaa rfl) (Nat.le_trans ‹_› (by decide))) rfl e) ?_
  refine zad (zd2 rfl) ?_
  obtain ⟨q,e'⟩:=zwh (d:=d) hp hm (c0:=c0) (c1:=c1) (c2:=c2) (c4:=c4) hz (e13:=some (.val (.list ((zba m).1.map (rowS p.1 p.2.1))))) (e14:=some (.val (.list ((zba m).2.map (rowS p.1 p.2.1))))) (zba m).1 0 (zla m) (zla m) (slots [none,none,none,none,none,none,none,none,none,none,none,none,o12])
    (fun r hr=>List.contains_iff_mem.mp (List.all_eq_true.mp (zy6 m hm) r hr)) (by simp [zla]) (by simp [zla]) (by have:=(zpd m hm).1; lia)
  refine zad (zid (items:=zbo 0 ((zba m).1.map (rowS p.1 p.2.1))) ?_ (by simp [znh]) e') ?_
  · exact zy7 (zaa rfl)
  refine zad (zd2 rfl) ?_
  refine zad (zd2 rfl) ?_
  exact zay (zcj (zbv (zac (zaa rfl) (zac (zaa rfl) zai))))
end Mine
namespace Mine
open PySem
set_option maxRecDepth 100000
theorem z2l (z: Int): zfh 2 z=([1,1,2],[1,0 + 1 ^ 2 * zbx [1 ^ 2 - z],0 + 1 ^ 2 * zbx [2 ^ 2 - z,1 ^ 2 - z] + 1 ^ 2 * zbx [1 ^ 2 - z,2 ^ 2 - z]]):=by rfl
theorem z2m (z: Int): zfh 3 z=([1,1,2,3],[1,0 + 1 ^ 2 * zbx [1 ^ 2 - z],0 + 1 ^ 2 * zbx [2 ^ 2 - z,1 ^ 2 - z] + 1 ^ 2 * zbx [1 ^ 2 - z,2 ^ 2 - z],0 + 1 ^ 2 * zbx [3 ^ 2 - z,2 ^ 2 - z,1 ^ 2 - z] + 2 ^ 2 * zbx [1 ^ 2 - z,3 ^ 2 - z,1 ^ 2 - z] + 1 ^ 2 * zbx [1 ^ 2 - z,2 ^ 2 - z,3 ^ 2 - z]]):=by rfl
theorem z2n (z: Int): zfh 4 z=([1,1,2,3,5],[1,0 + 1 ^ 2 * zbx [1 ^ 2 - z],0 + 1 ^ 2 * zbx [2 ^ 2 - z,1 ^ 2 - z] + 1 ^ 2 * zbx [1 ^ 2 - z,2 ^ 2 - z],0 + 1 ^ 2 * zbx [3 ^ 2 - z,2 ^ 2 - z,1 ^ 2 - z] + 2 ^ 2 * zbx [1 ^ 2 - z,3 ^ 2 - z,1 ^ 2 - z] + 1 ^ 2 * zbx [1 ^ 2 - z,2 ^ 2 - z,3 ^ 2 - z],0 + 2 ^ 2 * zbx [2 ^ 2 - z,1 ^ 2 - z,3 ^ 2 - z,2 ^ 2 - z] + 1 ^ 2 * zbx [4 ^ 2 - z,3 ^ 2 - z,2 ^ 2 - z,1 ^ 2 - z] + 3 ^ 2 * zbx [1 ^ 2 - z,4 ^ 2 - z,2 ^ 2 - z,1 ^ 2 - z] + 3 ^ 2 * zbx [1 ^ 2 - z,2 ^ 2 - z,4 ^ 2 - z,1 ^ 2 - z] + 1 ^ 2 * zbx [1 ^ 2 - z,2 ^ 2 - z,3 ^ 2 - z,4 ^ 2 - z]]):=by rfl
theorem mm {x x' y y' N: Int} (h: x % N=x' % N) (h2: y % N=y' % N): (x * y) % N=(x' * y') % N:=by rw [Int.mul_emod,h,h2,<- Int.mul_emod]
theorem ms {a z N: Int}: (a - z) % N=(a - z % N) % N:=by rw [Int.sub_emod,Int.sub_emod a (z % N),Int.emod_emod]
theorem res {N: Nat} {F: Int -> Int} (hc: ∀ n: Fin N,F (n.val: Int) % (N: Int)=0) (hN: 0 < (N: Int)) {z: Int} (h: F z % (N: Int)=F (z % (N: Int)) % (N: Int)): ∃ k: Int,F z=(N: Int) * k:=by
  have h0:=Int.emod_nonneg z (Int.ne_of_gt hN)
  have h1:=Int.emod_lt_of_pos z hN
  obtain ⟨n,hn⟩:=Int.eq_ofNat_of_zero_le h0
  rw [hn] at h h1
  rw [hc ⟨n,Int.ofNat_lt.mp h1⟩] at h
  exact ⟨_,(Int.mul_ediv_cancel' (Int.dvd_of_emod_eq_zero h)).symm⟩
theorem dv2 (z: Int): ∃ k: Int,(1 - z) * (4 - z)=2 * k:=res (N:=2) (F:=fun z=>(1 - z) * (4 - z)) (by decide +kernel) (by decide) (mm ms ms)
theorem dv6 (z: Int): ∃ k: Int,(1 - z) * (2 - z) * (9 - z)=6 * k:=res (N:=6) (F:=fun z=>(1 - z) * (2 - z) * (9 - z)) (by decide +kernel) (by decide) (mm (mm ms ms) ms)
theorem dv24 (z: Int): ∃ k: Int,(1 - z) * (2 - z) * (4 - z) * (15 - z)=24 * k:=res (N:=24) (F:=fun z=>(1 - z) * (2 - z) * (4 - z) * (15 - z)) (by decide +kernel) (by decide) (mm (mm (mm ms ms) ms) ms)
noncomputable def sigN (k: Nat): Nat:=(((List.range k).map (1 + ·)).filter fun d=>k % d == 0).sum
noncomputable def zaw (z: Int): Nat -> List Int
  | 0=>[1]
  | n + 1=>zaw z n ++ [((1 - z) * ((List.range (n + 1)).map fun k=>((sigN (1 + k): Nat): Int) * (zaw z n).getD (n - k) 0).sum) / ((n + 1: Nat): Int)]
theorem z4t (z: Int) (n: Nat): zaw z (n + 1)=zaw z n ++ [((1 - z) * ((List.range (n + 1)).map fun k=>((sigN (1 + k): Nat): Int) * (zaw z n).getD (n - k) 0).sum) / ((n + 1: Nat): Int)]:=rfl
theorem zlb (z: Int): ∀ n,(zaw z n).length=n + 1:=by
  intro zz
  induction zz with
  | zero=>exact rfl
  | succ n ih=>simp [z4t,ih]
theorem z4u (z: Int): zaw z 1=[1,((1 - z) * (1 * 1 + 0)) / 1]:=by rfl
theorem zj0 (z: Int) (n: Nat): zaw z (n + 1)=zaw z n ++ [((1 - z) * ((List.range (n + 1)).map fun k=>((sigN (1 + k): Nat): Int) * (zaw z n).getD (n - k) 0).sum) / ((n + 1: Nat): Int)]:=rfl
theorem zlc {a b c: Int} (hb: 0 < b) (h: a=b * c): a / b=c:=by
  subst h; exact Int.mul_ediv_cancel_left _ (Int.ne_of_gt ‹_›)
theorem z0b (z: Int): ∃ t2 t3 t4: Int,2 * t2=(1 - z) * (4 - z)/\6 * t3=(1 - z) * (2 - z) * (9 - z)/\24 * t4=(1 - z) * (2 - z) * (4 - z) * (15 - z)/\zaw z 1=[1,1 - z]/\zaw z 2=[1,1 - z,t2]/\zaw z 3=[1,1 - z,t2,t3]/\zaw z 4=[1,1 - z,t2,t3,t4]:=by
  obtain ⟨t2,h2⟩:=dv2 z
  obtain ⟨t3,h3⟩:=dv6 z
  obtain ⟨t4,h4⟩:=dv24 z
  have e1: zaw z 1=[1,1 - z]:=by rw [z4u]; simp
  have e2: zaw z 2=[1,1 - z,t2]:=by
    rw [zj0,e1]
    show [1,1 - z] ++ [((1 - z) * (1 * (1 - z) + (3 * 1 + 0))) / 2]=_
    rw [zlc (c:=t2) (by decide) (by rw [<- h2]; grind)]; rfl
  have e3: zaw z 3=[1,1 - z,t2,t3]:=by
    rw [zj0,e2]
    show [1,1 - z,t2] ++ [((1 - z) * (1 * t2 + (3 * (1 - z) + (4 * 1 + 0)))) / 3]=_
    rw [zlc (c:=t3) (by decide) (by grind)]; rfl
  have e4: zaw z 4=[1,1 - z,t2,t3,t4]:=by
    rw [zj0,e3]
    show [1,1 - z,t2,t3] ++ [((1 - z) * (1 * t3 + (3 * t2 + (4 * (1 - z) + (7 * 1 + 0))))) / 4]=_
    rw [zlc (c:=t4) (by decide) (by grind)]; rfl
  exact ⟨t2,t3,t4,h2.symm,h3.symm,h4.symm,e1,e2,e3,e4⟩
theorem zza (z: Int) {m: Nat} (hm: m=2 \/ m=3 \/ m=4) {n: Nat} (h1: 1<=n) (h2: n<=m): (zfh m z).2.getD n 0=(zaw z m).getD n 0 * zdo n ^ 2:=by
  obtain ⟨t2,t3,t4,h2',h3',h4',e1,e2,e3,e4⟩:=z0b z
  have f1: zdo 1=1:=by decide
  have f2: zdo 2=2:=by decide
  have f3: zdo 3=6:=by decide
  have f4: zdo 4=24:=by decide
  have hn: n=1 \/ n=2 \/ n=3 \/ n=4:=by lia
  rcases hm with rfl | rfl | rfl <;> rcases hn with rfl | rfl | rfl | rfl <;> (try lia) <;>
    simp only [z2l,z2m,z2n,e2,e3,e4,f1,f2,f3,f4,List.getD_cons_succ,List.getD_cons_zero,zbx,List.foldl_cons,List.foldl_nil] <;> grind
end Mine
namespace Mine
open PySem PySem.Builtin PySem.Builtin.Str PySem.Challenge PyProof.Rows
set_option maxRecDepth 10000
noncomputable abbrev zld: List PS:=[.asg 0 (.comp (.call (.glob "sum") [(.comp (.var 6) [(.mk [6] true (.plain (.call (.glob "range") [(.int 1),(.bin .Add (.var 5) (.int 1))])) [(.cmp .Eq (.bin .Mod (.var 5) (.var 6)) (.int 0))])])]) [(.mk [5] true (.plain (.call (.glob "range") [(.int 1),(.bin .Add (.var 1) (.int 1))])) [])]),.app 2 (.bin .FloorDiv (.bin .Mult (.bin .Sub (.int 1) (.var 3)) (.call (.glob "sum") [(.comp (.bin .Mult (.sub (.var 0) (.var 5)) (.subOwn 2 (.bin .Sub (.bin .Sub (.var 1) (.int 1)) (.var 5)))) [(.mk [5] true (.plain (.call (.glob "range") [(.var 1)])) [])])])) (.var 1))]
theorem zwj (d: Nat) (args: List PV): (G2 (d + 1)).fns "_law_terms" args=zei (G2 d) zfo zfp zka args:=rfl
theorem zwk: (List.range 10).all (fun k=>decide (sigN k<=1000))=true:=by decide +kernel
noncomputable abbrev rhoU (z: Int) (m: Nat) (T: List Int) (o0 o1: Option Slot): Rho:=[o0,o1,some (.own (T.map .int)),some (.val (.int z)),some (.val (.int (m: Int))),none,none]
theorem zs9 {d: Nat} {z: Int} {m n: Nat} (hz: bits (1 - z)<=64) (hn: n < 4) {o0 o1: Option Slot}: ∃ o0',zsl (G2 d) [1] true zld (.int ((1 + n: Nat): Int)) (rhoU z m (zaw z n) o0 o1)=some (.next (rhoU z m (zaw z (n + 1)) o0' (some (.val (.int ((1 + n: Nat): Int)))))):=by
  refine ⟨some (.val (.list ((List.range (n + 1)).map fun k=>.int ((sigN (1 + k): Nat): Int)))),?_⟩
  show zap (G2 d) zld (rhoU z m (zaw z n) o0 (some (.val (.int ((1 + n: Nat): Int)))))=_
  refine zad (zaz (v:=.list ((List.range (n + 1)).map fun k=>.int ((sigN (1 + k): Nat): Int))) ?_) ?_
  · refine zbz (l:=List.range (n + 1)) (mk:=fun (k: Nat)=>.int ((1 + k: Nat): Int)) ((zf1 (zbq _) (a:=1) (b:=1 + n + 1) rfl (zaf (zaa rfl) rfl rfl) (Nat.le_add_left _ _) (by lia)).trans (by rw [show 1 + n + 1 - 1=n + 1 from Nat.add_comm _ _])) (fun k hk=>?_) (by simp; exact Nat.le_of_lt (Nat.lt_of_lt_of_le ‹_› (by decide)))
    have hk':=List.mem_range.mp hk
    have hs: ((sigN (1 + k): Nat): Int)=((((List.range (1 + k)).filter fun d=>(1 + k) % (1 + d) == 0).map fun (d: Nat)=>((1 + d: Nat): Int))).sum:=by
      unfold sigN
      rw [<- zz8,List.filter_map,List.map_map]; rfl
    rw [hs]
    refine zrq (zrp d) ?_
    rw [List.map_map]
    refine zik (l:=List.range (1 + k)) (mk:=fun (j: Nat)=>.int ((1 + j: Nat): Int)) ((zf1 (zbq _) (a:=1) (b:=1 + k + 1) rfl (zaf (zaa rfl) rfl rfl) (Nat.le_add_left _ _) (by lia)).trans (by rw [show 1 + k + 1 - 1=1 + k by lia])) (fun j hj=>?_) (fun j hj _=>zaa rfl) (by simp; lia)
    refine zav (zaf (zaa rfl) (zaa rfl) (zrh (a:=1 + k) (b:=1 + j) (Nat.le_add_right _ _))) rfl ?_
    show some (((((1 + k) % (1 + j): Nat)): Int) == ((0: Nat): Int))=_
    rw [tdf]
    congr 1
  refine zad (zzz (xs:=(zaw z n).map .int) (y:=.int (((1 - z) * ((List.range (n + 1)).map fun k=>((sigN (1 + k): Nat): Int) * (zaw z n).getD (n - k) 0).sum) / ((n + 1: Nat): Int))) rfl ?_ (by rw [List.length_map,zlb]; exact Nat.lt_of_le_of_lt ‹_› (by decide))) ?_
  · refine zaf (y:=.int ((1 + n: Nat): Int)) (zaf (zaf rfl (zaa rfl) rfl) (zrq (zrp d) (l:=(List.range (n + 1)).map fun k=>((sigN (1 + k): Nat): Int) * (zaw z n).getD (n - k) 0) ?_) (zjq (.inl hz))) (zaa rfl) ?_
    · rw [List.map_map]
      refine zbz (l:=List.range (n + 1)) (mk:=fun (k: Nat)=>.int (k: Int)) (zdb (zbq _) (n:=n + 1) (zaa (by show some (some (Slot.val (PV.int ((1 + n: Nat): Int))))=_; rw [Nat.add_comm])) (Nat.le_trans ‹_› (by decide))) (fun k hk=>?_) (by simp; exact Nat.le_of_lt (Nat.lt_of_lt_of_le ‹_› (by decide)))
      have hk':=List.mem_range.mp hk
      have hsg:=of_decide_eq_true (List.all_eq_true.mp zwk (1 + k) (List.mem_range.mpr (by lia)))
      refine zaf (za9 (z:=.int ((sigN (1 + k): Nat): Int)) (zaa rfl) (zaa rfl) (zce (by lia) ?_)) (zu8 (y:=.int ((n - k: Nat): Int)) (z:=.int ((zaw z n).getD (n - k) 0)) (zaf (x:=.int (n: Int)) (zaf (zaa rfl) rfl ?_) (zaa rfl) ?_) rfl (zce (by lia) (zjg (by rw [zlb]; lia)))) (zjq (.inl ?_))
      · rw [List.getElem?_map,List.getElem?_range hk']; rfl
      · show some (PV.int (((1 + n: Nat): Int) - 1))=_
        congr 2; lia
      · show some (PV.int ((n: Int) - (k: Int)))=_
        congr 2; lia
      · exact Nat.le_trans (zcu (k:=20) (Nat.lt_of_le_of_lt ‹_› (by decide))) (by decide)
    · rw [zlw (by lia) (Nat.le_trans (zcu (n:=1 + n) (k:=20) (by lia)) (by decide))]
      rw [Nat.add_comm 1 n]
  · have e: (zaw z n).map PV.int ++ [.int (((1 - z) * ((List.range (n + 1)).map fun k=>((sigN (1 + k): Nat): Int) * (zaw z n).getD (n - k) 0).sum) / ((n + 1: Nat): Int))]=(zaw z (n + 1)).map PV.int:=by
      rw [zj0,List.map_append]; rfl
    rw [e]; rfl
theorem zta {d: Nat} {z: Int} {m: Nat} (hz: bits (1 - z)<=64): ∀ (n j: Nat) (o0 o1: Option Slot),j + n<=4 ->
    ∃ o0' o1',zfx (G2 d) [1] true zld ((List.range' j n).map fun (k: Nat)=>.int ((1 + k: Nat): Int)) (rhoU z m (zaw z j) o0 o1)=some (.next (rhoU z m (zaw z (j + n)) o0' o1')):=by
  intro zz
  induction zz with
  | zero=>exact fun j o0 o1 _=>⟨o0,o1,rfl⟩
  | succ n ih=>
    intro j o0 o1 h
    obtain ⟨p0,e⟩:=zs9 (d:=d) (z:=z) (m:=m) (n:=j) hz (by lia) (o0:=o0) (o1:=o1)
    obtain ⟨q0,q1,e'⟩:=ih (j + 1) p0 (some (.val (.int ((1 + j: Nat): Int)))) (by lia)
    rw [show j + 1 + n=j + (n + 1) by lia] at e'
    exact ⟨q0,q1,(zci e).trans e'⟩
theorem zwl (d: Nat) {z: Int} {m: Nat} (hz: bits (1 - z)<=64) (hm: m<=4): (G2 (d + 1)).fns "_law_terms" [.int (m: Int),.int z]=some (.list ((zaw z m).map .int)):=by
  rw [zwj]
  refine zby rfl ?_
  refine zad (zku (v:=.list [.int 1]) (s:=.own ((zaw z 0).map .int)) rfl rfl) ?_
  obtain ⟨q0,q1,e⟩:=zta (d:=d) (z:=z) (m:=m) hz m 0 none none (by lia)
  rw [<- List.range_eq_range',Nat.zero_add] at e
  refine zad (zid ((zf1 (zbq _) (a:=1) (b:=m + 1) rfl (zaf (zaa rfl) rfl rfl) (Nat.le_add_left _ _) (Nat.lt_of_le_of_lt ‹_› (by decide))).trans (by rw [Nat.add_sub_cancel])) rfl e) ?_
  refine zad (zd2 rfl) ?_
  exact zay (zcj (zaa rfl))
end Mine
namespace Mine
open PySem
noncomputable def hor (y: Int): List Int -> Int
  | []=>0
  | c :: r=>c + y * hor y r
theorem horE: (∀ y,hor y []=0)/\(∀ y c r,hor y (c :: r)=c + y * hor y r):=⟨fun _=>rfl,fun _ _ _=>rfl⟩
noncomputable def lele: List Int -> List Int -> Bool
  | [],b=>b.all fun x=>decide (0<=x)
  | _ :: _,[]=>false
  | x :: a,y :: b=>decide (x<=y) && lele a b
theorem z0c {y: Int} (hy: 0<=y) (b: List Int) (h: b.all (fun x=>decide (0<=x))=true): 0<=hor y b:=by
  induction b with
  | nil=>exact Int.le_refl 0
  | cons c r ih=>
    rw [List.all_cons,Bool.and_eq_true] at h
    exact Int.add_nonneg (of_decide_eq_true h.1) (Int.mul_nonneg hy (ih h.2))
theorem zpe {y: Int} (hy: 0<=y): ∀ a b: List Int,lele a b=true -> hor y a<=hor y b
  | [],b,h=>z0c hy b h
  | _ :: _,[],h=>Bool.noConfusion h
  | x :: a,z :: b,h=>by
    obtain ⟨h1,h2⟩:=Bool.and_eq_true_iff.mp h
    exact Int.add_le_add (of_decide_eq_true h1) (Int.mul_le_mul_of_nonneg_left (zpe hy a b h2) hy)
theorem zwm {y: Int} (hy: 0<=y) {x z: Int} {a b: List Int} (h1: x < z) (h2: lele a b=true): hor y (x :: a) < hor y (z :: b):=Int.add_lt_add_of_lt_of_le h1 (Int.mul_le_mul_of_nonneg_left (zpe hy a b h2) hy)
theorem zqn {y: Int} (hy: 0<=y) {z: Int} {b: List Int} (h1: 0 < z) (h2: lele [] b=true): 0 < hor y (z :: b):=Int.lt_of_lt_of_le h1 (Int.le_add_of_nonneg_right (Int.mul_nonneg hy (z0c hy b h2)))
theorem z5x {x: Int} (hx: 16<=x): 0 < 1 * (x ^ 1 - 1) * (x ^ 2 - 1)/\x ^ 5 / (1 * (x ^ 1 - 1) * (x ^ 2 - 1))=x^2 + x + 2:=by
  obtain ⟨y,hy,rfl⟩: ∃ y: Int,0<=y/\x=y + 16:=⟨x - 16,Int.sub_nonneg.mpr hx,(Int.sub_add_cancel x 16).symm⟩
  have hp: 1 * ((y + 16) ^ 1 - 1) * ((y + 16) ^ 2 - 1)=hor y [3825,735,47,1]:=by simp only [horE]; grind
  have hr: (y + 16) ^ 5=((y + 16)^2 + (y + 16) + 2) * (1 * ((y + 16) ^ 1 - 1) * ((y + 16) ^ 2 - 1)) + hor y [526,65,2]:=by rw [hp]; simp only [horE]; grind
  exact ⟨hp ▸ zqn hy (by decide) (by decide),(zf0 hr (zpe hy [] _ (by decide)) (hp ▸ zwm hy (by decide) (by decide))).1⟩
theorem z5y {x: Int} (hx: 16<=x): 0 < 1 * (x ^ 1 - 1) * (x ^ 2 - 1) * (x ^ 3 - 1)/\x ^ 9 / (1 * (x ^ 1 - 1) * (x ^ 2 - 1) * (x ^ 3 - 1))=x^3 + x^2 + 2*x + 3:=by
  obtain ⟨y,hy,rfl⟩: ∃ y: Int,0<=y/\x=y + 16:=⟨x - 16,Int.sub_nonneg.mpr hx,(Int.sub_add_cancel x 16).symm⟩
  have hp: 1 * ((y + 16) ^ 1 - 1) * ((y + 16) ^ 2 - 1) * ((y + 16) ^ 3 - 1)=hor y [15663375,5947425,940545,79296,3759,95,1]:=by simp only [horE]; grind
  have hr: (y + 16) ^ 9=((y + 16)^3 + (y + 16)^2 + 2*(y + 16) + 3) * (1 * ((y + 16) ^ 1 - 1) * ((y + 16) ^ 2 - 1) * ((y + 16) ^ 3 - 1)) + hor y [4250611,1325439,165276,10302,321,4]:=by rw [hp]; simp only [horE]; grind
  exact ⟨hp ▸ zqn hy (by decide) (by decide),(zf0 hr (zpe hy [] _ (by decide)) (hp ▸ zwm hy (by decide) (by decide))).1⟩
theorem z5z {x: Int} (hx: 16<=x): 0 < 1 * (x ^ 1 - 1) * (x ^ 2 - 1) * (x ^ 3 - 1) * (x ^ 4 - 1)/\x ^ 14 / (1 * (x ^ 1 - 1) * (x ^ 2 - 1) * (x ^ 3 - 1) * (x ^ 4 - 1))=x^4 + x^3 + 2*x^2 + 3*x + 5:=by
  obtain ⟨y,hy,rfl⟩: ∃ y: Int,0<=y/\x=y + 16:=⟨x - 16,Int.sub_nonneg.mpr hx,(Int.sub_add_cancel x 16).symm⟩
  have hp: 1 * ((y + 16) ^ 1 - 1) * ((y + 16) ^ 2 - 1) * ((y + 16) ^ 3 - 1) * ((y + 16) ^ 4 - 1)=hor y [1026499280625,646393233375,183140171775,30744253440,3386507424,255754242,13411328,482176,11375,159,1]:=by simp only [horE]; grind
  have hr: (y + 16) ^ 14=((y + 16)^4 + (y + 16)^3 + 2*(y + 16)^2 + 3*(y + 16) + 5) * (1 * ((y + 16) ^ 1 - 1) * ((y + 16) ^ 2 - 1) * ((y + 16) ^ 3 - 1) * ((y + 16) ^ 4 - 1)) + hor y [424035894811,237866880194,59298024646,8622272644,805892738,50211352,2085435,55676,867,6]:=by rw [hp]; simp only [horE]; grind
  exact ⟨hp ▸ zqn hy (by decide) (by decide),(zf0 hr (zpe hy [] _ (by decide)) (hp ▸ zwm hy (by decide) (by decide))).1⟩
end Mine
namespace Mine
open PySem PySem.Builtin PySem.Builtin.Str PySem.Challenge PyProof.Rows
set_option maxRecDepth 10000
theorem za7 {a b: Int}: bits (a * b)<=bits a + bits b:=by
  refine zch ?_
  rw [Int.natAbs_mul,Nat.pow_add]
  exact Nat.mul_lt_mul'' (zhj a) (zhj b)
theorem zle (k: Nat): bits ((2: Int) ^ k)=k + 1:=by
  have h0:=p2 k
  rw [zfz (Int.ne_of_gt ‹_›),zmn,Nat.log2_two_pow]
theorem zjr {x: Int} {k: Nat} (h1: 2 ^ k<=x): k + 1<=bits x:=by
  have h0:=p2 k
  have hx: 0 < x:=by lia
  have h2:=zc1 (Int.le_of_lt hx)
  rcases Nat.lt_or_ge k (bits x) with h | h
  · exact h
  · exact absurd (Int.lt_of_le_of_lt h1 (Int.lt_of_lt_of_le h2 (zfc h))) (Int.lt_irrefl _)
theorem zf4 (N: Nat): ∀ l: List Int,(∀ x ∈ l,0<=x) -> 0<=numberOf N l:=by
  intro zz
  induction zz with
  | nil=>intro _; simp [zca]
  | cons x r ih=>
    intro h
    have h1:=ih fun y hy=>h y (List.mem_cons_of_mem _ hy)
    have h2:=h x List.mem_cons_self
    have h3:=Int.mul_nonneg h1 (Int.le_of_lt (p2 N))
    simp only [zca,Int.toNat_natCast]; lia
theorem zqo (N: Nat): ∀ l: List Int,(∀ x ∈ l,0<=x/\x < 2 ^ N) -> figs N (numberOf N l) l.length=l:=by
  intro zz
  induction zz with
  | nil=>exact fun _=>rfl
  | cons x r ih=>
    intro h
    have hx:=h x List.mem_cons_self
    have ih:=ih fun y hy=>h y (List.mem_cons_of_mem _ hy)
    have hd:=zf0 (a:=numberOf N r * 2 ^ N + x) (b:=2 ^ N) rfl hx.1 hx.2
    simp only [zca,Int.toNat_natCast,List.length_cons,zqc]
    rw [hd.1,hd.2,ih]
theorem zlf (N: Nat): ∀ l: List Int,(∀ x ∈ l,0<=x/\x < 2 ^ N) -> numberOf N l < 2 ^ (N * l.length)
  | [],_=>by simp [zca]
  | x :: r,h=>by
    have hx:=h x List.mem_cons_self
    have ih:=zlf N r fun y hy=>h y (List.mem_cons_of_mem _ hy)
    simp only [zca,Int.toNat_natCast,List.length_cons]
    have e: (2: Int) ^ (N * (r.length + 1))=2 ^ (N * r.length) * 2 ^ N:=by rw [Nat.mul_succ,Int.pow_add]
    rw [e]
    have:=Int.mul_le_mul_of_nonneg_right (show numberOf N r + 1<=2 ^ (N * r.length) from ‹_›) (Int.le_of_lt (p2 N))
    rw [Int.add_mul,Int.one_mul] at this
    lia
theorem zpf (N: Nat) (y: Int) (hy: 1<=y): ∀ l: List Int,(∀ x ∈ l,0<=x) -> 2 ^ (N * l.length)<=numberOf N (l ++ [y]):=by
  intro zz
  induction zz with
  | nil=>intro _; simp [zca]; assumption
  | cons x r ih=>
    intro h
    have hx:=h x List.mem_cons_self
    have ih:=ih fun z hz=>h z (List.mem_cons_of_mem _ hz)
    simp only [List.cons_append,zca,Int.toNat_natCast,List.length_cons]
    have e: (2: Int) ^ (N * (r.length + 1))=2 ^ (N * r.length) * 2 ^ N:=by rw [Nat.mul_succ,Int.pow_add]
    rw [e]
    have:=Int.mul_le_mul_of_nonneg_right ih (Int.le_of_lt (p2 N))
    lia
theorem znq {N: Nat} (hN: 1<=N) {l: List Int} {y: Int} (hl: ∀ x ∈ l,0<=x/\x < 2 ^ N) (hy: 1<=y) (hy2: y < 2 ^ N): digitsOf (numberOf N (l ++ [y])) N=l ++ [y]:=by
  have hall: ∀ x ∈ l ++ [y],0<=x/\x < 2 ^ N:=fun x hx=>by
    rcases List.mem_append.mp hx with hx | hx
    · exact hl x hx
    · obtain rfl:=List.mem_singleton.mp hx; exact ⟨(Int.le_of_lt ‹_›),hy2⟩
  have h0:=zf4 N (l ++ [y]) fun x hx=>(hall x hx).1
  have h1:=zlf N _ hall
  have h2:=zjr (zpf N y hy l fun x hx=>(hl x hx).1)
  have h3:=zas h0 h1
  rw [List.length_append,List.length_singleton,Nat.mul_succ] at h3
  rw [zc2 h0]
  have hc: (bits (numberOf N (l ++ [y])) + N - 1) / N=(l ++ [y]).length:=by
    rw [List.length_append,List.length_singleton]
    have e1: N * (l.length + 1)=N * l.length + N:=by rw [Nat.mul_succ]
    have e2: N * (l.length + 1 + 1)=N * l.length + N + N:=by rw [Nat.mul_succ,Nat.mul_succ]
    apply Nat.div_eq_of_lt_le
    · rw [Nat.mul_comm,e1]; lia
    · rw [Nat.mul_comm,e2]; lia
  rw [hc,zqo N _ hall]
theorem zqp {N: Nat} (hN: 1<=N): digitsOf 0 N=[]:=by
  rw [zc2 (Int.le_refl 0),zkz,show (0 + N - 1) / N=0 from Nat.div_eq_of_lt (by lia)]; rfl
theorem ztb (N: Nat): ∀ s: Nat,numberOf N (List.replicate s 0 ++ [1])=2 ^ (N * s):=by
  intro zz
  induction zz with
  | zero=>simp [zca]
  | succ s ih=>
    rw [List.replicate_succ,List.cons_append]
    simp only [zca,ih,Int.toNat_natCast]
    rw [Nat.mul_succ,Int.pow_add]; lia
theorem ztc {B: Nat}: ∀ (l: List Int) (a: Int) (A: Nat),bits a<=A -> (∀ x ∈ l,bits x<=B) -> A + (l.length + 1) * B<=134217728 -> zfa a l=true:=by
  intro zz
  induction zz with
  | nil=>exact fun _ _ _ _ _=>rfl
  | cons x r ih=>
    intro a A ha h hs
    have hx:=h x List.mem_cons_self
    rw [List.length_cons,Nat.succ_mul] at hs
    rw [z1q]
    rw [ih (a * x) (A + B) (Nat.le_trans za7 (by lia)) (fun y hy=>h y (List.mem_cons_of_mem _ hy)) (by lia)]
    unfold zc0
    have hq: Builtin.Int.intBits a + Builtin.Int.intBits x<=134217728:=by
      have h1: Builtin.Int.intBits a<=A:=ha
      have h2: Builtin.Int.intBits x<=B:=hx
      have: B<=(r.length + 1) * B:=Nat.le_mul_of_pos_left _ (Nat.le_add_left _ _)
      lia
    rw [decide_eq_true hq]; simp
theorem zzb: ∀ l: List Int,PyData.eqvAll (l.map .int) (l.map .int)=true:=by
  intro zz
  induction zz with
  | nil=>exact rfl
  | cons b l ih=>
    have ih:=ih
    simp only [List.map_cons]
    unfold PyData.eqvAll
    rw [ih]
    simp [PyData.eqv]
theorem zwn (l: List Int): (l.map PV.int).mapM zj4=some (l.map PyData.int):=by
  induction l with
  | nil=>rfl
  | cons b l ih=>rw [List.map_cons,List.mapM_cons,ih]; rfl
theorem z2o (l: List Int): cmpV .NotEq (.list (l.map .int)) (.list (l.map .int))=some false:=by
  show (eqP (.list (l.map .int)) (.list (l.map .int))).map (!·)=_
  show (((l.map PV.int).mapM zj4).bind fun x=>((l.map PV.int).mapM zj4).map fun y=>PyData.eqvAll x y).map (!·)=_
  rw [zwn,Option.bind_some,Option.map_some,zzb]; rfl
theorem ne_int {a: Int}: cmpV .NotEq (.int a) (.int a)=some false:=by
  show (some (a == a)).map (!·)=_
  simp
theorem z4v {α: Type} (xs: List α): zdd xs none (some 60) none=xs.take 60:=by
  unfold zdd
  have hb: sliceBounds none (some 60) none xs.length=(0,((min 60 xs.length: Nat): Int),1):=by
    unfold sliceBounds
    simp only [Option.getD_none,show (1: Int) > 0 from by decide,if_true,show ¬ ((60: Int) < 0) by decide,if_false]
    congr 2
    exact zkw 60 xs.length
  rw [hb]
  have hi:=zig (A:=(0: Int)) (B:=((min 60 xs.length: Nat): Int)) (a:=0) (b:=min 60 xs.length) rfl rfl
  show (sliceRange 0 ((min 60 xs.length: Nat): Int) 1).filterMap (xs[·]?)=_
  rw [hi,List.filterMap_map]
  have hc: ∀ c,(List.range c).filterMap ((fun x=>xs[x]?) ∘ fun k=>0 + k)=xs.take c:=fun c=>by
    induction c with
    | zero=>simp
    | succ c ih=>
      rw [List.range_succ,List.filterMap_append,ih,List.take_add_one]
      cases h: xs[c]? <;> simp [h]
  rw [hc,Nat.sub_zero]
  rw [<- List.take_take,List.take_of_length_le (Nat.le_refl xs.length)]
noncomputable def zju (a b s: Nat): Nat:=(Builtin.Range.rangeSize (a: Int) (b: Int) (s: Int)).toNat
theorem ztd (a b s: Nat): zan (a: Int) (b: Int) (s: Int)=(List.range (zju a b s)).map fun k=>.int ((a + k * s: Nat): Int):=by
  unfold zan zju
  apply List.map_congr_left
  intro k _
  simp
theorem znr {a b s: Nat} (hs: 0 < s) {k: Nat} (hk: k < zju a b s): a + k * s < b:=by
  unfold zju Builtin.Range.rangeSize at hk
  rw [if_pos (show (s: Int) > 0 from Int.ofNat_lt.mpr hs)] at hk
  split at hk
  · have h1: (k: Int)<=((b: Int) - a - 1) / s:=Int.le_of_lt_add_one (Int.lt_toNat.mp hk)
    have h2:=Int.mul_le_mul_of_nonneg_right h1 (show (0: Int)<=s from Int.natCast_nonneg _)
    have h3:=Int.ediv_mul_le ((b: Int) - a - 1) (show (s: Int) ≠ 0 by lia)
    have h4: ((a + k * s: Nat): Int) < (b: Int):=by
      rw [Int.natCast_add,Int.natCast_mul]; lia
    exact Int.ofNat_lt.mp h4
  · simp at hk
theorem zrw {a b s: Nat} (hs: 0 < s): zju a b s<=b:=by
  rcases Nat.eq_zero_or_pos (zju a b s) with h | h
  · rw [h]; exact Nat.zero_le _
  · have h1:=znr (a:=a) (b:=b) hs (k:=zju a b s - 1) (Nat.sub_lt h Nat.one_pos)
    have h2: zju a b s - 1<=(zju a b s - 1) * s:=Nat.le_mul_of_pos_right _ hs
    exact Nat.le_trans (Nat.le_of_eq (Nat.sub_add_cancel h).symm) (Nat.lt_of_le_of_lt (Nat.le_trans h2 (Nat.le_add_left _ a)) h1)
noncomputable def sgnN (n: Int): Int:=if n > 0 then n % 10 ^ 12 else -(-n % 10 ^ 12)
theorem zwp (n: Int): (sgnN n).natAbs<=10 ^ 12:=by
  unfold sgnN
  have h1:=Int.emod_nonneg n (show (10 ^ 12: Int) ≠ 0 by decide)
  have h2:=Int.emod_lt_of_pos n (show (0: Int) < 10 ^ 12 by decide)
  have h3:=Int.emod_nonneg (-n) (show (10 ^ 12: Int) ≠ 0 by decide)
  have h4:=Int.emod_lt_of_pos (-n) (show (0: Int) < 10 ^ 12 by decide)
  have nn: ∀ {x: Int},0<=x -> x < 10 ^ 12 -> x.natAbs<=10 ^ 12:=fun h0 h=>Int.ofNat_le.mp (by rw [Int.natAbs_of_nonneg h0]; exact Int.le_of_lt h)
  split
  · exact nn h1 h2
  · rw [Int.natAbs_neg]; exact nn h3 h4
noncomputable def sgL (ns: List Int): List Int:=(ns.take 60).map sgnN
noncomputable def zbh (sg: List Int) (slot: Nat): Int:=((List.range (zju slot sg.length 5)).map fun k=>sg.getD (slot + k * 5) 0).sum
theorem zwq {l: List Int} {B: Nat} (h: ∀ x ∈ l,x.natAbs<=B): l.sum.natAbs<=l.length * B:=by
  induction l with
  | nil=>simp
  | cons a l ih=>
    have h1:=ih fun x hx=>h x (List.mem_cons_of_mem _ hx)
    have h2:=h a List.mem_cons_self
    have h3:=Int.natAbs_add_le a l.sum
    rw [List.sum_cons,List.length_cons,Nat.succ_mul]; lia
theorem zte (ns: List Int) (slot: Nat): (zbh (sgL ns) slot).natAbs<=60 * 10 ^ 12:=by
  unfold zbh
  have hl: (sgL ns).length<=60:=by unfold sgL; rw [List.length_map,List.length_take]; exact Nat.min_le_left _ _
  have hc:=zrw (a:=slot) (b:=(sgL ns).length) (s:=5) (by decide)
  refine Nat.le_trans (zwq (B:=10 ^ 12) fun x hx=>?_) ?_
  · obtain ⟨k,hk,rfl⟩:=List.mem_map.mp hx
    have hlt:=znr (by decide) (List.mem_range.mp hk)
    rw [List.getD_eq_getElem?_getD,List.getElem?_eq_getElem hlt]
    show ((sgL ns)[slot + k * 5]).natAbs<=_
    have hm: ∀ x ∈ sgL ns,x.natAbs<=10 ^ 12:=fun x hx=>by
      unfold sgL at hx
      obtain ⟨n,_,rfl⟩:=List.mem_map.mp hx
      exact zwp n
    exact hm _ (List.getElem_mem hlt)
  · rw [List.length_map,List.length_range]
    exact Nat.mul_le_mul_right _ (Nat.le_trans ‹_› ‹_›)
noncomputable abbrev zlg (o24 o25 o26: Option Slot) (ns: List Int): Rho:=List.replicate 24 none ++ [o24,o25,o26,some (.val (.list (ns.map .int))),none,none,none]
noncomputable def zwr: List (Nat × Int):=[(0,1),(1,8086),(2,271828),(3,25),(4,4805772)]
theorem zzc {d: Nat} (ns: List Int): zap (G2 d) (zkb.take 3) (zlg none none none ns) =
    some (.next (zlg (some (.val (.int ((2 + (1 + zbh (sgL ns) 0) % 3: Int))))) (some (.val (.list [.int (1 + zbh (sgL ns) 0),.int (8086 + zbh (sgL ns) 1),.int (271828 + zbh (sgL ns) 2),.int (25 + zbh (sgL ns) 3),.int (4805772 + zbh (sgL ns) 4)]))) (some (.val (.list ((sgL ns).map .int)))) ns)):=by
  have hl: (sgL ns).length<=60:=by unfold sgL; rw [List.length_map,List.length_take]; lia
  refine zad (zaz (v:=.list ((sgL ns).map .int)) ?_) ?_
  · unfold sgL
    rw [List.map_map]
    refine zbz (l:=ns.take 60) (mk:=PV.int) (g:=fun n=>.int (sgnN n)) ?_ (fun n _=>?_) (by rw [List.length_take]; lia)
    · refine zfd ?_
      have h1: zdd (ns.map PV.int) none (some 60) none=(ns.take 60).map PV.int:=by rw [z4v,List.map_take]
      have h2: zq1 (.list (ns.map PV.int)) none (some 60)=some (.list ((ns.take 60).map PV.int)):=by
        show (if zak (zdd (ns.map PV.int) none (some 60) none).length=true then some (PV.list (zdd (ns.map PV.int) none (some 60) none)) else none)=_
        rw [h1,if_pos (szok (by rw [List.length_map,List.length_take]; lia))]
      simp only [eE,pE,Option.bind_some]
      rw [show valAt (zlg none none none ns) 27=some (.list (ns.map PV.int)) from rfl]
      simp only [Option.bind_some,vE,Option.map_some,h2]
    · have hpow: zag (G2 d) (.bin .Pow (.int 10) (.int 12)) (setR (zlg none none none ns) 28 (.val (.int n)))=some (.int (10 ^ 12)):=zaf rfl rfl (znm (a:=10) (n:=12) (by
        have: bits 10<=4:=zch (by decide)
        exact Nat.le_add_left _ _))
      unfold sgnN
      by_cases hn: n > 0
      · rw [if_pos hn]
        exact zdj (c:=true) (zav (zaa rfl) rfl (by show some (decide (0 < n))=_; rw [decide_eq_true hn])) (zaf (zaa rfl) hpow (zgo (by decide)))
      · rw [if_neg hn]
        exact zdj (c:=false) (zav (zaa rfl) rfl (by show some (decide (0 < n))=_; rw [decide_eq_false hn])) (zos (zaf (zos (zaa rfl)) hpow (zgo (by decide))))
  have hcell: ∀ (slot: Nat) (v: Int),slot < 5 -> zag (G2 d) (.bin .Add (.var 29) (.call (.glob "sum") [(.comp (.sub (.var 26) (.var 30)) [(.mk [30] true (.plain (.call (.glob "range") [(.var 28),(.call (.glob "len") [(.var 26)]),(.int 5)])) [])])]))
      (setR (setR (zlg none none (some (.val (.list ((sgL ns).map .int)))) ns) 28 (.val (.int (slot: Int)))) 29 (.val (.int v)))=some (.int (v + zbh (sgL ns) slot)):=fun slot v hs=>by
    have hc:=zrw (a:=slot) (b:=(sgL ns).length) (s:=5) (by decide)
    refine zaf (zaa rfl) (zrq (zrp d) (l:=(List.range (zju slot (sgL ns).length 5)).map fun k=>(sgL ns).getD (slot + k * 5) 0) ?_) rfl
    rw [List.map_map]
    refine zbz (l:=List.range (zju slot (sgL ns).length 5)) (mk:=fun (k: Nat)=>.int ((slot + k * 5: Nat): Int)) ?_ (fun k hk=>?_) (by rw [List.length_range]; lia)
    · have hr: zag (G2 d) (.call (.glob "range") [(.var 28),(.call (.glob "len") [(.var 26)]),(.int 5)]) (setR (setR (zlg none none (some (.val (.list ((sgL ns).map .int)))) ns) 28 (.val (.int (slot: Int)))) 29 (.val (.int v)))=some (.range (slot: Int) ((sgL ns).length: Nat) ((5: Nat): Int)):=by
        have hlen:=zp9 (G:=G2 d) (l:=(sgL ns).map PV.int) (ρ:=setR (setR (zlg none none (some (.val (.list ((sgL ns).map .int)))) ns) 28 (.val (.int (slot: Int)))) 29 (.val (.int v))) (zih d) (zaa (k:=26) rfl)
        rw [List.length_map] at hlen
        refine zao (zal (zbq d)) (zac (zaa rfl) (zac hlen (zac rfl zai))) ?_
        exact z0i (zjb (Int.natCast_nonneg _) (by lia) (Int.natCast_nonneg _) (by lia) (Int.natCast_nonneg _) (Int.natCast_nonneg _))
      simp only [pE,hr,Option.bind_some]
      show some (zan (slot: Int) (((sgL ns).length: Nat): Int) ((5: Nat): Int))=_
      rw [ztd]
    · have hlt:=znr (by decide) (List.mem_range.mp hk)
      exact za9 (zaa rfl) (zaa rfl) (zce (by lia) (zjg hlt))
  refine zad (zaz (v:=.list [.int (1 + zbh (sgL ns) 0),.int (8086 + zbh (sgL ns) 1),.int (271828 + zbh (sgL ns) 2),.int (25 + zbh (sgL ns) 3),.int (4805772 + zbh (sgL ns) 4)]) ?_) ?_
  · have:=zev (G:=G2 d) (ts:=[28,29]) (single:=false) (it:=.enum (.tuple [(.int 1),(.int 8086),(.int 271828),(.int 25),(.int 4805772)])) (ifs:=[]) (gs:=[]) (ρ:=zlg none none (some (.val (.list ((sgL ns).map .int)))) ns)
      (elt:=.bin .Add (.var 29) (.call (.glob "sum") [(.comp (.sub (.var 26) (.var 30)) [(.mk [30] true (.plain (.call (.glob "range") [(.var 28),(.call (.glob "len") [(.var 26)]),(.int 5)])) [])])]))
      (items:=zwr.map fun (q: Nat × Int)=>.tuple [.int (q.1: Int),.int q.2]) (ls:=zwr.map fun (q: Nat × Int)=>[.int (q.2 + zbh (sgL ns) q.1)]) (by rfl) (by rfl) (zk5 fun q hq=>by
        have hq5: q.1 < 5:=by
          have: zwr.all (fun q=>decide (q.1 < 5))=true:=by decide
          exact of_decide_eq_true (List.all_eq_true.mp this q hq)
        simp only [znd,zbb,Bool.false_eq_true,if_false,vE,pE,Option.bind_some,if_true]
        rw [hcell q.1 q.2 hq5]; rfl)
    exact zne this (by simp)
  refine zad (zaz (zaf rfl (zaf (za9 (zaa rfl) rfl rfl) rfl (zgo (by decide))) rfl)) ?_
  exact zbc
theorem zpg {a b: Int} (ha: 0 < a) (hb: 0 < b): bits a + bits b<=bits (a * b) + 1:=by
  have h1:=zi9 ha
  have h2:=zi9 hb
  have p1:=zd9 ha
  have p2':=zd9 hb
  have h3: (2: Int) ^ (bits a - 1 + (bits b - 1))<=a * b:=by
    rw [Int.pow_add]
    exact Int.mul_le_mul h1 h2 (Int.le_of_lt (p2 _)) (Int.le_of_lt ha)
  have:=zjr h3
  have e: bits a + bits b=bits a - 1 + (bits b - 1) + 1 + 1:=by rw [Nat.add_right_comm (bits a - 1),Nat.sub_add_cancel p1,Nat.add_assoc,Nat.sub_add_cancel p2']
  rw [e]
  exact Nat.succ_le_succ this
theorem zb3 {z: Int} (hz: z.natAbs<=60 * 10 ^ 12 + 100) {k: Nat} (hk: k<=100): bits ((k: Int) - z)<=46:=by
  have h:=Int.natAbs_add_le (k: Int) (-z)
  rw [Int.natAbs_neg,Int.natAbs_natCast,<- Int.sub_eq_add_neg] at h
  exact zch (Nat.lt_of_le_of_lt h (Nat.lt_of_le_of_lt (Nat.add_le_add hk hz) (by decide)))
theorem zns {t P: Int} {c: Nat} (hc: 1<=c) (h: (c: Int) * t=P): bits t<=bits P:=by
  refine zgg ?_
  rw [<- h,Int.natAbs_mul,Int.natAbs_natCast]
  exact Nat.le_mul_of_pos_left _ hc
structure z2p (z: Int) (m n: Nat): Prop where
  id': (zfh m z).2.getD n 0=(zaw z m).getD n 0 * zdo n ^ 2
  f1: 1<=zdo n
  fb: bits (zdo n)<=5
  sb: bits ((zfh m z).2.getD n 0)<=50 * bits (zdo n ^ 2)
  tb: bits ((zaw z m).getD n 0)<=300
  sl: n < (zfh m z).2.length
  tl: n < (zaw z m).length
theorem z4w {z: Int} (hz: z.natAbs<=60 * 10 ^ 12 + 100) {m: Nat} (hm: m=2 \/ m=3 \/ m=4) {n: Nat} (h1: 1<=n) (h2: n<=m): z2p z m n:=by
  have b1:=zb3 hz (k:=1) (by decide)
  have b2:=zb3 hz (k:=2) (by decide)
  have b4:=zb3 hz (k:=4) (by decide)
  have b9:=zb3 hz (k:=9) (by decide)
  have b15:=zb3 hz (k:=15) (by decide)
  simp only [Int.cast_ofNat_Int] at b1 b2 b4 b9 b15
  have hid:=zza z hm h1 h2
  obtain ⟨t2,t3,t4,h2',h3',h4',e1,e2,e3,e4⟩:=z0b z
  have f1: zdo 1=1:=by decide
  have f2: zdo 2=2:=by decide
  have f3: zdo 3=6:=by decide
  have f4: zdo 4=24:=by decide
  have h12: bits ((1 - z) * (2 - z))<=92:=Nat.le_trans za7 (Nat.add_le_add b1 b2)
  have B2: bits t2<=92:=Nat.le_trans (zns (c:=2) (by decide) h2') (Nat.le_trans za7 (Nat.add_le_add b1 b4))
  have B3: bits t3<=138:=Nat.le_trans (zns (c:=6) (by decide) h3') (Nat.le_trans za7 (Nat.add_le_add h12 b9))
  have B4: bits t4<=184:=Nat.le_trans (zns (c:=24) (by decide) h4') (Nat.le_trans za7 (Nat.add_le_add (Nat.le_trans za7 (Nat.add_le_add h12 b4)) b15))
  have g1: bits ((1: Int) ^ 2)=1:=by decide
  have g2: bits ((2: Int) ^ 2)=3:=by decide
  have g3: bits ((6: Int) ^ 2)=6:=by decide
  have g4: bits ((24: Int) ^ 2)=10:=by decide
  have hterm: (n=1 -> (zaw z m).getD n 0=1 - z)/\(n=2 -> (zaw z m).getD n 0=t2)/\(n=3 -> (zaw z m).getD n 0=t3)/\(n=4 -> (zaw z m).getD n 0=t4):=by
    rcases hm with rfl | rfl | rfl
    · rw [e2]
      exact ⟨fun h=>by subst h; rfl,fun h=>by subst h; rfl,fun h=>by lia,fun h=>by lia⟩
    · rw [e3]
      exact ⟨fun h=>by subst h; rfl,fun h=>by subst h; rfl,fun h=>by subst h; rfl,fun h=>by lia⟩
    · rw [e4]
      exact ⟨fun h=>by subst h; rfl,fun h=>by subst h; rfl,fun h=>by subst h; rfl,fun h=>by subst h; rfl⟩
  have hsl: (zfh m z).2.length=m + 1:=by
    rcases hm with rfl | rfl | rfl
    · rw [z2l]; rfl
    · rw [z2m]; rfl
    · rw [z2n]; rfl
  have hn: n=1 \/ n=2 \/ n=3 \/ n=4:=by lia
  have fin: ∀ (t f: Int),(zaw z m).getD n 0=t -> zdo n=f -> 1<=f -> bits f<=5 -> bits t<=300 -> bits t + bits (f ^ 2)<=50 * bits (f ^ 2) -> z2p z m n:=fun t f ht hf k1 k2 k3 k4=>{
    id':=hid
    f1:=by rw [hf]; exact k1
    fb:=by rw [hf]; exact k2
    sb:=by
      rw [hid,ht,hf]
      exact Nat.le_trans za7 k4
    tb:=by rw [ht]; exact k3
    sl:=by rw [hsl]; lia
    tl:=by rw [zlb]; lia }
  rcases hn with rfl | rfl | rfl | rfl
  · exact fin _ _ (hterm.1 rfl) f1 (by decide) (by decide) (Nat.le_trans ‹_› (by decide)) (by rw [g1]; exact Nat.lt_of_le_of_lt ‹_› (by decide))
  · exact fin _ _ (hterm.2.1 rfl) f2 (by decide) (by decide) (Nat.le_trans ‹_› (by decide)) (by rw [g2]; lia)
  · exact fin _ _ (hterm.2.2.1 rfl) f3 (by decide) (by decide) (Nat.le_trans ‹_› (by decide)) (by rw [g3]; lia)
  · exact fin _ _ (hterm.2.2.2 rfl) f4 (by decide) (by decide) (Nat.le_trans ‹_› (by decide)) (by rw [g4]; lia)
noncomputable abbrev zqq: List PS:=[.asgT [13,12] (.sub (.list [(.tuple [(.int 1),(.int 1)]),(.tuple [(.int 1),(.neg (.int 1))]),(.tuple [(.neg (.int 1)),(.int 1)]),(.tuple [(.neg (.int 1)),(.neg (.int 1))])]) (.bin .Mod (.bin .Add (.sub (.var 25) (.int 4)) (.var 14)) (.int 4))),.asg 11 (.bin .Mult (.bin .Pow (.call (.glob "_law_product") [(.call (.glob "range") [(.int 1),(.bin .Add (.var 14) (.int 1))])]) (.int 2)) (.var 15)),.asg 10 (.bin .Mod (.bin .FloorDiv (.sub (.var 25) (.int 4)) (.int 960000)) (.var 11)),.asg 9 (.bin .Mult (.var 13) (.bin .Add (.bin .Mult (.bin .Mult (.sub (.var 18) (.var 14)) (.var 15)) (.var 11)) (.var 10))),.asg 8 (.call (.glob "int_divmod") [(.bin .Mult (.var 13) (.bin .Add (.bin .Mult (.sub (.var 19) (.var 14)) (.bin .Pow (.var 15) (.int 2))) (.var 10))),(.bin .Mult (.var 12) (.var 11))]),.ite (.or [(.cmp .NotEq (.var 8) (.tuple [(.bin .FloorDiv (.var 9) (.bin .Mult (.var 12) (.var 11))),(.bin .Mod (.var 9) (.bin .Mult (.var 12) (.var 11)))])),(.cmp .NotEq (.comp (.cmp .Is (.call (.glob "type") [(.var 28)]) (.glob "int")) [(.mk [28] true (.plain (.var 8)) [])]) (.list [(.bool true),(.bool true)]))]) [.ret (.bool false)] []]
noncomputable abbrev rhoN (o8 o9 o10 o11 o12 o13 o14: Option Slot) (S: Int) (o16 o17: Option Slot) (T Su cnt: List Int) (o21 o22 o23: Option Slot) (m: Nat) (c0 c1 c2 c3 c4: Int) (o26 o27: Option Slot): Rho:=
  [none,none,none,none,none,none,none,none,o8,o9,o10,o11,o12,o13,o14,some (.val (.int S)),o16,o17,some (.val (.list (T.map .int))),some (.val (.list (Su.map .int))),some (.val (.list (cnt.map .int))),o21,o22,o23,some (.val (.int (m: Int))),some (.val (.list [.int c0,.int c1,.int c2,.int c3,.int c4])),o26,o27,none,none,none]
noncomputable def z0d: List (Int × Int):=[(1,1),(1,-1),(-1,1),(-1,-1)]
theorem z2q (d: Nat): (G2 d).gv "type" = some (.ty "type"):=by rw [zcf]; rfl
theorem z4x (d: Nat): (G2 d).gv "int" = some (.ty "int"):=by rw [zcf]; rfl
theorem zrx {e x: Int} (he: e=1 \/ e = -1): (e * x).natAbs=x.natAbs:=by
  rcases he with rfl | rfl <;> simp
theorem zf5 {e x: Int} (he: e=1 \/ e = -1): bits (e * x)=bits x:=by
  exact Nat.le_antisymm (zgg (Nat.le_of_eq (zrx he))) (zgg (Nat.le_of_eq (zrx he).symm))
theorem zws {sn f s D B: Nat} (h1: sn<=50 * f) (h2: f + s<=D + 1) (h4: 1<=s) (h5: B<=max (sn + 2 * s) D + 1) (h6: 0 < D): B + D - 1 < 65 * D:=by
  have hf: f<=D:=Nat.le_of_add_le_add_right (Nat.le_trans (Nat.add_le_add_left h4 f) h2)
  have hm: max (sn + 2 * s) D<=52 * D:=Nat.max_le.mpr ⟨by lia,Nat.le_mul_of_pos_left D (by decide)⟩
  exact Nat.lt_of_le_of_lt (Nat.sub_le _ _) (by lia)
theorem zim {e: Int} (he: e=1 \/ e = -1): bits e=1:=by rcases he with rfl | rfl <;> decide
theorem zzd {d: Nat} {z: Int} {m n: Nat} (ok: z2p z m n) (hn: n<=4) (h1: 1<=n) {S: Int} (hS: 1<=S) (hSb: bits S<=4200) {c0 c1 c2 c3 c4: Int} {cnt: List Int} {o16 o17 o21 o22 o23 o26 o27: Option Slot} (v: Nat -> Option Slot) :
    ∃ w: Nat -> Option Slot,zsl (G2 (d + 14)) [14] true zqq (.int (n: Int)) (rhoN (v 0) (v 1) (v 2) (v 3) (v 4) (v 5) (v 6) S o16 o17 (zaw z m) (zfh m z).2 cnt o21 o22 o23 m c0 c1 c2 c3 c4 o26 o27) =
      some (.next (rhoN (w 0) (w 1) (w 2) (w 3) (w 4) (w 5) (w 6) S o16 o17 (zaw z m) (zfh m z).2 cnt o21 o22 o23 m c0 c1 c2 c3 c4 o26 o27)):=by
  obtain ⟨hid,f1,fb,sb,tb,sl,tl⟩:=ok
  have hsn:=zjg sl
  have htn:=zjg tl
  generalize (zfh m z).2.getD n 0=sn at *
  generalize (zaw z m).getD n 0=tn at *
  obtain ⟨j,hj,hj4⟩: ∃ j: Nat,(c4 + (n: Int)) % 4=(j: Int)/\j < 4:=modN _ 4 (by decide)
  obtain ⟨e1,e2,hes,u1,u2⟩: ∃ e1 e2: Int,(z0d.map fun (q: Int × Int)=>PV.tuple [.int q.1,.int q.2])[j]? = some (.tuple [.int e1,.int e2])/\(e1=1 \/ e1 = -1)/\(e2=1 \/ e2 = -1):=by
    rcases lt4 hj4 with rfl | rfl | rfl | rfl
    · exact ⟨1,1,rfl,.inl rfl,.inl rfl⟩
    · exact ⟨1,-1,rfl,.inl rfl,.inr rfl⟩
    · exact ⟨-1,1,rfl,.inr rfl,.inl rfl⟩
    · exact ⟨-1,-1,rfl,.inr rfl,.inr rfl⟩
  have hF2: 0 < zdo n ^ 2:=Int.pow_pos f1
  have hD: 0 < zdo n ^ 2 * S:=Int.mul_pos hF2 hS
  have hF2b: bits (zdo n ^ 2)<=10:=by
    rw [Int.pow_succ,Int.pow_succ,Int.pow_zero,Int.one_mul]
    exact Nat.le_trans za7 (Nat.add_le_add fb fb)
  have hDb: bits (zdo n ^ 2 * S)<=4210:=Nat.le_trans za7 (Nat.add_le_add hF2b hSb)
  obtain ⟨D,hDe⟩: ∃ D,D=zdo n ^ 2 * S:=⟨_,rfl⟩
  have hDge:=zpg hF2 hS
  rw [<- hDe] at hD hDb hDge
  have hFp:=zd9 hF2
  have hSp:=zd9 (x:=S) hS
  obtain ⟨R,hR⟩: ∃ R,R=c4 / 960000 % D:=⟨_,rfl⟩
  have hR0: 0<=R:=by rw [hR]; exact Int.emod_nonneg _ (Int.ne_of_gt hD)
  have hR1: R < D:=by rw [hR]; exact Int.emod_lt_of_pos _ hD
  have hRb: bits R<=bits D:=zew hR0 (Int.le_of_lt hR1)
  have hSS: bits (S ^ 2)<=2 * bits S:=by
    rw [Int.pow_succ,Int.pow_succ,Int.pow_zero,Int.one_mul]
    exact Nat.le_trans za7 (Nat.le_of_eq (Nat.two_mul _).symm)
  have hAe: tn * S * D + R=sn * S ^ 2 + R:=by rw [hid,hDe]; grind
  have hA1: bits (sn * S ^ 2)<=bits sn + 2 * bits S:=Nat.le_trans za7 (Nat.add_le_add_left hSS _)
  have hA: bits (sn * S ^ 2 + R)<=max (bits sn + 2 * bits S) (bits D) + 1:=zfg (Nat.le_trans hA1 (Nat.le_max_left _ _)) (Nat.le_trans hRb (Nat.le_max_right _ _))
  obtain ⟨B,hB⟩: ∃ B,B=sn * S ^ 2 + R:=⟨_,rfl⟩
  rw [<- hB] at hA hAe
  have hb0: e2 * D ≠ 0:=Int.mul_ne_zero (by rcases u2 with rfl | rfl <;> decide) (Int.ne_of_gt hD)
  have hidv:=idiv (d:=d + 9) (m:=1) (a:=e1 * B) (b:=e2 * D) (Nat.le_add_left _ _) (Nat.le_add_left _ _) hb0 (by rw [zf5 u2]; exact Nat.le_trans ‹_› (by decide)) (by rw [zf5 u2]; exact Nat.le_trans ‹_› (by decide)) (by
    rw [zf5 u1,zf5 u2]
    have hDp: 0 < bits D:=zd9 hD
    exact Nat.le_of_lt_succ ((Nat.div_lt_iff_lt_mul hDp).mpr (zws sb hDge hSp hA hDp)))
  refine ⟨slots [some (.val (.tuple [.int ((e1 * B).fdiv (e2 * D)),.int ((e1 * B).fmod (e2 * D))])),some (.val (.int (e1 * B))),some (.val (.int R)),some (.val (.int D)),some (.val (.int e2)),some (.val (.int e1)),some (.val (.int (n: Int)))],?_⟩
  show zap (G2 (d + 14)) zqq (rhoN (v 0) (v 1) (v 2) (v 3) (v 4) (v 5) (some (.val (.int (n: Int)))) S o16 o17 (zaw z m) (zfh m z).2 cnt o21 o22 o23 m c0 c1 c2 c3 c4 o26 o27)=_
  refine zad (zcn (xs:=[.int e1,.int e2]) (za9 (x:=.list (z0d.map fun (q: Int × Int)=>PV.tuple [.int q.1,.int q.2])) rfl (zaf (zaf (za9 (zaa rfl) rfl rfl) (zaa rfl) rfl) rfl (by rw [zgo (by decide),hj])) (zce (Nat.le_trans ‹_› (by decide)) hes)) rfl) ?_
  refine zad (zaz (v:=.int D) (zaf (zaf (x:=.int (zdo n)) (y:=.int ((2: Nat): Int)) (zao (zal (zf3 _ (by decide +kernel) (by rfl))) (zac (zij (zbq _) (a:=1) (b:=n + 1) rfl (zaf (zaa rfl) rfl rfl) (Nat.le_add_left _ _) (Nat.lt_of_le_of_lt ‹_› (by decide))) zai) (zff (d + 13) (l:=(List.range n).map fun k=>((1 + k: Nat): Int)) ?_ ?_)) rfl (znm (by lia))) (zaa rfl) (by rw [hDe]; exact zja (by lia)))) ?_
  · show some (zan ((1: Nat): Int) ((n + 1: Nat): Int) 1)=_
    rw [zd3,List.map_map,Nat.add_sub_cancel]; rfl
  · intro v hv
    obtain ⟨k,hk,rfl⟩:=List.mem_map.mp hv
    have:=List.mem_range.mp hk
    exact Nat.le_trans (zcu (k:=20) (by lia)) (by decide)
  refine zad (zaz (v:=.int R) (zaf (zaf (za9 (zaa rfl) rfl rfl) rfl (zlw (by decide) (Nat.le_trans (zas (k:=40) (by decide) (by decide)) (by decide)))) (zaa rfl) (by rw [zgo hD,<- hR]))) ?_
  refine zad (zaz (v:=.int (e1 * B)) (zaf (y:=.int B) (zaa rfl) (zaf (x:=.int (tn * S * D)) (zaf (zaf (za9 (zaa rfl) (zaa rfl) (zce (Nat.lt_of_le_of_lt ‹_› (by decide)) htn)) (zaa rfl) (zja (by lia))) (zaa rfl) (zja (by have:=za7 (a:=tn) (b:=S); lia))) (zaa rfl) (by show some (PV.int (tn * S * D + R))=_; rw [hAe])) (zja (by rw [zim u1]; lia)))) ?_
  refine zad (zaz (zao (zal (zo2 _)) (zac (zaf (y:=.int B) (zaa rfl) (zaf (x:=.int (sn * S ^ 2)) (zaf (za9 (zaa rfl) (zaa rfl) (zce (Nat.lt_of_le_of_lt ‹_› (by decide)) hsn)) (zaf (y:=.int ((2: Nat): Int)) (zaa rfl) rfl (znm (by lia))) (zja (by lia))) (zaa rfl) (by rw [hB]; rfl)) (zja (by rw [zim u1]; lia))) (zac (zaf (zaa rfl) (zaa rfl) (zja (by rw [zim u2]; lia))) zai)) hidv)) ?_
  have hpy: Builtin.divisionGoesByPylong (e1 * B) (e2 * D)=false:=zk4 (by rw [zf5 u2]; exact Nat.le_trans ‹_› (by decide))
  have hb12: ∀ ρ: Rho,ρ[12]? = some (some (.val (.int e2))) -> ρ[11]? = some (some (.val (.int D))) -> zag (G2 (d + 14)) (.bin .Mult (.var 12) (.var 11)) ρ=some (.int (e2 * D)):=fun ρ g1 g2=>zaf (zaa g1) (zaa g2) (zja (by rw [zim u2]; lia))
  refine zad (zcs (c:=false || false) (zva (zav (y:=.tuple [.int ((e1 * B).fdiv (e2 * D)),.int ((e1 * B).fmod (e2 * D))]) (zaa rfl) (zbv (zac (zaf (zaa rfl) (hb12 _ rfl rfl) ?_) (zac (zaf (zaa rfl) (hb12 _ rfl rfl) ?_) zai))) zz9) fun _=>zav (x:=.list ([true,true].map .bool)) (y:=.list ([true,true].map .bool)) ?_ rfl (zrm _)) zbc) zbc
  · show (if e2 * D=0 then none else if Builtin.divisionGoesByPylong (e1 * B) (e2 * D)=true then none else some (PV.int _))=_
    rw [if_neg hb0,hpy]; rfl
  · show (if e2 * D=0 then none else some (PV.int _))=_
    rw [if_neg hb0]
  · refine zbz (l:=[(e1 * B).fdiv (e2 * D),(e1 * B).fmod (e2 * D)]) (mk:=PV.int) (g:=fun _=>.bool true) rfl (fun v _=>zot (zao (zal (z2q _)) (zac (zaa rfl) zai) rfl) (zal (z4x _)) (by show some ("int" == "int")=_; rfl)) (by simp)
noncomputable def cnts: Nat -> List Int
  | 2=>[1,1,2]
  | 3=>[1,1,2,3]
  | _=>[1,1,2,3,5]
theorem z2r (z: Int) {m: Nat} (hm: m=2 \/ m=3 \/ m=4): (zfh m z).1=cnts m:=by
  rcases hm with rfl | rfl | rfl
  · rw [z2l]; rfl
  · rw [z2m]; rfl
  · rw [z2n]; rfl
noncomputable def zex (m: Nat): Nat:=m * (m + 3) / 2
noncomputable def powL (w m: Nat): List Int:=(List.range m).map fun k=>2 ^ (w * (1 + k)) - 1
theorem z4y {w: Nat} (hw: 4<=w) {m: Nat} (hm: m=2 \/ m=3 \/ m=4): 0 < zbx (powL w m)/\(2: Int) ^ (w * zex m) / zbx (powL w m)=numberOf w (cnts m).reverse:=by
  have hx: (16: Int)<=2 ^ w:=by
    have:=zfc hw
    have e: (2: Int) ^ 4=16:=by decide
    assumption
  have hk: ∀ k: Nat,(2: Int) ^ (w * k)=(2 ^ w) ^ k:=fun k=>Int.pow_mul ..
  rcases hm with rfl | rfl | rfl
  · have:=z5x hx
    have e1: zbx (powL w 2)=1 * ((2 ^ w) ^ 1 - 1) * ((2 ^ w) ^ 2 - 1):=by
      show 1 * (2 ^ (w * (1 + 0)) - 1) * (2 ^ (w * (1 + 1)) - 1)=_
      rw [hk,hk]
    have e2: numberOf w (cnts 2).reverse=(2 ^ w) ^ 2 + 2 ^ w + 2:=by
      show (((0 * 2 ^ (w: Int).toNat + 1) * 2 ^ (w: Int).toNat + 1) * 2 ^ (w: Int).toNat + 2: Int)=_
      rw [Int.toNat_natCast]; grind
    rw [e1,e2,hk]; exact this
  · have:=z5y hx
    have e1: zbx (powL w 3)=1 * ((2 ^ w) ^ 1 - 1) * ((2 ^ w) ^ 2 - 1) * ((2 ^ w) ^ 3 - 1):=by
      show 1 * (2 ^ (w * (1 + 0)) - 1) * (2 ^ (w * (1 + 1)) - 1) * (2 ^ (w * (1 + 2)) - 1)=_
      rw [hk,hk,hk]
    have e2: numberOf w (cnts 3).reverse=(2 ^ w) ^ 3 + (2 ^ w) ^ 2 + 2 * 2 ^ w + 3:=by
      show ((((0 * 2 ^ (w: Int).toNat + 1) * 2 ^ (w: Int).toNat + 1) * 2 ^ (w: Int).toNat + 2) * 2 ^ (w: Int).toNat + 3: Int)=_
      rw [Int.toNat_natCast]; grind
    rw [e1,e2,hk]; exact this
  · have:=z5z hx
    have e1: zbx (powL w 4)=1 * ((2 ^ w) ^ 1 - 1) * ((2 ^ w) ^ 2 - 1) * ((2 ^ w) ^ 3 - 1) * ((2 ^ w) ^ 4 - 1):=by
      show 1 * (2 ^ (w * (1 + 0)) - 1) * (2 ^ (w * (1 + 1)) - 1) * (2 ^ (w * (1 + 2)) - 1) * (2 ^ (w * (1 + 3)) - 1)=_
      rw [hk,hk,hk,hk]
    have e2: numberOf w (cnts 4).reverse=(2 ^ w) ^ 4 + (2 ^ w) ^ 3 + 2 * (2 ^ w) ^ 2 + 3 * 2 ^ w + 5:=by
      show (((((0 * 2 ^ (w: Int).toNat + 1) * 2 ^ (w: Int).toNat + 1) * 2 ^ (w: Int).toNat + 2) * 2 ^ (w: Int).toNat + 3) * 2 ^ (w: Int).toNat + 5: Int)=_
      rw [Int.toNat_natCast]; grind
    rw [e1,e2,hk]; exact this
structure Figs (w: Nat) (v: Int) (f: List Int): Prop where
  pos: 0<=v
  dig: digitsOf v w=f
  num: numberOf w f=v
  len: f.length<=64
  bit: ∀ x ∈ f,bits x<=1000000
noncomputable abbrev zwt: List PS:=[.ite (.or [(.cmp .NotEq (.call (.glob "_int2digits") [(.var 1),(.var 7)]) (.var 0)),(.cmp .NotEq (.call (.glob "_digits2int") [(.var 0),(.var 7)]) (.var 1))]) [.ret (.bool false)] []]
theorem zze {d w: Nat} (hw: 1<=w) (hw2: w<=1000000) {tl: Rho} {o2 o3 o4 o5 o6: Option Slot}: ∀ (l: List (Int × List Int)) (o0 o1: Option Slot),(∀ q ∈ l,Figs w q.1 q.2) ->
    ∃ o0' o1',zfx (G2 (d + 14)) [1,0] false zwt (l.map fun q=>.tuple [.int q.1,.list (q.2.map .int)]) (o0 :: o1 :: o2 :: o3 :: o4 :: o5 :: o6 :: some (.val (.int (w: Int))) :: tl)=some (.next (o0' :: o1' :: o2 :: o3 :: o4 :: o5 :: o6 :: some (.val (.int (w: Int))) :: tl)):=by
  intro zz
  induction zz with
  | nil=>exact fun o0 o1 _=>⟨o0,o1,rfl⟩
  | cons zq l ih=>
    obtain ⟨v,f⟩:=zq
    intro o0 o1 h
    obtain ⟨k1,k2,k3,k4,k5⟩:=h (v,f) List.mem_cons_self
    obtain ⟨q0,q1,e⟩:=ih (some (.val (.list (f.map .int)))) (some (.val (.int v))) fun q hq=>h q (List.mem_cons_of_mem _ hq)
    refine ⟨q0,q1,(zci ?_).trans e⟩
    show zap (G2 (d + 14)) zwt (some (.val (.list (f.map .int))) :: some (.val (.int v)) :: o2 :: o3 :: o4 :: o5 :: o6 :: some (.val (.int (w: Int))) :: tl)=_
    have h1:=zrj (d:=d + 13) (a:=v) (n:=w) k1 hw hw2 (by rw [k2]; exact k4) (Nat.le_add_left _ _)
    rw [k2] at h1
    have h2:=zrk (d:=d + 13) (l:=f) (n:=w) hw hw2 k4 k5 (Nat.le_add_left _ _)
    rw [k3] at h2
    exact zad (zcs (c:=false || false) (zva (zav (zao (zal (zz1 _)) (zac (zaa rfl) (zac (zaa rfl) zai)) h1) (zaa rfl) (z2o f)) fun _=>zav (zao (zal (zz2 _)) (zac (zaa rfl) (zac (zaa rfl) zai)) h2) (zaa rfl) ne_int) zbc) zbc
theorem ztf: ∀ m: Nat,m=2 \/ m=3 \/ m=4 -> ∃ l,(cnts m).reverse=l ++ [1]/\(l.all fun x=>decide (0<=x/\x < 16))=true/\l.length=m:=by
  intro m hm
  rcases hm with rfl | rfl | rfl
  · exact ⟨[2,1],rfl,by decide,rfl⟩
  · exact ⟨[3,2,1],rfl,by decide,rfl⟩
  · exact ⟨[5,3,2,1],rfl,by decide,rfl⟩
theorem zry {w: Nat} (hw: 4<=w) {l: List Int} (hl: (l.all fun x=>decide (0<=x/\x < 16))=true) (hn: l.length<=60): Figs w (numberOf w (l ++ [1])) (l ++ [1]):=by
  have hx: (16: Int)<=2 ^ w:=by
    have:=zfc hw
    have e: (2: Int) ^ 4=16:=by decide
    assumption
  have hl': ∀ x ∈ l,0<=x/\x < 16:=fun x hx=>of_decide_eq_true (List.all_eq_true.mp hl x hx)
  exact {
    pos:=zf4 w _ fun x hx=>by
      rcases List.mem_append.mp hx with hx | hx
      · exact (hl' x hx).1
      · obtain rfl:=List.mem_singleton.mp hx; decide
    dig:=znq (by lia) (fun x hx=>⟨(hl' x hx).1,by have:=(hl' x hx).2; lia⟩) (by decide) (by lia)
    num:=rfl
    len:=by simp; exact Nat.le_trans ‹_› (by decide)
    bit:=fun x hx=>by
      refine Nat.le_trans (zas (k:=5) ?_ ?_) (by decide)
      · rcases List.mem_append.mp hx with hx | hx
        · exact (hl' x hx).1
        · obtain rfl:=List.mem_singleton.mp hx; decide
      · rcases List.mem_append.mp hx with hx | hx
        · have:=(hl' x hx).2
          have e: (2: Int) ^ 5=32:=by decide
          lia
        · obtain rfl:=List.mem_singleton.mp hx; decide }
theorem zwu {w m: Nat} (hw: w<=2263) (hm: m<=4): ∀ x ∈ powL w m,bits x<=10000:=fun x hx=>by
  unfold powL at hx
  obtain ⟨k,hk,rfl⟩:=List.mem_map.mp hx
  have hk':=List.mem_range.mp hk
  have h0:=p2 (w * (1 + k))
  have h1: bits ((2: Int) ^ (w * (1 + k)) - 1)<=w * (1 + k):=zas (by lia) (by lia)
  have h2: w * (1 + k)<=2263 * 4:=Nat.mul_le_mul hw (by lia)
  lia
theorem zzf {d: Nat} {m: Nat} (hm: m=2 \/ m=3 \/ m=4) {T Su: List Int} {S: Int} {big: Bool} {c0 c1 c2 c3 c4: Int} {o8 o9 o10 o11 o12 o13 o14 o16 o21 o22 o23 o26 o27: Option Slot} :
    zap (G2 (d + 14)) (zkb.drop 11) (rhoN o8 o9 o10 o11 o12 o13 o14 S o16 (some (.val (.bool big))) T Su (cnts m) o21 o22 o23 m c0 c1 c2 c3 c4 o26 o27)=some (.ret (.bool true)):=by
  obtain ⟨w,hw4,hw2,hwe⟩: ∃ w: Nat,4<=w/\w<=2263/\(w: Int)=4 + c4 % 60 + (if big then 2200 else 0):=by
    obtain ⟨j,hj,hj60⟩: ∃ j: Nat,c4 % 60=(j: Int)/\j < 60:=modN _ 60 (by decide)
    rw [hj]
    cases big
    · exact ⟨4 + j,Nat.le_add_right _ _,Nat.le_trans (Nat.add_le_add_left (Nat.le_of_lt hj60) 4) (by decide),(Int.add_zero _).symm⟩
    · exact ⟨4 + j + 2200,Nat.le_trans (Nat.le_add_right 4 j) (Nat.le_add_right _ _),Nat.add_le_add_right (Nat.add_le_add_left (Nat.le_of_lt_succ hj60) 4) 2200,rfl⟩
  obtain ⟨hP,hQ⟩:=z4y hw4 hm
  have hm4: m<=4:=by lia
  obtain ⟨l,hl1,hl2,hl3⟩:=ztf m hm
  have hf1:=zry hw4 hl2 (by lia)
  rw [<- hl1] at hf1
  have hf2:=zry (w:=w) hw4 (l:=List.replicate (zex m) 0) (by rw [List.all_replicate]; split <;> rfl) (by
    rw [List.length_replicate]
    rcases hm with rfl | rfl | rfl <;> decide)
  rw [ztb] at hf2
  have hf3: Figs w 0 []:=⟨Int.le_refl 0,zqp (by lia),rfl,by simp,fun x h=>by cases h⟩
  have hsz: zex m<=14/\m + 3<=zex m:=by rcases hm with rfl | rfl | rfl <;> decide
  have hws: w * zex m<=2263 * 14:=Nat.mul_le_mul hw2 hsz.1
  have hPb:=zwu hw2 hm4
  have hq1: 1<=numberOf w (cnts m).reverse:=by
    rw [hl1]
    have:=zpf w 1 (by decide) l fun x hx=>(of_decide_eq_true (List.all_eq_true.mp hl2 x hx)).1
    have:=p2 (w * l.length)
    lia
  have hq2: numberOf w (cnts m).reverse < 2 ^ (w * (m + 1)):=by
    have hx: (16: Int)<=2 ^ w:=by
      have:=zfc hw4
      have e: (2: Int) ^ 4=16:=by decide
      assumption
    have:=zlf w (cnts m).reverse fun x hx'=>by
      rw [hl1] at hx'
      rcases List.mem_append.mp hx' with hx' | hx'
      · have:=of_decide_eq_true (List.all_eq_true.mp hl2 x hx'); lia
      · obtain rfl:=List.mem_singleton.mp hx'; lia
    rw [hl1,List.length_append,List.length_singleton,hl3,<- hl1] at this
    exact this
  have hdm:=Int.mul_ediv_add_emod ((2: Int) ^ (w * zex m)) (zbx (powL w m))
  have hr0:=Int.emod_nonneg ((2: Int) ^ (w * zex m)) (show zbx (powL w m) ≠ 0 from Int.ne_of_gt ‹_›)
  have hr1:=Int.emod_lt_of_pos ((2: Int) ^ (w * zex m)) hP
  have hWb:=zle (w * zex m)
  obtain ⟨P,hPe⟩: ∃ P,P=zbx (powL w m):=⟨_,rfl⟩
  obtain ⟨q,hqe⟩: ∃ q,q=numberOf w (cnts m).reverse:=⟨_,rfl⟩
  obtain ⟨W,hWe⟩: ∃ W,W=(2: Int) ^ (w * zex m):=⟨_,rfl⟩
  rw [<- hPe,<- hqe,<- hWe] at hQ
  rw [<- hPe,<- hWe] at hdm hr0 hr1
  rw [<- hqe] at hq1 hq2 hf1
  rw [<- hWe] at hWb hf2
  rw [<- hPe] at hP
  rw [hQ] at hdm
  have hPW: P<=W:=by
    have:=Int.mul_le_mul_of_nonneg_left hq1 (Int.le_of_lt hP)
    rw [Int.mul_one] at this; lia
  have hPW': bits P<=w * zex m + 1:=hWb ▸ zew (Int.le_of_lt hP) hPW
  have hPge: w * 2<=bits P:=by
    have h1: W<=P * (q + 1):=by rw [Int.mul_add,Int.mul_one]; lia
    have h2: bits W<=bits (P * (q + 1)):=zew (by rw [hWe]; exact Int.le_of_lt (p2 _)) h1
    have h3: bits (P * (q + 1))<=bits P + bits (q + 1):=za7
    have h4: bits (q + 1)<=w * (m + 1) + 1:=by
      have:=zew (x:=2 ^ (w * (m + 1))) (y:=q + 1) (by lia) ‹_›
      rw [zle] at this; exact this
    have h5: w * (m + 3)<=w * zex m:=Nat.mul_le_mul_left _ hsz.2
    have h6: w * (m + 3)=w * (m + 1) + w * 2:=by rw [<- Nat.mul_add]
    lia
  have hidv:=idiv (d:=d + 9) (m:=3) (a:=W) (b:=P) (Nat.le_add_left _ _) (Nat.le_add_left _ _) (Int.ne_of_gt ‹_›) (by lia) (by lia) (by
    exact Nat.le_of_lt_succ ((Nat.div_lt_iff_lt_mul (by lia)).mpr (by have: w * zex m<=w * 14:=Nat.mul_le_mul_left _ hsz.1; lia)))
  rw [Int.fdiv_eq_ediv_of_nonneg _ (Int.le_of_lt hP),Int.fmod_eq_emod_of_nonneg _ (Int.le_of_lt hP),hQ] at hidv
  refine zad (zaz (v:=.int (w: Int)) ?_) ?_
  · refine zaf (zaf rfl (zaf (za9 (zaa rfl) rfl rfl) rfl (zgo (by decide))) rfl) (zdj (v:=.int (if big then 2200 else 0)) (zie rfl rfl) (by cases big <;> rfl)) ?_
    rw [hwe]; rfl
  refine zad (zaz (v:=.int (zex m: Nat)) ?_) ?_
  · refine zaf (zaf (x:=.int (m: Int)) (z:=.int ((m * (m + 3): Nat): Int)) (zaa rfl) (zaf (zaa rfl) rfl rfl) ?_) rfl ?_
    · rw [zjq (.inl (Nat.le_trans (zcu (n:=m) (k:=20) (Nat.lt_of_le_of_lt ‹_› (by decide))) (by decide)))]
      simp
    · rw [zlw (by decide) (by decide)]; rfl
  refine zad (zcn (xs:=[.int W,.int P]) (zbv (zac ?_ (zac ?_ zai))) rfl) ?_
  · rw [hWe]
    refine zaf (x:=.int 2) rfl (zaf (z:=.int ((w * zex m: Nat): Int)) (zaa rfl) (zaa rfl) ?_) (znm ?_)
    · rw [zjq (.inl (Nat.le_trans (zcu (n:=w) (k:=20) (Nat.lt_of_le_of_lt ‹_› (by decide))) (by decide)))]
      simp
    · have: bits 2=2:=by decide
      rw [this]; lia
  · rw [hPe]
    refine zao (zal (zf3 _ (by decide +kernel) (by rfl))) (zac (x:=.list ((powL w m).map .int)) ?_ zai) (zmi (d + 13) _ (powL w m) rfl (ztc (B:=10000) (powL w m) 1 1 (by decide) hPb (by
      have: (powL w m).length=m:=by unfold powL; simp
      rw [this]
      have: (m + 1) * 10000<=5 * 10000:=Nat.mul_le_mul_right _ (Nat.lt_of_le_of_lt ‹_› (by decide))
      lia)))
    unfold powL
    rw [List.map_map]
    refine zbz (l:=List.range m) (mk:=fun (k: Nat)=>.int ((1 + k: Nat): Int)) ((zf1 (zbq _) (a:=1) (b:=m + 1) rfl (zaf (zaa rfl) rfl rfl) (Nat.le_add_left _ _) (Nat.lt_of_le_of_lt ‹_› (by decide))).trans (by rw [show m + 1 - 1=m by lia])) (fun k hk=>?_) (by simp; exact Nat.le_trans ‹_› (by decide))
    have hk':=List.mem_range.mp hk
    refine zaf (zaf (x:=.int 2) rfl (zaf (z:=.int ((w * (1 + k): Nat): Int)) (zaa rfl) (zaa rfl) ?_) (znm ?_)) rfl rfl
    · rw [zjq (.inl (Nat.le_trans (zcu (n:=w) (k:=20) (Nat.lt_of_le_of_lt ‹_› (by decide))) (by decide)))]
      simp
    · have: bits 2=2:=by decide
      rw [this]
      have: w * (1 + k)<=2263 * 4:=Nat.mul_le_mul hw2 (by lia)
      lia
  refine zad (zcn (xs:=[.int q,.int (W % P)]) (zao (zal (zo2 _)) (zac (zaa rfl) (zac (zaa rfl) zai)) hidv) rfl) ?_
  refine zad (zcs (c:=false) (zav (x:=.int W) (zaf (x:=.int (q * P)) (zaf (zaa rfl) (zaa rfl) (zja ?_)) (zaa rfl) ?_) (zaa rfl) ne_int) zbc) ?_
  · have: bits q<=w * (m + 1):=zas (Int.le_of_lt ‹_›) hq2
    have: w * (m + 1)<=2263 * 5:=Nat.mul_le_mul hw2 (Nat.lt_of_le_of_lt ‹_› (by decide))
    lia
  · show some (PV.int (q * P + W % P))=_
    rw [Int.mul_comm q P,hdm]
  obtain ⟨f0,f1,e⟩:=zze (d:=d) (w:=w) (by lia) (Nat.le_trans ‹_› (by decide)) (o2:=some (.val (.int (W % P)))) (o3:=some (.val (.int q))) (o4:=some (.val (.int P))) (o5:=some (.val (.int W))) (o6:=some (.val (.int (zex m: Nat))))
    (tl:=[o8,o9,o10,o11,o12,o13,o14,some (.val (.int S)),o16,some (.val (.bool big)),some (.val (.list (T.map .int))),some (.val (.list (Su.map .int))),some (.val (.list ((cnts m).map .int))),o21,o22,o23,some (.val (.int (m: Int))),some (.val (.list [.int c0,.int c1,.int c2,.int c3,.int c4])),o26,o27,none,none,none])
    [(q,(cnts m).reverse),(W,List.replicate (zex m) 0 ++ [1]),(0,[])] none none (fun p hp=>by
      simp only [List.mem_cons,List.not_mem_nil,or_false] at hp
      rcases hp with rfl | rfl | rfl
      · rw [hl1] at hf1 ⊢; exact hl1 ▸ hf1
      · exact hf2
      · exact hf3)
  refine zad (zid (items:=[(q,(cnts m).reverse),(W,List.replicate (zex m) 0 ++ [1]),((0: Int),([]: List Int))].map fun (p: Int × List Int)=>PV.tuple [.int p.1,.list (p.2.map .int)]) ?_ rfl e) ?_
  · have hv: zag (G2 (d + 14)) (.tuple [(.tuple [(.var 3),(.rev (.var 20))]),(.tuple [(.var 5),(.bin .Add (.bin .Mult (.list [(.int 0)]) (.var 6)) (.list [(.int 1)]))]),(.tuple [(.int 0),(.list [])])]) (none :: none :: some (.val (.int (W % P))) :: some (.val (.int q)) :: some (.val (.int P)) :: some (.val (.int W)) :: some (.val (.int (zex m: Nat))) :: some (.val (.int (w: Int))) ::
        [o8,o9,o10,o11,o12,o13,o14,some (.val (.int S)),o16,some (.val (.bool big)),some (.val (.list (T.map .int))),some (.val (.list (Su.map .int))),some (.val (.list ((cnts m).map .int))),o21,o22,o23,some (.val (.int (m: Int))),some (.val (.list [.int c0,.int c1,.int c2,.int c3,.int c4])),o26,o27,none,none,none]) =
        some (.tuple ([(q,(cnts m).reverse),(W,List.replicate (zex m) 0 ++ [1]),((0: Int),([]: List Int))].map fun (p: Int × List Int)=>PV.tuple [.int p.1,.list (p.2.map .int)])):=by
      refine zbv (zac (zbv (zac (zaa rfl) (zac ?_ zai))) (zac (zbv (zac (zaa rfl) (zac ?_ zai))) (zac rfl zai)))
      · rcases hm with rfl | rfl | rfl <;> rfl
      · rcases hm with rfl | rfl | rfl <;> rfl
    show (zag _ _ _).bind zj6=_
    exact (congrArg (fun o=>Option.bind o zj6) hv).trans rfl
  exact zay (zcj rfl)
noncomputable def zj1: PV:=.list (zgy.map fun p=>.tuple [.lit (tx [p.1,p.2.1]),.lit (tx [p.2.2])])
theorem zzg {d: Nat} {z: Int} (hz: z.natAbs<=60 * 10 ^ 12 + 100) {m: Nat} (hm: m=2 \/ m=3 \/ m=4) {S: Int} (hS: 1<=S) (hSb: bits S<=4200) {c0 c1 c2 c3 c4: Int} {cnt: List Int} {o16 o17 o21 o22 o23 o26 o27: Option Slot}: ∀ (n j: Nat) (v: Nat -> Option Slot),j + n<=m ->
    ∃ w: Nat -> Option Slot,zfx (G2 (d + 14)) [14] true zqq ((List.range' j n).map fun (k: Nat)=>.int ((1 + k: Nat): Int)) (rhoN (v 0) (v 1) (v 2) (v 3) (v 4) (v 5) (v 6) S o16 o17 (zaw z m) (zfh m z).2 cnt o21 o22 o23 m c0 c1 c2 c3 c4 o26 o27) =
      some (.next (rhoN (w 0) (w 1) (w 2) (w 3) (w 4) (w 5) (w 6) S o16 o17 (zaw z m) (zfh m z).2 cnt o21 o22 o23 m c0 c1 c2 c3 c4 o26 o27)):=by
  intro zz
  induction zz with
  | zero=>exact fun j v _=>⟨v,rfl⟩
  | succ n ih=>
    intro j v h
    obtain ⟨u,e⟩:=zzd (d:=d) (n:=1 + j) (z4w hz hm (n:=1 + j) (Nat.le_add_right _ _) (by lia)) (by lia) (Nat.le_add_right _ _) hS hSb (c0:=c0) (c1:=c1) (c2:=c2) (c3:=c3) (c4:=c4) (cnt:=cnt) (o16:=o16) (o17:=o17) (o21:=o21) (o22:=o22) (o23:=o23) (o26:=o26) (o27:=o27) v
    obtain ⟨w,e'⟩:=ih (j + 1) u (by lia)
    exact ⟨w,(zci e).trans e'⟩
theorem zzh {d: Nat} {m: Nat} (hm: m=2 \/ m=3 \/ m=4) {c0 c1 c2 c3 c4: Int} (hz: c3.natAbs<=60 * 10 ^ 12 + 100) {o26 o27: Option Slot} :
    zap (G2 (d + 14)) (zkb.drop 4) (List.replicate 23 none ++ [some (.val zj1),some (.val (.int (m: Int))),some (.val (.list [.int c0,.int c1,.int c2,.int c3,.int c4])),o26,o27,none,none,none])=some (.ret (.bool true)):=by
  have hm4: m<=4:=by lia
  obtain ⟨j,hj,hj8⟩: ∃ j: Nat,c0 / 3 % 8=(j: Int)/\j < 8:=modN _ 8 (by decide)
  have hj8': j < zgy.length:=hj8
  obtain ⟨p,hp⟩: ∃ p,zgy[j]? = some p:=⟨_,List.getElem?_eq_getElem hj8'⟩
  have hpm:=List.mem_of_getElem? hp
  have hzb: bits c3<=50:=zch (by
    have: (2: Nat) ^ 50=1125899906842624:=by decide
    exact Nat.lt_of_le_of_lt ‹_› (by decide))
  have hz1: bits (1 - c3)<=64:=Nat.le_trans (zb3 hz (k:=1) (by decide)) (by decide)
  refine zad (zcn (xs:=[.lit (tx [p.1,p.2.1]),.lit (tx [p.2.2])]) (za9 (zaa rfl) (zaf (zaf (za9 (zaa rfl) rfl rfl) rfl (zlw (by decide) (by decide))) rfl (by rw [zgo (by decide),hj])) (zce (Nat.le_trans ‹_› (by decide)) (by rw [List.getElem?_map,hp]; rfl))) rfl) ?_
  refine zad (zcn (xs:=[.list ((zfh m c3).1.map .int),.list ((zfh m c3).2.map .int)]) (zao (zal (zf3 _ (by decide +kernel) (by rfl))) (zac (zaa rfl) (zac (zaa rfl) (zac (zaa rfl) (zac (zaa rfl) zai)))) (zy9 d hpm hm4 hzb)) rfl) ?_
  rw [z2r c3 hm]
  refine zad (zcs (c:=false) (zav (zaa rfl) rfl (by rcases hm with rfl | rfl | rfl <;> rfl)) zbc) ?_
  refine zad (zaz (v:=.list ((zaw c3 m).map .int)) (zao (zal (zf3 _ (by decide +kernel) (by rfl))) (zac (zaa rfl) (zac (za9 (zaa rfl) rfl rfl) zai)) (zwl (d + 13) hz1 hm4))) ?_
  obtain ⟨big,hbig⟩: ∃ big: Bool,big=(c4 / 60000 % 16 == 5):=⟨_,rfl⟩
  obtain ⟨u,hu⟩: ∃ u: Int,u=1 + c4 / 60 % 1000:=⟨_,rfl⟩
  have hu0: 1<=u:=by have:=Int.emod_nonneg (c4 / 60) (show (1000: Int) ≠ 0 by decide); lia
  have hu1: u<=1000:=by have:=Int.emod_lt_of_pos (c4 / 60) (show (0: Int) < 1000 by decide); lia
  have hneg1: bits (-1)<=4114:=by decide
  have h1024: (2: Int) ^ 10=1024:=by decide
  have hb2: bits 2=2:=by decide
  have hub: bits u<=10:=zas (Int.le_of_lt ‹_›) (by rw [h1024]; lia)
  refine zad (zcn (xs:=[.bool big,.int u]) (zbv (zac (zot (x:=.int (c4 / 60000 % 16)) (zaf (zaf (za9 (zaa rfl) rfl rfl) rfl (zlw (by decide) (by decide))) rfl (zgo (by decide))) rfl (by rw [hbig]; rfl)) (zac (zaf (y:=.int (c4 / 60 % 1000)) rfl (zaf (zaf (za9 (zaa rfl) rfl rfl) rfl (zlw (by decide) (by decide))) rfl (zgo (by decide))) (by rw [hu]; rfl)) zai))) rfl) ?_
  obtain ⟨Q,hQ⟩: ∃ Q: Int,Q=2 ^ 4103:=⟨_,rfl⟩
  have hQb: bits Q=4104:=by rw [hQ]; exact zle 4103
  have hQ0: 2<=Q:=by
    rw [hQ]
    exact zfc (m:=1) (n:=4103) (by decide)
  have hpw: binP .Pow (.int 2) (.int ((4103: Nat): Int))=some (.int Q):=by
    rw [hQ]
    exact znm (a:=2) (n:=4103) (by rw [hb2]; decide)
  obtain ⟨S,hS⟩: ∃ S: Int,S=if big then u * Q - 1 else u:=⟨_,rfl⟩
  have hS1: 1<=S:=by
    rw [hS]
    cases big
    · exact hu0
    · have h1:=Int.mul_le_mul_of_nonneg_right hu0 (show 0<=Q by lia)
      simp only [if_true]; lia
  have hSb: bits S<=4200:=by
    rw [hS]
    cases big
    · simp only [Bool.false_eq_true,if_false]; exact Nat.le_trans ‹_› (by decide)
    · have h1: bits (u * Q)<=bits u + bits Q:=za7
      have h2:=zfg (x:=u * Q) (y:=-1) (k:=4114) (by lia) hneg1
      rw [<- Int.sub_eq_add_neg] at h2
      simp only [if_true]; exact Nat.le_trans ‹_› (by decide)
  refine zad (zaz (v:=.int S) (zdj (c:=big) (zie rfl rfl) ?_)) ?_
  · rw [hS]
    cases big
    · exact zaa rfl
    · exact zaf (x:=.int (u * Q)) (zaf (zaa rfl) (zaf rfl rfl hpw) (zja (by lia))) rfl rfl
  obtain ⟨q,e⟩:=zzg (d:=d) hz hm hS1 hSb (c0:=c0) (c1:=c1) (c2:=c2) (c3:=c3) (c4:=c4) (cnt:=cnts m) (o16:=some (.val (.int u))) (o17:=some (.val (.bool big))) (o21:=some (.val (.lit (tx [p.2.2])))) (o22:=some (.val (.lit (tx [p.1,p.2.1])))) (o23:=some (.val zj1)) (o26:=o26) (o27:=o27) m 0 (fun _=>none) (by lia)
  rw [<- List.range_eq_range'] at e
  refine zad (zid ((zf1 (zbq _) (a:=1) (b:=m + 1) rfl (zaf (zaa rfl) rfl rfl) (Nat.le_trans ‹_› (by decide)) (Nat.lt_of_le_of_lt ‹_› (by decide))).trans (by rw [show m + 1 - 1=m by lia])) rfl e) ?_
  exact zzf hm
end Mine
namespace Mine
open PySem PySem.W PySem.Calls PyProof.Rows
structure z4z (c: CE) (d: DefRec) (as' asI: List Arg) (cI: CE) (bodyI: List Stmt) (scI: Scope) (pI: Pos): Prop where
  inn: zy3 cI asI bodyI scI
  fs: ze8 d.scope
  base: c.base=0
  hsc: ∀ x,c.sc.names.lookup x=d.scope.names.lookup x \/ c.sc.names.lookup x=none
  hpar: d.params = ⟨[],as',none,[],[],none,[]⟩
  hn: (as'.map (·.arg)).Nodup
  hp: Places c (as'.map (·.arg)) [0,1]
  di: idx c.σ (Str.ofString "digits")=some 0
  dk: c.sc.names.lookup (Str.ofString "digits")=some .cell
  ni: idx c.σ (Str.ofString "n")=some 1
  nk: c.sc.names.lookup (Str.ofString "n")=some .cell
  ik: c.sc.names.lookup (Str.ofString "inner")=none
  id': d.scope.names.lookup (Str.ofString "inner")=some .cell
  docI: docOf bodyI=none
  treeI: PlainDefTree (Str.ofString "inner") ⟨[],asI,none,[],[],none,[]⟩ bodyI scI pI
  freeI: ∀ n,(n,NameKind.free) ∈ scI.names -> n=Str.ofString "digits" \/ n=Str.ofString "inner" \/ n=Str.ofString "n"
  memD: (Str.ofString "digits",NameKind.free) ∈ scI.names
  memI: (Str.ofString "inner",NameKind.free) ∈ scI.names
  memN: (Str.ofString "n",NameKind.free) ∈ scI.names
  form: ∃ t args w1 w2 e0 p1 p2,
    d.body=[.FunctionDef "inner" ⟨[],asI,none,[],[],none,[]⟩ bodyI [] none [] scI none (Str.ofString "inner") pI,
      .Return (some (.IfExp t (.Call (.Name "inner" w1) args [] w2) e0 p1)) p2] /\
    SE c t (.var 0)/\SEs c args [.int 0,.call (.glob "len") [.var 0]]/\SE c e0 (.int 0)
section
variable {C: CX}
theorem z2s {G: GT} (ok: FnOk C G 0) (hlen: G.gv (Str.ofString "len")=some (.bi "len")) {c cI': CE} {d: DefRec} {as' asI: List Arg} {bodyI: List Stmt} {scI: Scope} {q: zb9} (fo: z4z c d as' asI cI' bodyI scI q.2.1) (hqual: (d.name ++ ".<locals>.") ++ (Str.ofString "inner")=q.2.2)
    {a: Addr} {o: Obj} {pm doc: Value} {cc: Addr} (DI: z2i C cc q) (ho: ∀ h,C.Inv h -> h.get? a=some o) (hdt: o.data = .func (d.data pm (.ref cc) doc)) (hcode: ∀ h,C.Inv h -> h.CodeRec (.ref cc) d.name)
    {xs: List Int} {n: Nat} (hN: n<=1000000) (hl: xs.length<=64) (hb: ∀ x ∈ xs,bits x<=1000000) {A: Around} {W: Addr -> Prop} {s: Shared} {vs: List Value} (rm: Room A 9) (at': At C W s) (hr: RepL C s.heap W [.list (xs.map .int),.int n] vs) :
    Snd C A s W (call (.ref a) vs) (.int (numberOf n xs)):=fun Q E k'=>by
  have hl2: as'.length=vs.length:=by
    rw [hr.length]
    have:=fo.hp.length
    simpa using this
  obtain ⟨t,args,w1,w2,e0,p1,p2,hbody,ht,hargs,he0⟩:=fo.form
  refine wpAny_call (zgd (prog:=C.prog) (w:=C.w) (fd:=d.data pm (.ref cc) doc) (body:=d.body) (by have:=rm.2.1; lia) (ho _ at'.inv) hdt (C.nolimit at'.inv) (hcode _ at'.inv) rfl (zfv (fd:=d.data pm (.ref cc) doc) fo.hpar rfl hl2 fo.hn) rfl (zjf fo.hsc fo.hp fo.fs) fo.fs.noco fo.fs.nogen fo.fs.kind fun s₁ ic htk=>?_)
  obtain ⟨e₁,hf,ev₁,a₁⟩:=zh8 (c:=c) (fd:=d.data pm (.ref cc) doc) (a:=a) (ρ₀:=[none,none]) (ρ:=[some (.val (.list (xs.map .int))),some (.val (.int n))]) fo.hsc fo.base fo.fs rfl rfl fo.hp fo.hn hr at' (fun i h=>by
    rcases i with _ | _ | i <;> simp at h ⊢) htk rfl ic
  have hkind: ∀ x,(callEnvC (d.data pm (.ref cc) doc) s.heap.objs.size a).kindOf x=d.scope.names.lookup x:=fun _=>rfl
  have hcode': (callEnvC (d.data pm (.ref cc) doc) s.heap.objs.size a).code = .ref cc:=rfl
  have hqual': (callEnvC (d.data pm (.ref cc) doc) s.heap.objs.size a).qual=d.name ++ ".<locals>." := rfl
  have hcel: ∀ x,d.scope.names.lookup x=some .cell -> ∃ b,(callEnvC (d.data pm (.ref cc) doc) s.heap.objs.size a).cells.lookup x=some b:=fun x hx=>Option.isSome_iff_exists.mp (zdq (⟨hx,fo.fs.nodup⟩))
  have hsk: (callEnvC (d.data pm (.ref cc) doc) s.heap.objs.size a).scope.kind = .function:=fo.fs.kind
  have hgl: (callEnvC (d.data pm (.ref cc) doc) s.heap.objs.size a).globals=mainGlobals:=rfl
  generalize callEnvC (d.data pm (.ref cc) doc) s.heap.objs.size a=env at *
  have rmK: Room (A.deeper env) 8:=rm.deeper
  have rm0: Room (A.deeper env) 0:=rmK.mono (Nat.le_add_left _ _)
  have dof: ∀ {x k},c.sc.names.lookup x=some k -> d.scope.names.lookup x=some k:=fun {x k} h=>by
    rcases fo.hsc x with h' | h'
    · rw [<- h',h]
    · rw [h'] at h; exact zae h
  obtain ⟨cD,hcD⟩:=hcel _ (dof fo.dk)
  obtain ⟨cN,hcN⟩:=hcel _ (dof fo.nk)
  obtain ⟨cI,hcI⟩:=hcel _ fo.id'
  have icI:=ic.cell _ _ hcI
  have loD: C.n₀<=cD:=(a₁.wocc cD (.inr (.inr ⟨_,hcD⟩))).1
  have loI: C.n₀<=cI:=(a₁.wocc cI (.inr (.inr ⟨_,hcI⟩))).1
  have loN: C.n₀<=cN:=(a₁.wocc cN (.inr (.inr ⟨_,hcN⟩))).1
  have hnID: cI ≠ cD:=fun h=>by subst h; exact absurd (ev₁.cinj _ _ _ hcI hcD) (by decide)
  have hnIN: cI ≠ cN:=fun h=>by subst h; exact absurd (ev₁.cinj _ _ _ hcI hcN) (by decide)
  have hnIL: cI ≠ env.locals:=fun h=>Nat.lt_irrefl _ (h ▸ ic.above _ _ (mem_of_lookup hcI))
  have hfree: ∀ y,(y,NameKind.free) ∈ scI.names -> ∃ b,env.cells.lookup y=some b:=fun y hy=>by
    rcases fo.freeI y hy with rfl | rfl | rfl
    · exact ⟨_,hcD⟩
    · exact ⟨_,hcI⟩
    · exact ⟨_,hcN⟩
  rw [hbody]
  refine wpAny_execs_cons (DI _ s₁ env (Str.ofString "inner") cI _ ⟨[],asI,none,[],[],none,[]⟩ bodyI scI a₁.inv hcode' hgl hsk (hkind _ |>.trans fo.id') hcI loI icI (by rw [hqual']; exact hqual) hfree fo.docI fo.treeI _ _ fun f s₂ e₂ hin icI₂=>?_)
  have ev₂:=ev₁.around e₂ fun b hb=>by
    subst hb
    refine ⟨.inr (.inr ⟨_,hcI⟩),fun h=>?_⟩
    rcases h with h | ⟨x,hx,hxl⟩
    · exact hnIL h
    · obtain rfl:=ev₁.cinj _ _ _ hxl hcI
      exact hx fo.ik
  have a₂:=a₁.extO e₂
  have eX₂: Ext C s s₂:=(e₁.toO.trans (e₂.mono fun b hb=>(.inr ⟨_,hb ▸ hcI⟩: allO env b))).free hf
  have hbod: n=n:=rfl
  obtain ⟨uN,hvN,rN⟩:=ev₂.vars (Str.ofString "n") 1 _ fo.ni (by rw [fo.base,fo.nk]; rfl) rfl
  obtain ⟨_,icN₂⟩:=hvN.cellOf (hkind _ |>.trans (dof fo.nk)) hcN
  obtain ⟨uD,hvD,rD⟩:=ev₂.vars (Str.ofString "digits") 0 _ fo.di (by rw [fo.base,fo.dk]; rfl) rfl
  obtain ⟨_,icD₂⟩:=hvD.cellOf (hkind _ |>.trans (dof fo.dk)) hcD
  have uN': ∃ tN,uN = .int n tN:=by
    cases rN with
    | val r=>exact zah r
  obtain ⟨tN,rfl⟩:=uN'
  have rD': Rep C s₂.heap (fun b=>W b \/ allO env b) (.list (xs.map .int)) uD:=by
    cases rD with
    | val r=>exact r
  refine wpAny_execs_cons (wpAny_Return_some (IfExp_ (ht.tst ok ev₂ a₂ rm0 (b:=!(xs.map PV.int).isEmpty) (zie rfl rfl) _ _ fun s₃ e₃=>?_)))
  have ev₃:=ev₂.ext e₃.toExt0
  have a₃:=a₂.ext e₃
  by_cases hx0: xs=[]
  · subst hx0
    refine he0.val ok ev₃ a₃ rm0 (p:=.int 0) rfl _ _ fun v s₄ e₄ r₄=>?_
    exact k' v s₄ ((eX₂.trans e₃).trans e₄) r₄
  · rw [show (!(xs.map PV.int).isEmpty)=true by cases xs with | nil=>exact absurd rfl hx0 | cons x r=>rfl]
    have cl: CloM (zb1 env scI.names []) cN cI cD:=⟨zdt fo.memN hcN,zdt fo.memI hcI,zdt fo.memD hcD,zwe hfree ev₁.cinj⟩
    have hclo₂: CloB C (Str.ofString "inner") q.2.2 asI bodyI scI (zb1 env scI.names []) (fun b=>W b \/ allO env b) s₂.heap f cN cI cD n xs:={
      inn:=hin
      cn':=⟨tN,icN₂⟩
      ci':=icI₂
      cd':=⟨uD,icD₂,rD'⟩
      wn:=.inr (.inr ⟨_,hcN⟩)
      wi:=.inr (.inr ⟨_,hcI⟩)
      wd:=.inr (.inr ⟨_,hcD⟩)
      ln:=loN
      li:=loI
      ld:=loD }
    have hclo₃:=hclo₂.grow (s':=s₃) (W':=fun b=>W b \/ allO env b) e₃.new (fun _ h=>h) fun _ h=>.inl h
    refine zds ok rm0 (ps:=[.int ((0: Nat): Int),.int (xs.length: Nat)]) hargs ev₃ a₃ rfl rfl (.cell (.inl (hkind _ |>.trans fo.id')) hcI loI hclo₃.ci') hclo₃.inn
      (zac rfl (zac (zao (zal hlen) (zac (zaa rfl) zai) (by show some (PV.int ((xs.map PV.int).length: Nat))=_; simp)) zai)) fun vs₁ s₄ e₄ r₄=>?_
    have hpos: 0 < xs.length:=List.length_pos_iff.mpr hx0
    refine zmo ok fo.inn cl hN hb hl 6 0 xs.length _ _ s₄ vs₁ (rmK.mono (Nat.le_add_left _ _)) (a₃.ext e₄) (hclo₃.grow e₄.new (fun _ h=>h) fun _ h=>.inl h) r₄ hpos ‹_› (Nat.le_refl _) _ _ fun v s₅ e₅ r₅=>?_
    refine k' v s₅ (((eX₂.trans e₃).trans e₄).trans e₅) ?_
    have: numB n xs 0 xs.length=numberOf n xs:=by simp [numB]
    rw [this] at r₅
    exact r₅
end
end Mine
namespace Mine
open PySem PySem.W PySem.Calls PyProof.Rows PySem.Challenge
set_option maxRecDepth 100000
noncomputable def zzi: DefRec:=⟨"",⟨[],[],none,[],[],none,[]⟩,[],{ kind:=.function,names:=[],isGenerator:=false,isCoroutine:=false,more:=[] },⟨0,0,0,0⟩⟩
noncomputable def zbj (d: DefRec): DefRec:=(d.body.findSome? fun st=>match st with
  | .FunctionDef n a b _ _ _ sc _ _ pos=>some (⟨n,a,b,sc,pos⟩: DefRec)
  | _=>none).getD zzi
noncomputable def dI (p: Program): DefRec:=(dOf p "_int2digits").getD zzi
noncomputable def dP (p: Program): DefRec:=(dOf p "_digits2int").getD zzi
noncomputable def zj2 (l: List Str) (sc: Scope): Scope:={ sc with names:=sc.names.filter fun x=>!l.contains x.1 }
theorem zgh {l: List Str}: ∀ (names: List (Str × NameKind)) (x: Str),(names.filter fun y=>!l.contains y.1).lookup x=names.lookup x \/ (names.filter fun y=>!l.contains y.1).lookup x=none:=by
  intro zz
  induction zz with
  | nil=>exact fun x=>.inl rfl
  | cons zq r ih=>
    obtain ⟨y,k⟩:=zq
    intro x
    rw [List.filter_cons]
    by_cases hy: (!l.contains y)=true
    · rw [if_pos hy,List.lookup_cons,List.lookup_cons]
      by_cases hxy: (x == y)=true
      · rw [hxy]; exact .inl rfl
      · rw [show (x == y)=false by simpa using hxy]
        exact ih x
    · rw [if_neg hy,List.lookup_cons]
      by_cases hxy: (x == y)=true
      · right
        have: x=y:=eq_of_beq hxy
        subst this
        rcases h: (r.filter fun y=>!l.contains y.1).lookup x with _ | v
        · exact h
        · have:=(List.mem_filter.mp (mem_of_lookup h)).2
          exact absurd this hy
      · rw [show (x == y)=false by simpa using hxy]
        exact ih x
theorem zgi {names: List (Str × NameKind)} {x: Str} {k: NameKind} {f: Str × NameKind -> Bool} (h: names.all f=true) (hl: names.lookup x=some k): f (x,k)=true:=List.all_eq_true.mp h _ (mem_of_lookup hl)
theorem zf6 {c: CE} {e: Expr} {x: PE} (h: (zbs e c).v.map (·.1)=some x): SE c e x:=by
  obtain ⟨y,_,rfl⟩:=zaj h
  exact y.2
theorem zmp {c: CE} {es: List Expr} {xs: List PE} (h: (zd1 es c).map (·.1)=some xs): SEs c es xs:=by
  obtain ⟨y,_,rfl⟩:=zaj h
  exact y.2
theorem zf7 {c: CE} {xs: List Str} {ts: List Nat} (h: (zi1 c xs).map (·.1)=some ts): Places c xs ts:=by
  obtain ⟨y,_,rfl⟩:=zaj h
  exact y.2
noncomputable def cI (d: DefRec): CE:=⟨zj2 ["a_digits","inner"] d.scope,["lower","upper","shift","mid","R","L","x","n"],[],0⟩
noncomputable def cO (d: DefRec): CE:=⟨zj2 ["inner"] d.scope,["a_digits","n","a"],[],0⟩
noncomputable abbrev x02:=dI pw_wc0027_02
noncomputable abbrev y02:=dP pw_wc0027_02
theorem z2t: FormA (cI (zbj x02)) (zbj x02).params.args (zbj x02).body (zbj x02).scope where
  kind:=rfl
  noco:=rfl
  nogen:=rfl
  nocell:=by
    have: (zbj x02).scope.names.all (fun x=>x.2 != .cell)=true:=by decide +kernel
    intro x hx
    simpa using List.all_eq_true.mp this x hx
  nodup:=by decide +kernel
  places:=zf7 (by rfl)
  loc:=by
    have: (zbj x02).params.args.all (fun a=>(cI (zbj x02)).sc.names.lookup a.arg == some .local)=true:=by decide +kernel
    intro x hx
    simpa using List.all_eq_true.mp this x hx
  sc:=fun x=>zgh _ x
  base:=rfl
  nocell':=fun x h=>by
    have:=zgi (f:=fun y=>y.2 != .cell) (by decide +kernel) h
    simp at this
  free:=fun x h=>by
    have:=zgi (f:=fun y=>y.2 != .free || y.1 == Str.ofString "n") (by decide +kernel) h
    simpa using this
  nf:=by decide +kernel
  ni:=by decide +kernel
  mi:=by decide +kernel
  si:=by decide +kernel
  ui:=by decide +kernel
  li:=by decide +kernel
  ml:=by decide +kernel
  sl:=by decide +kernel
  ul:=by decide +kernel
  ll:=by decide +kernel
  fa:=by decide +kernel
  fi:=by decide +kernel
  form:=⟨_,_,_,_,_,_,_,_,_,_,_,_,_,_,_,_,_,_,_,_,_,_,_,_,_,_,_,_,rfl,zf6 (by rfl),zf6 (by rfl),zf6 (by rfl),rfl,⟨zf6 (by rfl),rfl⟩,⟨zf6 (by rfl),rfl⟩,⟨zf6 (by rfl),rfl⟩,⟨zf6 (by rfl),rfl⟩,zmp (by rfl),zmp (by rfl)⟩
theorem z2u {sc: Scope} (h: zjz sc=true): ze8 sc:=zmh h
theorem z2v: z4r (cO x02) x02 x02.params.args (zbj x02).params.args (cI (zbj x02)) (zbj x02).body (zbj x02).scope (zbj x02).pos where
  inn:=z2t
  fs:=z2u (by decide +kernel)
  base:=rfl
  hsc:=fun x=>zgh _ x
  hpar:=rfl
  hn:=by decide +kernel
  hp:=zf7 (by rfl)
  ai:=by decide +kernel
  ak:=by decide +kernel
  ni:=by decide +kernel
  nk:=by decide +kernel
  ik:=by decide +kernel
  id':=by decide +kernel
  docI:=rfl
  treeI:=zi4 (by decide +kernel)
  freeI:=fun x h=>by
    have: (zbj x02).scope.names.all (fun y=>y.2 != .free || y.1 == Str.ofString "a_digits" || y.1 == Str.ofString "inner" || y.1 == Str.ofString "n")=true:=by decide +kernel
    have:=List.all_eq_true.mp this _ h
    simpa [or_assoc] using this
  memA:=by decide +kernel
  memI:=by decide +kernel
  memN:=by decide +kernel
  form:=⟨_,_,_,_,_,_,_,_,_,_,_,_,_,rfl,zf6 (by rfl),zf6 (by rfl),zf6 (by rfl),zmp (by rfl)⟩
noncomputable def cIP (d: DefRec): CE:=⟨zj2 ["inner"] d.scope,["shift","mid","R","L","digits","n"],[],0⟩
noncomputable def cP (d: DefRec): CE:=⟨zj2 ["inner"] d.scope,["n","digits"],[],0⟩
theorem z2w: zy3 (cIP (zbj y02)) (zbj y02).params.args (zbj y02).body (zbj y02).scope where
  kind:=rfl
  noco:=rfl
  nogen:=rfl
  nocell:=by
    have: (zbj y02).scope.names.all (fun x=>x.2 != .cell)=true:=by decide +kernel
    intro x hx
    simpa using List.all_eq_true.mp this x hx
  nodup:=by decide +kernel
  places:=zf7 (by rfl)
  loc:=by
    have: (zbj y02).params.args.all (fun a=>(cIP (zbj y02)).sc.names.lookup a.arg == some .local)=true:=by decide +kernel
    intro x hx
    simpa using List.all_eq_true.mp this x hx
  sc:=fun x=>zgh _ x
  base:=rfl
  nocell':=fun x h=>by
    have:=zgi (f:=fun y=>y.2 != .cell) (by decide +kernel) h
    simp at this
  free:=fun x h=>by
    have:=zgi (f:=fun y=>y.2 != .free || y.1 == Str.ofString "n" || y.1 == Str.ofString "digits") (by decide +kernel) h
    simpa using this
  nf:=by decide +kernel
  df:=by decide +kernel
  ni:=by decide +kernel
  di:=by decide +kernel
  mi:=by decide +kernel
  si:=by decide +kernel
  ml:=by decide +kernel
  sl:=by decide +kernel
  fi:=by decide +kernel
  form:=⟨_,_,_,_,_,_,_,_,_,_,_,_,_,_,_,_,_,_,_,_,rfl,zf6 (by rfl),zf6 (by rfl),⟨zf6 (by rfl),rfl⟩,⟨zf6 (by rfl),rfl⟩,zf6 (by rfl),zmp (by rfl),zmp (by rfl)⟩
theorem z2x: z4z (cP y02) y02 y02.params.args (zbj y02).params.args (cIP (zbj y02)) (zbj y02).body (zbj y02).scope (zbj y02).pos where
  inn:=z2w
  fs:=z2u (by decide +kernel)
  base:=rfl
  hsc:=fun x=>zgh _ x
  hpar:=rfl
  hn:=by decide +kernel
  hp:=zf7 (by rfl)
  di:=by decide +kernel
  dk:=by decide +kernel
  ni:=by decide +kernel
  nk:=by decide +kernel
  ik:=by decide +kernel
  id':=by decide +kernel
  docI:=rfl
  treeI:=zi4 (by decide +kernel)
  freeI:=fun x h=>by
    have: (zbj y02).scope.names.all (fun y=>y.2 != .free || y.1 == Str.ofString "digits" || y.1 == Str.ofString "inner" || y.1 == Str.ofString "n")=true:=by decide +kernel
    have:=List.all_eq_true.mp this _ h
    simpa [or_assoc] using this
  memD:=by decide +kernel
  memI:=by decide +kernel
  memN:=by decide +kernel
  form:=⟨_,_,_,_,_,_,_,rfl,zf6 (by rfl),zmp (by rfl),zf6 (by rfl)⟩
section
variable {p: Program} {w: World} {s: Shared} {mg mb: Str -> Option Value} {k ad: Addr} {ns: List Int}
structure Parts (s: Shared) (mg: Str -> Option Value) (k: Addr) (d: DefRec) (a code P: Addr) (o: Obj) (pm doc: Value): Prop where
  g: mg d.name=some (.ref a)
  dt: o.data = .func (d.data pm (.ref code) doc)
  ho: (trunc s.heap k).get? a=some o
  hc: (trunc s.heap k).CodeRec (.ref code) d.name
  hd: CodeHd s.heap code P
  ck: code<=k
  hP: s.heap.get? P=some (tabObj #[])
  Pk: P<=k
theorem znt (H: zes p w s mg mb k ad ns) {d: DefRec} (hd: Step.fn d ∈ steps p): ∃ a code P o pm doc,Parts s mg k d a code P o pm doc:=by
  obtain ⟨v,Pl,hv,hP⟩:=H.held _ (zic (d:=d) (steps p) [] (.inl hd))
  obtain ⟨a,o,pm,code,doc,P,rfl,_,_,ho,hod,hc,_,_,hh,hPt,_⟩:=hP _ ze9
  obtain ⟨oc,vs,file,tf,flags,tg,inF,text,tt,e,r⟩:=id hh
  refine ⟨a,code,P,o,pm,doc,hv,hod,ho,hc,zia hh fun o e=>(zet _ _ e).2,(zet _ _ e).1,(zet _ _ hPt).2,(zet _ _ hPt).1⟩
theorem Parts.inv (H: zes p w s mg mb k ad ns) {tabs: List zb9} (N: zjt s k tabs) {lit: Str -> Tok -> Prop} {litNz: ∀ {x t},lit x t -> t ≠ 0} {litNe: ∀ {x y t},lit x t -> lit y t -> x=y} {d: DefRec} {a code P: Addr} {o: Obj} {pm doc: Value} (x: Parts s mg k d a code P o pm doc) :
    ∀ h,(zbm H N lit litNz litNe).Inv h -> h.get? a=some o/\h.CodeRec (.ref code) d.name:=fun h hi=>by
  refine ⟨zi6 H N hi _ _ (fun q=>by have:=x.dt; rw [q] at this; cases this) x.ho,x.hc.at fun o' e'=>zi6 H N hi _ o' (fun q=>?_) e'⟩
  obtain ⟨o₂,_,_,_,_,_,_,_,_,e₂,hcls,_⟩:=x.hd
  have:=(zet _ _ e').2
  rw [e₂] at this; replace this:=oj this; subst this
  rw [q] at hcls; cases hcls
theorem z40 (H: zes p w s mg mb k ad ns) {tabs: List zb9} (N: zjt s k tabs) {lit: Str -> Tok -> Prop} {litNz: ∀ {x t},lit x t -> t ≠ 0} {litNe: ∀ {x y t},lit x t -> lit y t -> x=y} {q: zb9} (hq: q ∈ tabs) {cc: Addr} (hd: CodeHd s.heap cc q.1) (ck: cc<=k) :
    z2i (zbm H N lit litNz litNe) cc q:=fun A s' env name cI v₀ params bodyI scI hi he hg hk hkind hcI lo hcell hqual hfree hdoc htree Q E h=>zwd H N hq hd ck hi he hg hk hkind hcI lo hcell hqual hfree hdoc htree h
theorem zmq {c P: Addr} (h: CodeHd s.heap c P): isCodeTable s.heap P:=by
  obtain ⟨o,vs,file,tf,flags,tg,inF,text,tt,e,h1,h2,h3,_⟩:=h
  exact ⟨c,o,vs,e,h1,h2,h3⟩
theorem zwv {P1 P2 c1 c2: Addr} {p1 p2: Pos} {q1 q2: Str} (h1: P1<=k) (h2: P2<=k) (e1: s.heap.get? P1=some (tabObj #[])) (e2: s.heap.get? P2=some (tabObj #[])) (d1: CodeHd s.heap c1 P1) (d2: CodeHd s.heap c2 P2) (hp: p1.line ≠ p2.line) :
    zjt s k [(P1,p1,q1),(P2,p2,q2)] where
  lo:=fun q hq=>by
    rcases List.mem_cons.mp hq with rfl | hq
    · exact h1
    · obtain rfl:=List.mem_singleton.mp hq; exact h2
  at':=fun q hq=>by
    rcases List.mem_cons.mp hq with rfl | hq
    · exact e1
    · obtain rfl:=List.mem_singleton.mp hq; exact e2
  ct:=fun q hq=>by
    rcases List.mem_cons.mp hq with rfl | hq
    · exact zmq d1
    · obtain rfl:=List.mem_singleton.mp hq; exact zmq d2
  uniq:=fun q hq q' hq' hl hc=>by
    rcases List.mem_cons.mp hq with rfl | hq
    · rcases List.mem_cons.mp hq' with rfl | hq'
      · rfl
      · obtain rfl:=List.mem_singleton.mp hq'; exact absurd hl hp
    · obtain rfl:=List.mem_singleton.mp hq
      rcases List.mem_cons.mp hq' with rfl | hq'
      · exact absurd hl.symm hp
      · obtain rfl:=List.mem_singleton.mp hq'; rfl
theorem z2y (H: zes p w s mg mb k ad ns) {x: Str} {i: Int} (hs: Step.int x i ∈ steps p): ∃ t,mg x=some (.int i t):=by
  obtain ⟨v,Pl,hv,hP⟩:=H.held _ (zeu (q:=(x,zi3 i)) (st:=Step.int x i) (by simp [Step.facts]) (steps p) [] (.inl hs))
  obtain ⟨t,rfl⟩:=hP _ fun b o _ e=>e
  exact ⟨t,hv⟩
end
noncomputable abbrev p2': Program:=pw_wc0027_02
noncomputable def zqr: List Str:=["range","list","type","int","len","ord","chr","sum","divmod","enumerate","reversed"]
theorem z41: zqr.all (fun x=>!startupNames.contains x && !pw_wc0027_02.boundNames.contains x)=true:=by decide +kernel
theorem zjh {x: Str} (h: x ∈ zqr): startupNames.contains x=false/\pw_wc0027_02.boundNames.contains x=false:=by
  have:=List.all_eq_true.mp z41 x h
  simpa using this
theorem zzj: bootBuiltins "range" = some (.type "range"):=by rfl
theorem z2z: bootBuiltins "list" = some (.type "list"):=by rfl
theorem z20: bootBuiltins "type" = some (.type "type"):=by rfl
theorem z42: bootBuiltins "int" = some (.type "int"):=by rfl
theorem z43: bootBuiltins "len" = some (.builtin "len"):=by rfl
theorem z44: bootBuiltins "ord" = some (.builtin "ord"):=by rfl
theorem z45: bootBuiltins "chr" = some (.builtin "chr"):=by rfl
theorem z46: bootBuiltins "sum" = some (.builtin "sum"):=by rfl
theorem zww: bootBuiltins "divmod" = some (.builtin "divmod"):=by rfl
theorem z21: bootBuiltins "enumerate" = some (.type "enumerate"):=by rfl
theorem z22: bootBuiltins "reversed" = some (.type "reversed"):=by rfl
theorem isStep {st: Step} {i: Nat} (h: (steps pw_wc0027_02)[i]? = some st): st ∈ steps pw_wc0027_02:=List.mem_of_getElem? h
theorem z47: Step.int "_DIV_LIMIT" 4000 ∈ steps pw_wc0027_02:=isStep (i:=1) (by rfl)
theorem zzk: Step.fn x02 ∈ steps pw_wc0027_02:=(zks (name:="_int2digits") (by rfl)).1
theorem zzl: Step.fn y02 ∈ steps pw_wc0027_02:=(zks (name:="_digits2int") (by rfl)).1
theorem z48: Step.set "b1_set" zdv ∈ steps pw_wc0027_02:=isStep (i:=9) (by rfl)
theorem z49: Step.dict "b3_exceptions" (zhh pw_wc0027_02) ∈ steps pw_wc0027_02:=isStep (i:=11) (by rfl)
theorem zwx: (zhh pw_wc0027_02).all (fun x=>decide (x.2.length<=1000))=true:=by decide +kernel
theorem zwy: zfy.all (fun f=>(dOf pw_wc0027_02 f).isSome)=true:=by decide +kernel
end Mine
namespace Mine
open PySem PySem.W PySem.Calls PyProof.Rows PySem.Challenge
set_option maxRecDepth 100000
set_option maxHeartbeats 4000000
theorem ztg: Entry pw_wc0027_02 "_div2n1n" zio ziq:=⟨[],[],by rfl⟩
theorem zth: Entry pw_wc0027_02 "_div3n2n" zir zis:=⟨[],[],by rfl⟩
theorem znu: Entry pw_wc0027_02 "_divmod_pos" ze0 ze1:=⟨["q_digits"],[(63,["q_digits"])],by rfl⟩
theorem znv: Entry pw_wc0027_02 "int_divmod" ze2 ze3:=⟨[],[],by rfl⟩
theorem zly: Entry pw_wc0027_02 "in_table_b1" zee zef:=⟨[],[],by rfl⟩
theorem zlh: Entry pw_wc0027_02 "map_table_b3" zdw zdx:=⟨[],[],by rfl⟩
theorem zli: Entry pw_wc0027_02 "_escape_cdata" zfn zdy:=⟨[],[],by rfl⟩
theorem zjv: Entry pw_wc0027_02 "_escape_attrib" zfi zde:=⟨[],[],by rfl⟩
theorem zf8: Entry pw_wc0027_02 "_escape_attrib_html" zc6 zb5:=⟨[],[],by rfl⟩
theorem zgq: Entry pw_wc0027_02 "_escape_cdata_c14n" zdh zcg:=⟨[],[],by rfl⟩
theorem zf9: Entry pw_wc0027_02 "_escape_attrib_c14n" zc7 zb6:=⟨[],[],by rfl⟩
theorem zqs: Entry pw_wc0027_02 "_law_hand" zg1 zg2:=⟨["names"],[(166,["names"])],by rfl⟩
theorem zqt: Entry pw_wc0027_02 "_law_read" zg3 zg4:=⟨["typed"],[(176,["typed"])],by rfl⟩
theorem zqu: Entry pw_wc0027_02 "_law_page" zg5 zg6:=⟨[],[],by rfl⟩
theorem zti: Entry pw_wc0027_02 "_law_due" zit ziu:=⟨[],[],by rfl⟩
theorem zlz: Entry pw_wc0027_02 "_law_product" zeg zeh:=⟨[],[],by rfl⟩
theorem zqv: Entry pw_wc0027_02 "_law_ways" zg7 zg8:=⟨[],[],by rfl⟩
theorem zqw: Entry pw_wc0027_02 "_law_sums" zg9 zha:=⟨["counts","sums","every"],[(199,["rows"]),(202,["every"]),(218,["counts","sums"])],by rfl⟩
theorem zph: Entry pw_wc0027_02 "_law_terms" zfo zfp:=⟨["terms"],[(224,["terms"])],by rfl⟩
theorem z5a: Entry pw_wc0027_02 "law" zzs zkb:=⟨[],[],by rfl⟩
theorem zzm: ∀ x ∈ g02.tab,Entry pw_wc0027_02 x.1 x.2.1 x.2.2.1:=by
  intro x hx
  have hx: x ∈ z1p:=hx
  unfold z1p at hx
  simp only [List.mem_cons,List.not_mem_nil,or_false] at hx
  rcases hx with rfl | rfl | rfl | rfl | rfl | rfl | rfl | rfl | rfl | rfl | rfl | rfl | rfl | rfl | rfl | rfl | rfl | rfl | rfl | rfl
  · exact ztg
  · exact zth
  · exact znu
  · exact znv
  · exact zly
  · exact zlh
  · exact zli
  · exact zjv
  · exact zf8
  · exact zgq
  · exact zf9
  · exact zqs
  · exact zqt
  · exact zqu
  · exact zti
  · exact zlz
  · exact zqv
  · exact zqw
  · exact zph
  · exact z5a
end Mine
namespace Mine
open PySem PySem.W PySem.Calls PyProof.Rows PySem.Challenge
section
variable {w: World} {s: Shared} {mg mb: Str -> Option Value} {k ad: Addr} {ns: List Int}
theorem zwz {xs: List PV}: ∀ {l: List Int},zgk xs=some l -> xs=l.map .int:=by
  induction xs with
  | nil=>intro l e; obtain rfl: []=l:=Option.some.inj e; rfl
  | cons x xs ih=>
    intro l e
    obtain ⟨d,l,hx',hxs,rfl⟩:=zhv e
    obtain rfl:=zel hx'
    rw [ih hxs]; rfl
noncomputable def bval: PV -> Option Value
  | .ty n=>some (.type n)
  | .bi n=>some (.builtin n)
  | _=>none
theorem zzn {C: CX} {h: Heap} {W: Addr -> Prop} {v: PV} {u: Value} (e: bval v=some u): Rep C h W v u:=by
  cases v with
  | ty n=>exact oj e
  | bi n=>exact oj e
  | _=>exact zae e
noncomputable def BiIn (q: Str × PV): Prop:=q.1 ∈ zqr /\ ∃ u,bootBuiltins q.1=some u/\bval q.2=some u
theorem zcv {q: Str × PV} {r: List (Str × PV)} (h: BiIn q) (k: ∀ p ∈ r,BiIn p): ∀ p ∈ q :: r,BiIn p:=fun _ hp=>(List.mem_cons.mp hp).elim (fun e=>e ▸ h) (k _)
theorem z50: ∀ q ∈ zvb.drop 3,BiIn q:=
  zcv ⟨by decide,_,zzj,rfl⟩ (zcv ⟨by decide,_,z2z,rfl⟩ (zcv ⟨by decide,_,z20,rfl⟩ (zcv ⟨by decide,_,z42,rfl⟩ (zcv ⟨by decide,_,z43,rfl⟩ (zcv ⟨by decide,_,z44,rfl⟩ (zcv ⟨by decide,_,z45,rfl⟩ (zcv ⟨by decide,_,z46,rfl⟩ (zcv ⟨by decide,_,zww,rfl⟩ fun _ h=>nomatch h))))))))
noncomputable def GvAt (C: CX) (x: Str) (v: PV): Prop:=∃ u,(C.mg x=some u \/ (C.mg x=none/\C.mb x=some u)) /\ ∀ h W,Rep C h W v u
theorem zw0 (H: zes pw_wc0027_02 w s mg mb k ad ns) {tabs: List zb9} (N: zjt s k tabs) {lit: Str -> Tok -> Prop} {litNz: ∀ {x t},lit x t -> t ≠ 0} {litNe: ∀ {x y t},lit x t -> lit y t -> x=y} :
    ∀ x v,gv02 x=some v -> GvAt (zbm H N lit litNz litNe) x v:=fun x v hx=>by
  cases hl: zvb.lookup x with
  | some v'=>
    obtain rfl: v'=v:=by rw [gv02,hl] at hx; exact Option.some.inj hx
    rcases List.mem_cons.mp (mem_of_lookup hl) with e | hm
    · obtain ⟨rfl,rfl⟩:=Prod.mk.inj e
      obtain ⟨t,ht⟩:=z2y H z47
      exact ⟨_,.inl ht,fun h W=>zbf⟩
    rcases List.mem_cons.mp hm with e | hm
    · obtain ⟨rfl,rfl⟩:=Prod.mk.inj e
      obtain ⟨v',Pl,hv',hP⟩:=H.held _ (zeu (q:=("b1_set",zi5 pw_wc0027_02 w zdv)) (st:=Step.set "b1_set" zdv) List.mem_cons_self (steps pw_wc0027_02) [] (.inl z48))
      exact ⟨v',.inl hv',fun h W=>hv'⟩
    rcases List.mem_cons.mp hm with e | hm
    · obtain ⟨rfl,rfl⟩:=Prod.mk.inj e
      obtain ⟨v',Pl,hv',hP⟩:=H.held _ (zeu (q:=("b3_exceptions",zge pw_wc0027_02 w (zhh pw_wc0027_02))) (st:=Step.dict "b3_exceptions" (zhh pw_wc0027_02)) List.mem_cons_self (steps pw_wc0027_02) [] (.inl z49))
      exact ⟨v',.inl hv',fun h W=>hv'⟩
    · obtain ⟨hn,u,hb,hu⟩:=z50 _ hm
      exact ⟨u,.inr (zhg H N (zjh hn).1 (zjh hn).2 hb),fun h W=>zzn hu⟩
  | none=>
    obtain ⟨hc,hx⟩: zfy.contains x=true/\some (PV.fn x)=some v:=by rw [gv02,hl] at hx; exact zck hx
    obtain rfl:=oj hx
    obtain ⟨d,hd⟩:=Option.isSome_iff_exists.mp (List.all_eq_true.mp zwy x (List.contains_iff_mem.mp hc))
    obtain ⟨hm,hn⟩:=zks hd
    obtain ⟨a,fa⟩:=zre H N (lit:=lit) (litNz:=litNz) (litNe:=litNe) hm
    exact ⟨_,.inl (hn ▸ fa.g),fun h W=>hn ▸ fa.g⟩
inductive SpI (d: Nat): Str -> List PV -> PV -> Prop
  | i (a n: Int) (h: 0<=a/\0 < n/\n<=1000000/\(digitsOf a n).length<=64/\8<=d): SpI d "_int2digits" [.int a,.int n] (.list ((digitsOf a n).map .int))
  | d (xs: List PV) (n: Int) (l: List Int) (hl: zgk xs=some l) (h: 0 < n/\n<=1000000/\l.length<=64/\l.all (fun x=>decide (Builtin.Int.intBits x<=1000000))=true/\8<=d): SpI d "_digits2int" [.list xs,.int n] (.int (numberOf n l))
theorem z5b {d: Nat} {f: Str} {args: List PV} {v: PV} (h: zdr d f args=some v): SpI d f args v:=by
  rcases zji h with ⟨rfl,h⟩ | ⟨-,h⟩
  · obtain ⟨x,y,rfl,h⟩:=zms h
    obtain ⟨aV,n,h1,h2,h3⟩:=zcx h
    obtain rfl: x = .int aV:=h1
    obtain rfl: y = .int n:=h2
    obtain ⟨hc,rfl⟩:=zau h3
    exact .i aV n hc
  · obtain ⟨rfl,h⟩:=zck h
    obtain ⟨x,y,rfl,h⟩:=zms h
    obtain ⟨xs,h1,h3⟩:=zho h
    obtain rfl: x = .list xs:=h1
    obtain ⟨n,h2,h4⟩:=zgz h3
    obtain rfl: y = .int n:=h2
    obtain ⟨l,hl,h5⟩:=bind_some h4
    obtain ⟨hc,rfl⟩:=zau h5
    exact .d xs n l hl hc
theorem z23 (H: zes pw_wc0027_02 w s mg mb k ad ns) :
    ∃ tabs,∃ N: zjt s k tabs,∀ (lit: Str -> Tok -> Prop) (litNz: ∀ {x t},lit x t -> t ≠ 0) (litNe: ∀ {x y t},lit x t -> lit y t -> x=y) d,FnOk (zbm H N lit litNz litNe) (G2 d) d:=by
  obtain ⟨a1,c1,P1,o1,pm1,doc1,X⟩:=znt H zzk
  obtain ⟨a2,c2,P2,o2,pm2,doc2,Y⟩:=znt H zzl
  have N: zjt s k [(P1,(zbj x02).pos,x02.name ++ ".<locals>." ++ Str.ofString "inner"),(P2,(zbj y02).pos,y02.name ++ ".<locals>." ++ Str.ofString "inner")]:=zwv X.Pk Y.Pk X.hP Y.hP X.hd Y.hd (by decide +kernel)
  refine ⟨_,N,fun lit litNz litNe=>?_⟩
  have enum:=zhg H N (lit:=lit) (litNz:=litNz) (litNe:=litNe) (zjh (x:="enumerate") (by decide)).1 (zjh (x:="enumerate") (by decide)).2 z21
  have revd:=zhg H N (lit:=lit) (litNz:=litNz) (litNe:=litNe) (zjh (x:="reversed") (by decide)).1 (zjh (x:="reversed") (by decide)).2 z22
  have b1:=z4c H N (lit:=lit) (litNz:=litNz) (litNe:=litNe) z48 rfl
  have b3:=z4d H N (lit:=lit) (litNz:=litNz) (litNe:=litNe) z49 zwx
  have ok0: FnOk (zbm H N lit litNz litNe) (G2 0) 0:={ enum:=enum,revd:=revd,gv:=zw0 H N,fn:=fun f args v h=>(nomatch h),b1:=b1,b3:=b3 }
  refine zx9 (p:=pw_wc0027_02) (g:=g02) enum revd (zw0 H N) (fun d hd=>zre H N hd) zzm (fun d f args v h=>?_) b1 b3
  have b:=z5b h
  clear h
  induction b with
  | i aV n hc=>
    obtain ⟨h0,hn,hN,hl,hd⟩:=hc
    obtain ⟨m,rfl⟩:=Int.eq_ofNat_of_zero_le (Int.le_of_lt hn)
    refine ⟨a1,o1,_,X.g,X.dt,fun h hi=>(X.inv H N h hi).1,fun A W s' vs rm at' hr=>?_⟩
    have hl': (bits aV + m - 1) / m<=64:=by
      unfold digitsOf at hl
      simpa using hl
    exact z2j ok0 rfl (q:=(P1,(zbj x02).pos,x02.name ++ ".<locals>." ++ Str.ofString "inner")) z2v rfl (z40 H N List.mem_cons_self X.hd X.ck) (fun h hi=>(X.inv H N h hi).1) X.dt (fun h hi=>(X.inv H N h hi).2) h0 (Int.ofNat_lt.mp ‹_›) (by lia) hl' (rm.mono (by lia)) at' hr
  | d xs n l hl hc=>
    obtain ⟨hn,hN,hlen,hb,hd⟩:=hc
    obtain ⟨m,rfl⟩:=Int.eq_ofNat_of_zero_le (Int.le_of_lt hn)
    refine ⟨a2,o2,_,Y.g,Y.dt,fun h hi=>(Y.inv H N h hi).1,fun A W s' vs rm at' hr=>?_⟩
    obtain rfl:=zwz hl
    exact z2s ok0 rfl (q:=(P2,(zbj y02).pos,y02.name ++ ".<locals>." ++ Str.ofString "inner")) z2x rfl (z40 H N (List.mem_cons_of_mem _ List.mem_cons_self) Y.hd Y.ck) (fun h hi=>(Y.inv H N h hi).1) Y.dt (fun h hi=>(Y.inv H N h hi).2) (by lia) hlen
      (fun x hx=>of_decide_eq_true (List.all_eq_true.mp hb x hx)) (rm.mono (by lia)) at' hr
end
end Mine
namespace Mine
open PySem PySem.W PySem.Calls PyProof.Rows PySem.Challenge
set_option maxRecDepth 100000
theorem zin {M: Model} {A: Around} {env: Env} {b: List Stmt} {Q: Flow -> Shared -> Prop} {E: Value -> Shared -> Prop}: ∀ {a: List Stmt} {s: Shared},wpAny M A (execs a env) (fun f s'=>match f with | .next=>wpAny M A (execs b env) Q E s' | f=>Q f s') E s -> wpAny M A (execs (a ++ b) env) Q E s:=by
  intro a s h
  have e: ∀ a: List Stmt,execs (a ++ b) env=execs a env >>= fun f=>match f with | .next=>execs b env | f=>pure f:=fun a=>by
    induction a with
    | nil=>
      show execs b env=_
      rw [execs_nil,pure_bind]
    | cons st a ih=>
      rw [List.cons_append,execs_cons,execs_cons,bind_assoc]
      congr 1
      funext f
      cases f with
      | next=>exact ih
      | _=>rw [pure_bind]
  rw [e]
  refine wpAny_bind (wpAny_mono h (fun f s' h'=>?_) fun _ _ x=>x)
  cases f with
  | next=>exact h'
  | _=>exact wpAny_pure h'
theorem zw1 {C C': CX} {h: Heap} {W: Addr -> Prop}: ∀ {xs: List Int} {vs: List Value},RepL C h W (xs.map .int) vs -> RepL C' h W (xs.map .int) vs
  | [],_,r=>r
  | x :: xs,vs,r=>by
    obtain ⟨v,u,rfl,h1,h2⟩:=r
    exact ⟨v,u,rfl,h1,zw1 h2⟩
noncomputable def zlj (s: Slot): Prop:=(∃ i,s = .val (.int i)) \/ ∃ xs: List Int,s = .val (.list (xs.map .int))
theorem z24 {C C': CX} (hn: C.n₀=C'.n₀) {h: Heap} {W O: Addr -> Prop} {s: Slot} {v: Value} (hs: zlj s) (r: RepS C h W O s v): RepS C' h W O s v:=by
  rcases hs with ⟨i,rfl⟩ | ⟨xs,rfl⟩
  · cases r with
    | val r=>exact .val r
  · cases r with
    | val r=>
      refine .val ?_
      obtain ⟨a,vs,n,rfl,h1,h2,h3,h4,h5⟩:=r
      exact ⟨a,vs,n,rfl,h1,hn ▸ h2,h3,zw1 h4,h5⟩
theorem zam.relit {C C': CX} (hn: C.n₀=C'.n₀) {c: CE} {env: Env} {W O: Addr -> Prop} {h: Heap} {ρ: Rho} (hp: ∀ (i: Nat) (s: Slot),ρ[i]? = some (some s) -> zlj s) (e: zam C c env W O h ρ): zam C' c env W O h ρ where
  glob:=e.glob
  bui:=e.bui
  kind:=e.kind
  ow:=e.ow
  lo:=hn ▸ e.lo
  loc:=e.loc
  ns:=e.ns
  names:=e.names
  cells:=e.cells
  cinj:=e.cinj
  top:=e.top
  vars:=fun x i s h1 h2 h3=>by obtain ⟨v,g1,g2⟩:=e.vars x i s h1 h2 h3; exact ⟨v,hn ▸ g1,z24 hn (hp i s h3) g2⟩
  apart:=fun x y i j s t v h1 h2 k1 k2 h3 h4 h5 h6 h7 h8=>e.apart x y i j s t v h1 h2 k1 k2 h3 h4 h5 h6 (hn ▸ h7) (hn ▸ h8)
inductive zpi: List Expr -> List (Str × Str) -> Prop
  | nil: zpi [] []
  | cons {a b: Str} {k1 k2 k3: Nat} {p1 p2 p3: Pos} {es: List Expr} {l: List (Str × Str)}: zpi es l -> zpi (.Tuple [.Constant (.str a) k1 p1,.Constant (.str b) k2 p2] k3 p3 :: es) ((a,b) :: l)
theorem ztj {C: CX} {env: Env} {W: Addr -> Prop} {A: Around} {pos: Pos} {E: Value -> Shared -> Prop} {es: List Expr} {l: List (Str × Str)} (he: zpi es l): ∀ {s: Shared} {Q: List Value -> Shared -> Prop},At C W s -> (∀ q ∈ l,q.1.length<=sizeLine/\q.2.length<=sizeLine) ->
    (∀ (j: Nat) (q: Str × Str),l[j]? = some q -> C.lit q.1 (s.toks + 2 * j)/\C.lit q.2 (s.toks + (2 * j + 1))) ->
    (∀ vs s',Ext C s s' -> RepL C s'.heap W (l.map fun q=>.tuple [.lit q.1,.lit q.2]) vs -> Q vs s') -> wpAny (model C.prog C.w) A (spliced (backTo pos (starEach es env))) Q E s:=by
  induction he with
  | nil=>intro s Q _ _ _ q; exact spliced_nil (q [] s (.refl s) rfl)
  | @cons a b k1 k2 k3 p1 p2 p3 es l _ ih=>
    intro s Q a₀ hz hlit q
    have hl0:=hlit 0 (a,b) rfl
    have hz0:=hz (a,b) List.mem_cons_self
    refine spliced_cons (wpAny_Tuple (k:=k3) (pos:=p3) (spliced_cons (Constant_str (k:=k1) (pos:=p1) (spliced_cons (Constant_str (k:=k2) (pos:=p2) (spliced_nil ⟨by rw [sizeLine_eq]; simp,?_⟩))))))
    have e1: Ext C s { s with heap:=s.heap.push (tupO [.str a s.toks,.str b (s.toks + 1)] 0),toks:=s.toks + 1 + 1 }:=⟨.push _ _,by show s.toks<=s.toks + 1 + 1; lia⟩
    have a₁:=a₀.ext e1
    have r1: Rep C (s.heap.push (tupO [.str a s.toks,.str b (s.toks + 1)] 0)) W (.tuple [.lit a,.lit b]) (.ref s.heap.objs.size):=by
      exact ⟨s.heap.objs.size,[.str a s.toks,.str b (s.toks + 1)],0,rfl,a₀.nw,a₀.low,Heap.get?_push_size _ rfl,_,_,rfl,⟨_,rfl,hz0.1,hl0.1⟩,_,_,rfl,⟨_,rfl,hz0.2,hl0.2⟩,rfl⟩
    refine ih (s:={ s with heap:=s.heap.push (tupO [.str a s.toks,.str b (s.toks + 1)] 0),toks:=s.toks + 1 + 1 }) a₁ (fun p hp=>hz p (List.mem_cons_of_mem _ hp)) (fun j p hp=>?_) fun vs s' e' r'=>?_
    · have:=hlit (j + 1) p (by simpa using hp)
      have e2: s.toks + 1 + 1 + 2 * j=s.toks + 2 * (j + 1):=by lia
      have e3: s.toks + 1 + 1 + (2 * j + 1)=s.toks + (2 * (j + 1) + 1):=by lia
      show C.lit p.1 (s.toks + 1 + 1 + 2 * j)/\C.lit p.2 (s.toks + 1 + 1 + (2 * j + 1))
      rw [e2,e3]; exact this
    · refine q _ s' (e1.trans e') ?_
      simp only [List.map_cons]
      exact RepL.cons (r1.ext e'.toExt0) r'
noncomputable def dL (p: Program): DefRec:=(dOf p "law").getD zzi
noncomputable abbrev l02:=dL pw_wc0027_02
noncomputable def cL (d: DefRec): CE:=⟨d.scope,zgf d.scope,[],0⟩
theorem z0e {c: CE} {ss: List Stmt} {l: List PS} (h: (zjn ss c []).map (·.1)=some l): SSs c ss l:=by
  obtain ⟨y,_,rfl⟩:=zaj h
  exact y.2
noncomputable def zgj: List (Str × Str):=zgy.map fun p=>(tx [p.1,p.2.1],tx [p.2.2])
structure z51 (c: CE) (d: DefRec) (as: List Arg): Prop where
  hpar: d.params = ⟨[],as,none,[],[],none,[]⟩
  hn: (as.map (·.arg)).Nodup
  hsc: c.sc=d.scope
  hb: c.base=0
  fs: ze8 d.scope
  hp: Places c (as.map (·.arg)) [27]
  pi: idx c.σ (Str.ofString "pairs")=some 23
  pk: c.sc.names.lookup (Str.ofString "pairs")=some .local
  form: ∃ pre q es pL pA rest,d.body=pre ++ (.Assign [.Name "pairs" q] (.List es pL) pA :: rest)/\SSs c pre (zkb.take 3)/\zpi es zgj/\SSs c rest (zkb.drop 4)
set_option maxHeartbeats 4000000 in
theorem z25: z51 (cL l02) l02 l02.params.args where
  hpar:=rfl
  hn:=by decide +kernel
  hsc:=rfl
  hb:=rfl
  fs:=z2u (by decide +kernel)
  hp:=zf7 (by rfl)
  pi:=by decide +kernel
  pk:=by decide +kernel
  form:=⟨l02.body.take 3,_,_,_,_,l02.body.drop 4,rfl,z0e (by rfl),.cons (.cons (.cons (.cons (.cons (.cons (.cons (.cons .nil))))))),z0e (by rfl)⟩
theorem l02_step: Step.fn l02 ∈ steps pw_wc0027_02:=(zks (name:="law") (by rfl)).1
theorem zzo: l02.name = "law" := by rfl
noncomputable def litR (t0: Nat) (x: Str) (t: Nat): Prop:=∃ (j: Nat) (q: Str × Str),zgj[j]? = some q/\((x=q.1/\t=t0 + 2 * j) \/ (x=q.2/\t=t0 + (2 * j + 1)))
theorem zhl {t0: Nat} (h: 0 < t0) {x: Str} {t: Nat} (r: litR t0 x t): t ≠ 0:=by
  obtain ⟨j,q,_,h1 | h1⟩:=r
  · have:=h1.2; lia
  · have:=h1.2; lia
theorem zhm {t0: Nat} {x y: Str} {t: Nat} (a: litR t0 x t) (b: litR t0 y t): x=y:=by
  obtain ⟨i,p,hp,h1⟩:=a
  obtain ⟨j,q,hq,h2⟩:=b
  rcases h1 with ⟨rfl,e1⟩ | ⟨rfl,e1⟩ <;> rcases h2 with ⟨rfl,e2⟩ | ⟨rfl,e2⟩
  · obtain rfl: i=j:=by lia
    rw [hp] at hq; replace hq:=oj hq; subst hq; rfl
  · lia
  · lia
  · obtain rfl: i=j:=by lia
    rw [hp] at hq; replace hq:=oj hq; subst hq; rfl
theorem zw2 {C: CX} {h: Heap} {W: Addr -> Prop} {vs: List Value} {ns: List Int} (x: IntsAre vs ns): RepL C h W (ns.map .int) vs:=by
  induction x with
  | nil=>rfl
  | cons i t _ ih=>
    exact ⟨_,_,rfl,⟨t,rfl⟩,ih⟩
theorem zqx: zgj.all (fun q=>decide (q.1.length<=1000) && decide (q.2.length<=1000))=true:=by decide +kernel
theorem ztk {o24 o25: List Int} {m: Int} {ns: List Int}: ∀ (i: Nat) (s: Slot),(zlg (some (.val (.int m))) (some (.val (.list (o24.map .int)))) (some (.val (.list (o25.map .int)))) ns)[i]? = some (some s) -> zlj s:=fun i s h=>by
  unfold zlg at h
  rcases Nat.lt_or_ge i 24 with hi | hi
  · rw [List.getElem?_append_left (by simpa using hi),List.getElem?_replicate] at h
    split at h <;> simp at h
  · rw [List.getElem?_append_right (by simpa using hi),List.length_replicate] at h
    generalize i - 24=j at h
    rcases j with _ | _ | _ | _ | _ | _ | _ | j
    · simp at h; subst h; exact .inl ⟨_,rfl⟩
    · simp at h; subst h; exact .inr ⟨_,rfl⟩
    · simp at h; subst h; exact .inr ⟨_,rfl⟩
    · simp at h; subst h; exact .inr ⟨_,rfl⟩
    · simp at h
    · simp at h
    · simp at h
    · simp at h
theorem call02 {w: World} {s: Shared} {mg mb: Str -> Option Value} {k ad: Addr} {ns: List Int} (hlen: ns.length<=63) (H: zes pw_wc0027_02 w s mg mb k ad ns) {f: Value} (hf: mg (Str.ofString "law")=some f) {Q E: Value -> Shared -> Prop}
    (q: ∀ s',(∀ b o,s.heap.get? b=some o -> OldO s.heap s'.heap b o) -> s'.os=s.os -> s'.gens = #[] -> Q (.bool true) s'): wpAny (model pw_wc0027_02 w) callerA (PySem.call f [.ref ad]) Q E s:=by
  obtain ⟨a,code,P,o,pm,doc,X⟩:=znt H l02_step
  have hg:=X.g
  rw [zzo] at hg
  obtain rfl: f = .ref a:=Option.some.inj (hf.symm.trans hg)
  obtain ⟨tabs,N,hok⟩:=z23 H
  obtain ⟨hpar,hn,hsc,hb,fs,hp,pi,pk,pre,q0,es,pL,pA,rest,hbody,hpre,hpairs,hrest⟩:=z25
  have ok:=hok (fun _ _=>False) (fun h=>h.elim) (fun h=>h.elim) 14
  obtain ⟨vs,hvs,hints⟩:=H.script
  have at': At (zbm H N (fun _ _=>False) (fun h=>h.elim) (fun h=>h.elim)) (fun _=>False) s:=⟨⟨fun b o _ _ e=>e,fun q hq=>.new (N.at' q hq)⟩,fun b h=>h.elim,H.tok⟩
  have hr: RepL (zbm H N (fun _ _=>False) (fun h=>h.elim) (fun h=>h.elim)) s.heap (fun _=>False) [.list (ns.map .int)] [.ref ad]:=by
    exact ⟨_,_,rfl,⟨ad,vs,0,rfl,(fun h=>h),H.lo,hvs,zw2 hints,by rw [sizeLine_eq,List.length_map]; exact Nat.le_trans ‹_› (by decide)⟩,rfl⟩
  have hinv:=X.inv H N (lit:=fun _ _=>False) (litNz:=fun h=>h.elim) (litNe:=fun h=>h.elim)
  refine wpAny_call (zgd (fd:=l02.data pm (.ref code) doc) (body:=l02.body) (by decide) (hinv _ at'.inv).1 X.dt H.nolimit (hinv _ at'.inv).2 rfl (zfv (fd:=l02.data pm (.ref code) doc) hpar rfl (by have:=hp.length; simpa using this) hn) rfl (zjf (fun x=>.inl (by rw [hsc])) hp fs) fs.noco fs.nogen fs.kind fun s₁ ic htk=>?_)
  obtain ⟨ext,hfr,ev,a₁⟩:=zh8 (C:=zbm H N (fun _ _=>False) (fun h=>h.elim) (fun h=>h.elim)) (c:=cL l02) (fd:=l02.data pm (.ref code) doc) (a:=a) (ρ₀:=List.replicate 31 none) (ρ:=zlg none none none ns) (fun x=>.inl (by rw [hsc]; rfl)) hb fs rfl rfl hp hn hr at' (fun i h=>by
      rw [List.getElem?_replicate] at h ⊢
      split at h
      · exact absurd rfl h
      · rename_i q; rw [if_neg q]) htk rfl ic
  have eO: ∀ b,allO (callEnvC (l02.data pm (.ref code) doc) s.heap.objs.size a) b -> entO (cL l02) (callEnvC (l02.data pm (.ref code) doc) s.heap.objs.size a) b:=fun b hb'=>hb'.imp_right fun ⟨x,h⟩=>⟨x,(fun h1=>by
    have h2: (l02.scope.names.lookup x)=none:=by rw [<- hsc]; exact h1
    have h3: (l02.scope.names.lookup x).isSome=true:=zgv h
    rw [h2] at h3; exact ft h3),h⟩
  generalize callEnvC (l02.data pm (.ref code) doc) s.heap.objs.size a=env at *
  have fr: Fr' (zbm H N (fun _ _=>False) (fun h=>h.elim) (fun h=>h.elim)) s (fun _=>False) (fun _=>False) (fun b=>False \/ allO env b) (entO (cL l02) env) s₁:=
    ⟨ext.toO,fun b hb'=>hb'.imp_right (eO b),fun b hb'=>hb'.elim,fun b hb'=>.inr (hfr b hb'.all),fun b hb'=>hb'.elim⟩
  have rm: Room (callerA.deeper env) 14:=⟨rfl,by show 301 + 1 + 2 * 14 + 110 < recursionLimit; decide,by show 4 + 3 + 16 * 14 + 200 < cLine; decide⟩
  rw [hbody]
  refine zin (hpre _ _ _ ok env _ s _ _ rm _ _ s₁ _ _ fr ev a₁ (zzc ns) _ _ ?_)
  intro W₂ O₂ s₂ fr₂ ev₂ a₂
  have ok':=hok (litR s₂.toks) (fun h=>zhl a₂.tok h) (fun a b=>zhm a b) 14
  have ev₂': zam (zbm H N (litR s₂.toks) (fun h=>zhl a₂.tok h) (fun a b=>zhm a b)) (cL l02) env W₂ O₂ s₂.heap _:=zam.relit (C:=zbm H N (fun _ _=>False) (fun h=>h.elim) (fun h=>h.elim)) (C':=zbm H N (litR s₂.toks) (fun h=>zhl a₂.tok h) (fun a b=>zhm a b)) rfl (ztk (m:=2 + (1 + zbh (sgL ns) 0) % 3) (o24:=[1 + zbh (sgL ns) 0,8086 + zbh (sgL ns) 1,271828 + zbh (sgL ns) 2,25 + zbh (sgL ns) 3,4805772 + zbh (sgL ns) 4]) (o25:=sgL ns) (ns:=ns)) ev₂
  have a₂': At (zbm H N (litR s₂.toks) (fun h=>zhl a₂.tok h) (fun a b=>zhm a b)) W₂ s₂:=⟨a₂.inv,a₂.wocc,a₂.tok⟩
  have fr₂': Fr' (zbm H N (litR s₂.toks) (fun h=>zhl a₂.tok h) (fun a b=>zhm a b)) s (fun _=>False) (fun _=>False) W₂ O₂ s₂:=⟨⟨fr₂.ext.new,fr₂.ext.occ,fr₂.ext.inv,fr₂.ext.gens,fr₂.ext.drawn,fr₂.ext.os,fr₂.ext.toks⟩,fr₂.w,fr₂.w0,fr₂.fresh,fr₂.dj⟩
  have at₀': At (zbm H N (litR s₂.toks) (fun h=>zhl a₂.tok h) (fun a b=>zhm a b)) (fun _=>False) s:=⟨at'.inv,at'.wocc,at'.tok⟩
  have hlit: ∀ (j: Nat) (p: Str × Str),zgj[j]? = some p -> litR s₂.toks p.1 (s₂.toks + 2 * j)/\litR s₂.toks p.2 (s₂.toks + (2 * j + 1)):=fun j p hp'=>⟨⟨j,p,hp',.inl ⟨rfl,rfl⟩⟩,⟨j,p,hp',.inr ⟨rfl,rfl⟩⟩⟩
  have hsz: ∀ p ∈ zgj,p.1.length<=sizeLine/\p.2.length<=sizeLine:=fun p hp'=>by
    have:=List.all_eq_true.mp zqx p hp'
    simp only [Bool.and_eq_true,decide_eq_true_eq] at this
    rw [sizeLine_eq]; lia
  generalize hC: zbm H N (litR s₂.toks) (fun h=>zhl a₂.tok h) (fun a b=>zhm a b)=C' at *
  have hCp: C'.prog=pw_wc0027_02:=by rw [<- hC]; rfl
  have hCw: C'.w=w:=by rw [<- hC]; rfl
  have hClit: ∀ {x: Str} {t: Nat},litR s₂.toks x t -> C'.lit x t:=fun {x t} h=>by rw [<- hC]; exact h
  have hCn: C'.n₀=k + 1:=by rw [<- hC]; rfl
  have hCi: ∀ h,C'.Inv h -> (∀ b o,b<=k -> b ∉ tabs.map (fun q: zb9=>q.1) -> s.heap.get? b=some o -> h.get? b=some o) /\ ∀ q ∈ tabs,TabOk (k + 1) h q:=fun h hi=>by rw [<- hC] at hi; exact hi
  rw [<- hCp,<- hCw]
  refine wpAny_execs_cons (wpAny_Assign_Name (wpAny_List (ztj hpairs a₂' hsz (fun j p hp'=>⟨hClit (hlit j p hp').1,hClit (hlit j p hp').2⟩) fun vs' s₃ e₃ r₃=>⟨?_,?_⟩)) (ze7 rfl rfl))
  · rw [r₃.length,List.length_map,sizeLine_eq]; decide
  have a₃:=a₂'.ext e₃
  have e₄: Ext C' s₃ { s₃ with heap:=s₃.heap.push (za5 vs' 0) }:=zcd
  have rep: Rep C' (s₃.heap.push (za5 vs' 0)) W₂ zj1 (.ref s₃.heap.objs.size):=by
    unfold zj1
    refine ⟨_,vs',0,rfl,a₃.nw,a₃.low,Heap.get?_push_size _ rfl,?_,by rw [sizeLine_eq]; decide⟩
    have:=r₃.ext e₄.toExt0
    unfold zgj at this
    rw [List.map_map] at this
    exact this
  refine zbn (ev₂'.ext (e₃.trans e₄).toExt0) pi (.inl pk) (.val rep) (fun h=>by exact ft h) fun s₅ e₅ ev₅=>?_
  have fr₅:=(fr₂'.ext' (e₃.trans e₄)).step e₅ fun b hb'=>(ev₂'.ext (e₃.trans e₄).toExt0).owr hb'
  have a₅:=(a₂'.ext (e₃.trans e₄)).extO e₅
  obtain ⟨m,hm,hme⟩: ∃ m: Nat,(m=2 \/ m=3 \/ m=4)/\2 + (1 + zbh (sgL ns) 0) % 3=(m: Int):=by
    obtain ⟨j,hj,hj3⟩: ∃ j: Nat,(1 + zbh (sgL ns) 0) % 3=(j: Int)/\j < 3:=modN _ 3 (by decide)
    rw [hj]
    exact match j,hj3 with
      | 0,_=>⟨2,.inl rfl,rfl⟩
      | 1,_=>⟨3,.inr (.inl rfl),rfl⟩
      | 2,_=>⟨4,.inr (.inr rfl),rfl⟩
  have hz: (25 + zbh (sgL ns) 3).natAbs<=60 * 10 ^ 12 + 100:=by
    have:=zte ns 3
    have:=Int.natAbs_add_le 25 (zbh (sgL ns) 3)
    lia
  rw [hme] at ev₅
  refine hrest _ _ _ ok' env _ s _ _ rm W₂ O₂ s₅ _ (.ret (.bool true)) fr₅ ev₅ a₅ (zzh (d:=0) hm hz) _ _ fun val s' x r=>?_
  have hv: val = .bool true:=r
  subst hv
  refine q s' (fun b o e=>?_) x.os (x.gens.trans H.gens)
  rcases Nat.lt_or_ge k b with hb' | hb'
  · exact .inl (x.new b o (by rw [hCn]; exact hb') (fun h=>h) e)
  · obtain ⟨i1,i2⟩:=hCi _ (x.inv at₀'.inv)
    by_cases ht: b ∈ tabs.map (fun q: zb9=>q.1)
    · obtain ⟨qq,hq,rfl⟩:=List.mem_map.mp ht
      obtain ⟨ps,hps,_⟩:=i2 qq hq
      rw [N.at' qq hq] at e; replace e:=oj e; subst e
      exact .inr ⟨N.ct qq hq,rfl,ps,hps⟩
    · exact .inl (i1 b o hb' ht e)
end Mine
namespace Mine
open PySem PySem.W PySem.Calls PyProof.Rows PySem.Challenge
set_option maxRecDepth 100000
theorem dL_def: pw_wc0027_02.theDef (Str.ofString "law")=some (l02.params,l02.body,l02.scope):=by rfl
end Mine
set_option maxRecDepth 100000 in
set_option maxHeartbeats 8000000 in
theorem PySem.Challenge.cw_wc0027_02_holds : PySem.Challenge.rw_wc0027_02.Holds :=
  Mine.law_holds (d:=Mine.l02) (by decide +kernel) rfl rfl rfl (by decide +kernel) (by rfl) (by rfl) (by rfl) (fun _=>rfl) ⟨rfl,rfl,rfl,rfl,rfl,by decide +kernel⟩ (by decide +kernel) ⟨[.list []],by decide +kernel,by decide +kernel⟩ Mine.l02_step (by rfl) Mine.dL_def (by rfl) (by rfl)
    fun _ _ _ _ _ _ _ hl H _ hf _ _ q=>Mine.call02 hl H hf q
