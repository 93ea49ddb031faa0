import PyProof.Rows.All
import Wide.All
import OpenK.AllK
import Wide.FinOn
import PySem.Challenge.RW_wv0016_01
open PySem PySem.W PyProof.Rows PySem.Calls
set_option Elab.async false
set_option maxRecDepth 100000
set_option maxHeartbeats 0
set_option linter.all false
namespace Mine
open_top tp for PySem.Challenge.rw_wv0016_01.row
end Mine
namespace Mine
set_option genSizeOf false
set_option genInjectivity false
inductive PV where
  | none
  | bool (b : Bool)
  | int (i : Int)
  | str (s : Str)
  | bytes (b : Array UInt8)
  | tup (l : List PV)
  | lst (l : List PV)
  | obj (a : Addr)
  | bi (id : String)
  | ty (n : String)
mutual
inductive Rel (ok : Addr → Prop) (h : Heap) : Value → PV → Prop
  | none : Rel ok h .none .none
  | bool (b : Bool) : Rel ok h (.bool b) (.bool b)
  | int (i : Int) (t : Tok) : Rel ok h (.int i t) (.int i)
  | str (x : Str) (t : Tok) : Rel ok h (.str x t) (.str x)
  | bytes (b : Array UInt8) (t : Tok) : Rel ok h (.bytes b t) (.bytes b)
  | tup {a : Addr} {vs : List Value} {l : List PV} : ok a → h.IsTuple a vs.toArray → Rels ok h vs l → Rel ok h (.ref a) (.tup l)
  | lst {a : Addr} {vs : List Value} {l : List PV} : ok a → h.IsList a vs.toArray → Rels ok h vs l → Rel ok h (.ref a) (.lst l)
  | obj (a : Addr) : Rel ok h (.ref a) (.obj a)
  | bi (id : String) : Rel ok h (.builtin id) (.bi id)
  | ty (n : String) : Rel ok h (.type n) (.ty n)
inductive Rels (ok : Addr → Prop) (h : Heap) : List Value → List PV → Prop
  | nil : Rels ok h [] []
  | cons {v : Value} {vs : List Value} {p : PV} {l : List PV} : Rel ok h v p → Rels ok h vs l → Rels ok h (v :: vs) (p :: l)
end
noncomputable def Sk (ok ok' : Addr → Prop) (h h' : Heap) : Prop := ∀ a o xs n, h.get? a = some o → o.data = .seq xs n → ok a → h'.get? a = some o ∧ ok' a
theorem tuple_step {ok ok' : Addr → Prop} {h h' : Heap} (k : Sk ok ok' h h') {a : Addr} {xs : Array Value} (x : h.IsTuple a xs) (hok : ok a) : h'.IsTuple a xs ∧ ok' a :=
  x.elim fun o x => x.2.2.elim fun n r => ⟨⟨o, (k a o xs n x.1 r hok).1, x.2⟩, (k a o xs n x.1 r hok).2⟩
theorem list_step {ok ok' : Addr → Prop} {h h' : Heap} (k : Sk ok ok' h h') {a : Addr} {xs : Array Value} (x : h.IsList a xs) (hok : ok a) : h'.IsList a xs ∧ ok' a :=
  x.elim fun o x => x.2.2.elim fun n r => ⟨⟨o, (k a o xs n x.1 r hok).1, x.2⟩, (k a o xs n x.1 r hok).2⟩
section
variable {ok ok' : Addr → Prop} {h h' : Heap} {v : Value} {p : PV} {vs ws : List Value} {l l' : List PV}
theorem Rel.step (k : Sk ok ok' h h') (r : Rel ok h v p) : Rel ok' h' v p :=
  Rel.rec (motive_1 := fun v p _ => Rel ok' h' v p) (motive_2 := fun vs l _ => Rels ok' h' vs l) .none .bool .int .str .bytes
    (fun q x _ r => .tup (tuple_step k x q).2 (tuple_step k x q).1 r) (fun q x _ r => .lst (list_step k x q).2 (list_step k x q).1 r) .obj .bi .ty .nil (fun _ _ a b => .cons a b) r
theorem Rels.step (k : Sk ok ok' h h') (r : Rels ok h vs l) : Rels ok' h' vs l :=
  Rels.rec (motive_1 := fun _ _ _ => True) (motive_2 := fun vs l _ => Rels ok' h' vs l) ⟨⟩ (fun _ => ⟨⟩) (fun _ _ => ⟨⟩) (fun _ _ => ⟨⟩) (fun _ _ => ⟨⟩)
    (fun _ _ _ _ => ⟨⟩) (fun _ _ _ _ => ⟨⟩) (fun _ => ⟨⟩) (fun _ => ⟨⟩) (fun _ => ⟨⟩) .nil (fun a _ _ b => .cons (a.step k) b) r
theorem Sk.weak (ho : ∀ a, ok a → ok' a) : Sk ok ok' h h := fun _ _ _ _ e _ q => ⟨e, ho _ q⟩
theorem Rel.weak (x : Rel ok h v p) (ho : ∀ a, ok a → ok' a) : Rel ok' h v p := x.step (.weak ho)
theorem Rels.weak (x : Rels ok h vs l) (ho : ∀ a, ok a → ok' a) : Rels ok' h vs l := x.step (.weak ho)
theorem Rel.int' {i : Int} (r : Rel ok h v (.int i)) : ∃ t, v = .int i t := by cases r; exact ⟨_, rfl⟩
theorem Rel.str' {i : Str} (r : Rel ok h v (.str i)) : ∃ t, v = .str i t := by cases r; exact ⟨_, rfl⟩
theorem Rel.bytes' {i : Array UInt8} (r : Rel ok h v (.bytes i)) : ∃ t, v = .bytes i t := by cases r; exact ⟨_, rfl⟩
theorem Rel.bool' {i : Bool} (r : Rel ok h v (.bool i)) : v = .bool i := by cases r; rfl
theorem Rel.none' (r : Rel ok h v .none) : v = .none := by cases r; rfl
theorem Rel.obj' {a : Addr} (r : Rel ok h v (.obj a)) : v = .ref a := by cases r; rfl
theorem Rel.bi' {a : String} (r : Rel ok h v (.bi a)) : v = .builtin a := by cases r; rfl
theorem Rel.ty' {a : String} (r : Rel ok h v (.ty a)) : v = .type a := by cases r; rfl
theorem Rel.tup' (r : Rel ok h v (.tup l)) : ∃ a vs, v = .ref a ∧ ok a ∧ h.IsTuple a vs.toArray ∧ Rels ok h vs l := by cases r with | tup x y z => exact ⟨_, _, rfl, x, y, z⟩
theorem Rel.lst' (r : Rel ok h v (.lst l)) : ∃ a vs, v = .ref a ∧ ok a ∧ h.IsList a vs.toArray ∧ Rels ok h vs l := by cases r with | lst x y z => exact ⟨_, _, rfl, x, y, z⟩
theorem Rels.nil' (r : Rels ok h vs []) : vs = [] := by cases r; rfl
theorem Rels.cons' (r : Rels ok h vs (p :: l)) : ∃ v ws, vs = v :: ws ∧ Rel ok h v p ∧ Rels ok h ws l := by cases r with | cons x y => exact ⟨_, _, rfl, x, y⟩
theorem Rels.ind {P : List Value → List PV → Prop} (h0 : P [] []) (hc : ∀ {v vs p l}, Rel ok h v p → Rels ok h vs l → P vs l → P (v :: vs) (p :: l)) (r : Rels ok h vs l) : P vs l :=
  Rels.rec (motive_1 := fun _ _ _ => True) (motive_2 := fun vs l _ => P vs l) ⟨⟩ (fun _ => ⟨⟩) (fun _ _ => ⟨⟩) (fun _ _ => ⟨⟩) (fun _ _ => ⟨⟩)
    (fun _ _ _ _ => ⟨⟩) (fun _ _ _ _ => ⟨⟩) (fun _ => ⟨⟩) (fun _ => ⟨⟩) (fun _ => ⟨⟩) h0 (fun a b _ c => hc a b c) r
theorem Rels.length (x : Rels ok h vs l) : vs.length = l.length := x.ind (P := fun vs l => vs.length = l.length) rfl fun _ _ e => congrArg (· + 1) e
theorem Rels.append (x : Rels ok h vs l) (y : Rels ok h ws l') : Rels ok h (vs ++ ws) (l ++ l') := x.ind (P := fun vs l => Rels ok h (vs ++ ws) (l ++ l')) y fun a _ r => .cons a r
theorem Rels.one (x : Rel ok h v p) : Rels ok h [v] [p] := .cons x .nil
theorem Rels.take (x : Rels ok h vs l) : ∀ n, Rels ok h (vs.take n) (l.take n) :=
  x.ind (P := fun vs l => ∀ n, Rels ok h (vs.take n) (l.take n)) (fun n => by cases n <;> exact .nil) fun a _ r n => n.casesOn .nil fun n => .cons a (r n)
theorem Rels.drop (x : Rels ok h vs l) : ∀ n, Rels ok h (vs.drop n) (l.drop n) :=
  x.ind (P := fun vs l => ∀ n, Rels ok h (vs.drop n) (l.drop n)) (fun n => by cases n <;> exact .nil) fun a y r n => n.casesOn (.cons a y) r
theorem Rels.reverse (x : Rels ok h vs l) : Rels ok h vs.reverse l.reverse :=
  x.ind (P := fun vs l => Rels ok h vs.reverse l.reverse) .nil fun a _ r => by rw [List.reverse_cons, List.reverse_cons]; exact r.append (.one a)
theorem Rels.get (x : Rels ok h vs l) : ∀ {i : Nat} {p : PV}, l[i]? = some p → ∃ v, vs[i]? = some v ∧ Rel ok h v p :=
  x.ind (P := fun vs l => ∀ {i : Nat} {p : PV}, l[i]? = some p → ∃ v, vs[i]? = some v ∧ Rel ok h v p) (fun e => nomatch e) fun a _ r i => i.casesOn (fun e => Option.some.inj e ▸ ⟨_, rfl, a⟩) fun _ e => r e
noncomputable def Rel0 (ok : Addr → Prop) (h : Heap) (v : Value) : PV → Prop
  | .lst l => ∃ a vs, v = .ref a ∧ h.IsList a vs.toArray ∧ Rels ok h vs l
  | p => Rel ok h v p
theorem Rel.rd (x : Rel ok h v p) : Rel0 ok h v p := by
  cases p with
  | lst l => exact x.lst'.elim fun a y => ⟨a, y.elim fun vs z => ⟨vs, z.1, z.2.2⟩⟩
  | _ => exact x
theorem Rel0.all (x : Rel0 ok h v p) : Rel (fun _ => True) h v p := by
  cases p with
  | lst l => obtain ⟨a, vs, rfl, i, r⟩ := x; exact .lst trivial i (r.weak fun _ _ => trivial)
  | _ => exact Rel.weak x fun _ _ => trivial
end
structure Bs where
  g : Heap
  T : Addr → Prop
  TI : Heap → Prop
  mg : Str → Option Value
  mb : Str → Option Value
structure Bs.Ok (B : Bs) : Prop where
  g1 : B.g.Ns mainGlobals B.mg
  b1 : B.g.Ns builtinsNs B.mb
  nolim : B.g.NoLimit
  noT : ∀ b o, B.g.get? b = some o → ¬ B.T b
  tf : ∀ h a o, B.TI h → B.T a → h.get? a = some o → ∃ vs, o.data = .fields vs
  tex : ∀ h a, B.TI h → B.T a → ∃ o, h.get? a = some o
  tiW : ∀ (W : Addr → Prop) (h h' : Heap), (∀ a o, W a → h.get? a = some o → (∀ vs, o.data ≠ .fields vs) ∨ (∃ c, o.cls = .type c ∧ c ≠ "code")) → (∀ a o, ¬ W a → h.get? a = some o → h'.get? a = some o) → B.TI h → B.TI h'
noncomputable def Glob (B : Bs) (h : Heap) : Prop := (∀ b o, B.g.get? b = some o → h.get? b = some o) ∧ B.TI h
noncomputable def Grow (B : Bs) (L : Addr) (s s' : Shared) : Prop :=
  ∃ h tk, s' = { s with heap := h, toks := tk } ∧ (∀ a o, a ≠ L → ¬ B.T a → s.heap.get? a = some o → h.get? a = some o) ∧ (∀ m, s.heap.Ns L m → h.Ns L m) ∧ (B.TI s.heap → B.TI h)
theorem Glob.noT {B : Bs} (O : B.Ok) {h : Heap} (G : Glob B h) {a : Addr} {o : Obj} (e : h.get? a = some o) (hd : ∀ vs, o.data ≠ .fields vs) : ¬ B.T a := fun q => (O.tf _ _ _ G.2 q e).elim hd
theorem Ns.uniq {h : Heap} {L : Addr} {m m' : Str → Option Value} (x : h.Ns L m) (y : h.Ns L m') : m = m' := by
  obtain ⟨o, es, ep, e1, e2, _, e4⟩ := x
  obtain ⟨o', es', ep', f1, f2, _, f4⟩ := y
  obtain rfl := Option.some.inj (e1.symm.trans f1)
  have e := e2.symm.trans f2
  injection e with e _
  subst e
  exact funext fun x => (e4 x).symm.trans (f4 x)
noncomputable def IsDict (h : Heap) (a : Addr) : Prop := ∃ o es n, h.get? a = some o ∧ o.data = .dict es n
theorem Ns.dict {h : Heap} {L : Addr} {m : Str → Option Value} (x : h.Ns L m) : IsDict h L := x.elim fun o x => x.elim fun es x => x.elim fun n x => ⟨o, es, n, x.1, x.2.1⟩
theorem IsDict.ne {h : Heap} {a b : Addr} (x : IsDict h a) {o : Obj} (e : h.get? b = some o) (hd : ∀ es n, o.data ≠ .dict es n) : b ≠ a := fun q => by
  obtain ⟨o', es, n, e', d⟩ := x
  exact hd es n (Option.some.inj (e.symm.trans (q ▸ e')) ▸ d)
noncomputable def listOb (vs : List Value) (n : Nat) : Obj := { cls := .type "list", data := .seq vs.toArray n }
theorem get_new {h : Heap} {b : Addr} (hb : h.objs.size ≤ b) : h.get? b = none := by
  cases e : h.get? b with
  | none => rfl
  | some o => exact absurd (Heap.lt_size e) (Nat.not_lt.mpr hb)
end Mine
namespace Mine
set_option genSizeOf false
set_option genInjectivity false
noncomputable def NoE : Value → Shared → Prop := fun _ _ => False
noncomputable def seqMax : Nat := 2 ^ 20
structure Room (k : Nat) (A : Around) : Prop where
  handled : A.handled = none
  depth : A.depth + k ≤ 500
  units : A.units + 50 * k ≤ 5000
theorem Room.deeper {k : Nat} {A : Around} (r : Room (k + 1) A) (env : Env) : Room k (A.deeper env) := ⟨r.handled, Nat.add_right_comm A.depth 1 k ▸ r.depth, Nat.le_trans (Nat.add_assoc A.units 3 (50 * k) ▸ Nat.add_le_add_left (Nat.add_comm 3 (50 * k) ▸ Nat.add_le_add_left (by decide) _) _) r.units⟩
inductive RV where
  | val (p : PV)
  | own
  | rd (p : PV)
noncomputable abbrev Loc := List (Str × RV)
noncomputable abbrev Sto := Option (List PV)
noncomputable def RRel (as : Option Addr) (ok : Addr → Prop) (h : Heap) (v : Value) : RV → Prop
  | .val p => Rel ok h v p
  | .own => ∃ a, as = some a ∧ v = .ref a
  | .rd p => Rel ok h v p ∨ ∃ a vs n l, as = some a ∧ v = .ref a ∧ p = .lst l ∧ h.get? a = some (listOb vs n) ∧ Rels ok h vs l
inductive Pend where
  | one (v : Value) (r : RV)
  | row (vs : List Value) (l : List PV)
  | mix (vs : List Value) (l : List PV)
inductive Rels0 (ok : Addr → Prop) (h : Heap) : List Value → List PV → Prop
  | nil : Rels0 ok h [] []
  | cons {v : Value} {vs : List Value} {p : PV} {l : List PV} : Rel0 ok h v p → Rels0 ok h vs l → Rels0 ok h (v :: vs) (p :: l)
noncomputable def Mix (as : Option Addr) (ok : Addr → Prop) (h : Heap) : List Value → List PV → Prop
  | [], [] => True
  | v :: vs, p :: l => RRel as ok h v (.rd p) ∧ Mix as ok h vs l
  | _, _ => False
noncomputable def Stk (as : Option Addr) (ok : Addr → Prop) (h : Heap) : List Pend → Prop
  | [] => True
  | .one v r :: t => RRel as ok h v r ∧ Stk as ok h t
  | .row vs l :: t => Rels ok h vs l ∧ Stk as ok h t
  | .mix vs l :: t => Mix as ok h vs l ∧ Stk as ok h t
noncomputable def OwnOk (ok : Addr → Prop) (h : Heap) (σ : Sto) (as : Option Addr) : Prop := (σ = none → as = none) ∧ ∀ l, σ = some l → ∃ a vs n, as = some a ∧ h.get? a = some (listOb vs n) ∧ Rels ok h vs l
structure Ws where
  prog : Program
  w : World
  B : Bs
  k : Nat
  O : B.Ok
noncomputable abbrev Ws.M (W : Ws) : Model := model W.prog W.w
noncomputable def Rest (s₀ s : Shared) : Prop := ∃ h tk, s = { s₀ with heap := h, toks := tk }
theorem Rest.step {s₀ s : Shared} (x : Rest s₀ s) (h : Heap) (tk : Nat) : Rest s₀ { s with heap := h, toks := tk } := x.elim fun _ x => x.elim fun _ e => ⟨h, tk, e ▸ rfl⟩
noncomputable def Celly (env : Env) (x : Str) : Prop := env.kindOf x = some .cell ∨ env.kindOf x = some .free
noncomputable def FrStat (l : List Env) : Prop := ∀ e ∈ l, e.scope.kind ≠ .module ∧ ∃ L, e.frame = some L
noncomputable abbrev framesOf (l : List Env) : List Addr := l.filterMap (·.frame)
structure Fr (W : Ws) where
  A : Around
  env : Env
  ro : Bool
  outer : List Env
  Kp : Addr → Obj → Prop
  KF : Addr → Obj → Prop
  XK : Addr → Prop
  s₀ : Shared
  room : Room W.k A
  kind : env.scope.kind = .function
  gl : env.globals = mainGlobals
  bu : env.builtins = builtinsNs
  newL : W.B.g.get? env.locals = none
  cndup : ∀ x y c, env.cells.lookup x = some c → env.cells.lookup y = some c → Celly env x → Celly env y → x = y
  kpL : ∀ o, ¬ Kp env.locals o ∧ ¬ KF env.locals o
  kpC : ro = false → ∀ x c, env.kindOf x = some .cell → env.cells.lookup x = some c → ∀ o, ¬ Kp c o ∧ ¬ KF c o
  kpF : ∀ a o, Kp a o → ¬ W.B.T a
  kfT : ∀ a o, KF a o → ¬ W.B.T a ∧ ∃ es n, o.data = .dict es n
variable {W : Ws}
noncomputable def Fr.dat (F : Fr W) (as : Option Addr) (a : Addr) : Prop := ¬ F.XK a ∧ as ≠ some a
noncomputable def Fr.hid (F : Fr W) (X' : Addr → Prop) : Fr W := { F with XK := X' }
noncomputable def IsSeq (h : Heap) (a : Addr) : Prop := ∃ o xs n, h.get? a = some o ∧ o.data = .seq xs n
noncomputable def Look (env : Env) (h : Heap) (x : Str) (v : Value) : Prop :=
  (env.kindOf x = some .local → ∃ m, h.Ns env.locals m ∧ m x = some v) ∧ (Celly env x → ∃ c, env.cells.lookup x = some c ∧ h.IsCell c (some v))
structure Inv (F : Fr W) (ρ : Loc) (σ : Sto) (stk : List Pend) (as : Option Addr) (s : Shared) : Prop where
  rest : Rest F.s₀ s
  glob : Glob W.B s.heap
  fs : ∀ a ∈ framesOf F.outer, IsDict s.heap a ∧ W.B.g.get? a = none
  kf : ∀ a o, F.KF a o → ∃ sl, s.heap.get? a = some { o with slots := sl }
  kp : ∀ a o, F.Kp a o → s.heap.get? a = some o
  xk : ∀ a, ¬ F.dat as a → IsSeq s.heap a ∧ W.B.g.get? a = none
  ns : ∃ m, s.heap.Ns F.env.locals m
  names : ∀ x r, ρ.lookup x = some r → ∃ v, Look F.env s.heap x v ∧ RRel as (F.dat as) s.heap v r
  cex : ∀ x, Celly F.env x → ∃ c v, F.env.cells.lookup x = some c ∧ s.heap.IsCell c v ∧ W.B.g.get? c = none
  asX : ∀ a, as = some a → ¬ F.XK a ∧ ∀ o, ¬ F.Kp a o
  own : OwnOk (F.dat as) s.heap σ as
  stk : Stk as (F.dat as) s.heap stk
section
variable {F : Fr W} {ρ ρ' : Loc} {σ σ' : Sto} {stk stk' : List Pend} {as as' : Option Addr} {s s' : Shared} {h h' : Heap} {v u : Value} {p q : PV} {r : RV} {ok ok' : Addr → Prop} {vs : List Value} {l l' : List PV} {x : Str} {a : Addr}
theorem RRel.step (k : Sk ok ok' h h') (ha : ∀ a, as = some a → as' = some a ∧ ∀ o, h.get? a = some o → h'.get? a = some o) (x : RRel as ok h v r) : RRel as' ok' h' v r := by
  cases r with
  | val p => exact Rel.step k x
  | own => exact x.elim fun a y => ⟨a, (ha a y.1).1, y.2⟩
  | rd p =>
    rcases x with x | ⟨a, vs, n, l, e, e2, e3, e4, e5⟩
    · exact .inl (x.step k)
    · exact .inr ⟨a, vs, n, l, (ha a e).1, e2, e3, (ha a e).2 _ e4, e5.step k⟩
theorem Mix.step (k : Sk ok ok' h h') (ha : ∀ a, as = some a → as' = some a ∧ ∀ o, h.get? a = some o → h'.get? a = some o) : ∀ {vs : List Value} {l : List PV}, Mix as ok h vs l → Mix as' ok' h' vs l
  | [], [], _ => ⟨⟩
  | _ :: _, _ :: _, x => ⟨x.1.step k ha, Mix.step k ha x.2⟩
  | [], _ :: _, x => x.elim
  | _ :: _, [], x => x.elim
theorem Stk.step (k : Sk ok ok' h h') (ha : ∀ a, as = some a → as' = some a ∧ ∀ o, h.get? a = some o → h'.get? a = some o) (x : Stk as ok h stk) : Stk as' ok' h' stk := by
  induction stk with
  | nil => exact ⟨⟩
  | cons e t ih => cases e with
    | one v r => exact ⟨x.1.step k ha, ih x.2⟩
    | row vs l => exact ⟨x.1.step k, ih x.2⟩
    | mix vs l => exact ⟨x.1.step k ha, ih x.2⟩
theorem RRel.val (x : Rel ok h v p) : RRel as ok h v (.val p) := x
theorem RRel.rd0 (x : RRel as ok h v (.rd p)) : Rel0 ok h v p := by
  rcases x with x | ⟨a, vs, n, l, _, rfl, rfl, e, r⟩
  · exact x.rd
  · exact ⟨a, vs, rfl, ⟨_, e, rfl, n, rfl⟩, r⟩
theorem Mix.rd0 : ∀ {vs : List Value} {l : List PV}, Mix as ok h vs l → Rels0 ok h vs l
  | [], [], _ => .nil
  | _ :: _, _ :: _, x => .cons x.1.rd0 x.2.rd0
  | [], _ :: _, x => x.elim
  | _ :: _, [], x => x.elim
theorem Inv.seqT (I : Inv F ρ σ stk as s) {o : Obj} {xs : Array Value} {n : Nat} (e : s.heap.get? a = some o) (d : o.data = .seq xs n) : ¬ W.B.T a := I.glob.noT W.O e fun vs q => by rw [d] at q; cases q
theorem cellT (O : W.B.Ok) (G : Glob W.B h) {c : Addr} {v : Option Value} (x : h.IsCell c v) : ¬ W.B.T c := x.elim fun o y => G.noT O y.1 fun vs q => by rw [y.2] at q; cases q
theorem cell_ne {c : Addr} {v : Option Value} (x : h.IsCell c v) (d : IsDict h a) : c ≠ a := x.elim fun o y => d.ne y.1 fun es n q => by rw [y.2] at q; cases q
theorem Inv.chg (I : Inv F ρ σ stk as s) {P X' : Addr → Prop} {tk : Nat} (hX : ∀ a, X' a → F.XK a ∨ (s.heap.get? a = none ∧ IsSeq h' a)) (k : ∀ a o, ¬ P a → ¬ W.B.T a → s.heap.get? a = some o → h'.get? a = some o) (hT : W.B.TI h')
    (hP : ∀ a, P a → W.B.g.get? a = none ∧ (∀ o, ¬ F.Kp a o) ∧ as ≠ some a) (hS : ∀ a, P a → ∀ o xs n, s.heap.get? a = some o → o.data = .seq xs n → F.XK a ∧ (X' a → IsSeq h' a))
    (hF : ∀ a ∈ framesOf F.outer, P a → IsDict h' a) (hK : ∀ a o, P a → F.KF a o → ∃ sl, h'.get? a = some { o with slots := sl }) (ns : ∃ m, h'.Ns F.env.locals m)
    (names : Sk (F.dat as) ((F.hid X').dat as) s.heap h' → ∀ x r, ρ'.lookup x = some r → ∃ v, Look F.env h' x v ∧ RRel as ((F.hid X').dat as) h' v r)
    (cex : ∀ x c v, Celly F.env x → F.env.cells.lookup x = some c → s.heap.IsCell c v → ∃ v', h'.IsCell c v') : Inv (F.hid X') ρ' σ stk as { s with heap := h', toks := tk } := by
  have sk : Sk (F.dat as) ((F.hid X').dat as) s.heap h' := fun a o xs n e d q => ⟨k a o (fun z => q.1 (hS a z o xs n e d).1) (I.seqT e d) e, ⟨fun z => (hX a z).elim q.1 fun z => (by rw [z.1] at e; cases e), q.2⟩⟩
  have ho : ∀ a, as = some a → ∀ o, s.heap.get? a = some o → h'.get? a = some o := fun a e o eo => by
    obtain ⟨o', xs, n, e', d⟩ := (I.xk a fun z => z.2 e).1
    obtain rfl := Option.some.inj (eo.symm.trans e')
    exact k a _ (fun z => (hP a z).2.2 e) (I.seqT eo d) eo
  have gn : ∀ a, s.heap.get? a = none → W.B.g.get? a = none := fun a e => by
    cases q : W.B.g.get? a with
    | none => rfl
    | some o => rw [I.glob.1 a o q] at e; cases e
  refine ⟨I.rest.step _ _, ⟨fun b o e => k b o (fun z => by rw [(hP b z).1] at e; cases e) (W.O.noT b o e) (I.glob.1 b o e), hT⟩, fun a ha => ?_, fun a o q => ?_, fun a o q => ?_, fun a q => ?_, ns, names sk, fun x q => ?_, fun a e => ⟨fun z => (hX a z).elim (I.asX a e).1 fun z => ?_, (I.asX a e).2⟩, ?_, I.stk.step sk fun a e => ⟨e, ho a e⟩⟩
  · refine ⟨(Classical.em (P a)).elim (fun z => hF a ha z) fun z => ?_, (I.fs a ha).2⟩
    obtain ⟨o, es, n, e, d⟩ := (I.fs a ha).1
    exact ⟨o, es, n, k a o z (I.glob.noT W.O e fun vs q => by rw [d] at q; cases q) e, d⟩
  · obtain ⟨sl, e⟩ := I.kf a o q
    rcases Classical.em (P a) with z | z
    · exact hK a o z q
    · exact ⟨sl, k a _ z (F.kfT a o q).1 e⟩
  · exact k a o (fun z => (hP a z).2.1 o q) (F.kpF a o q) (I.kp a o q)
  · by_cases z : F.dat as a
    · rcases hX a (Classical.byContradiction fun z' => q ⟨z', z.2⟩) with z' | z'
      · exact (z.1 z').elim
      · exact ⟨z'.2, gn a z'.1⟩
    · obtain ⟨o, xs, n, e, d⟩ := (I.xk a z).1
      exact ⟨(Classical.em (P a)).elim (fun z => (hS a z o xs n e d).2 (Classical.byContradiction fun z' => q ⟨z', (hP a z).2.2⟩)) fun z => ⟨o, xs, n, k a o z (I.seqT e d) e, d⟩, (I.xk a z).2⟩
  · obtain ⟨c, v, e, hc, g⟩ := I.cex x q
    exact (cex x c v q e hc).elim fun v' z => ⟨c, v', e, z, g⟩
  · obtain ⟨o, _, _, e', _⟩ := (I.xk a fun q => q.2 e).1
    rw [z.1] at e'; cases e'
  · exact ⟨I.own.1, fun l e => (I.own.2 l e).elim fun a y => ⟨a, y.elim fun vs y => ⟨vs, y.elim fun n z => ⟨n, z.1, ho a z.1 _ z.2.1, z.2.2.step sk⟩⟩⟩⟩
theorem Inv.seq_ne (I : Inv F ρ σ stk as s) (x : IsSeq s.heap a) : a ≠ F.env.locals ∧ (∀ x c, Celly F.env x → F.env.cells.lookup x = some c → c ≠ a) ∧ a ∉ framesOf F.outer ∧ ¬ W.B.T a := by
  obtain ⟨o, xs, n, e, d⟩ := x
  have nd : ∀ es n, o.data ≠ .dict es n := fun es n q => by rw [d] at q; cases q
  refine ⟨I.ns.elim fun m y => (Ns.dict y).ne e nd, fun x c q e' z => ?_, fun q => (I.fs a q).1.ne e nd rfl, I.seqT e d⟩
  obtain ⟨c', v, e2, ⟨o', e3, d'⟩, _⟩ := I.cex x q
  obtain rfl := Option.some.inj (e'.symm.trans e2)
  obtain rfl := Option.some.inj ((z ▸ e3).symm.trans e)
  rw [d] at d'; cases d'
theorem Inv.atL (I : Inv F ρ σ stk as s) {X' : Addr → Prop} {tk : Nat} {m' : Str → Option Value} (hX : ∀ a, X' a → F.XK a ∨ (s.heap.get? a = none ∧ IsSeq h' a)) (k : ∀ a o, a ≠ F.env.locals → ¬ W.B.T a → s.heap.get? a = some o → h'.get? a = some o) (hT : W.B.TI h') (hn' : h'.Ns F.env.locals m')
    (names : ∀ x r, ρ'.lookup x = some r → ∃ v, RRel as (F.dat as) s.heap v r ∧ (F.env.kindOf x = some .local → m' x = some v) ∧ (Celly F.env x → Look F.env s.heap x v)) : Inv (F.hid X') ρ' σ stk as { s with heap := h', toks := tk } := by
  have hd := I.ns.elim fun _ => Ns.dict
  have cl : ∀ {c v}, s.heap.IsCell c v → h'.IsCell c v := fun {c v} x => x.elim fun o y => ⟨o, k c o (cell_ne x hd) (cellT W.O I.glob x) y.1, y.2⟩
  refine I.chg (P := (· = F.env.locals)) hX (fun a o => k a o) hT (fun a q => q ▸ ⟨F.newL, fun o => (F.kpL o).1, fun e => (I.seq_ne (I.xk _ fun z => z.2 e).1).1 rfl⟩) (fun a q o xs n e d => (hd.ne e (fun es n q => by rw [d] at q; cases q) q).elim) (fun a ha q => q ▸ Ns.dict hn') (fun a o q z => ((F.kpL o).2 (q ▸ z)).elim) ⟨m', hn'⟩ (fun sk x r e => ?_) fun x c v _ _ z => ⟨v, cl z⟩
  obtain ⟨v, rr, h1, h2⟩ := names x r e
  exact ⟨v, ⟨fun q => ⟨m', hn', h1 q⟩, fun q => ((h2 q).2 q).elim fun c y => ⟨c, y.1, cl y.2⟩⟩, rr.step sk fun a e => ⟨e, fun o eo => k a o (I.seq_ne (I.xk a fun z => z.2 e).1).1 (I.seq_ne (I.xk a fun z => z.2 e).1).2.2.2 eo⟩⟩
theorem Inv.growX (I : Inv F ρ σ stk as s) {X' : Addr → Prop} (hX : ∀ a, X' a → F.XK a ∨ (s.heap.get? a = none ∧ IsSeq s'.heap a)) (G : Grow W.B F.env.locals s s') : Inv (F.hid X') ρ σ stk as s' := by
  obtain ⟨h, tk, rfl, k, kn, t⟩ := G
  obtain ⟨m, hn⟩ := I.ns
  exact I.atL hX k (t I.glob.2) (kn m hn) fun x r e => (I.names x r e).elim fun v y => ⟨v, y.2, fun q => (y.1.1 q).elim fun m' z => Ns.uniq hn z.1 ▸ z.2, fun _ => y.1⟩
theorem Inv.grow (I : Inv F ρ σ stk as s) (G : Grow W.B F.env.locals s s') : Inv F ρ σ stk as s' := I.growX (fun _ => .inl) G
noncomputable def setP (x : Str) (r : RV) : Loc → Loc
  | [] => [(x, r)]
  | (y, q) :: ρ => if x == y then (x, r) :: ρ else (y, q) :: setP x r ρ
theorem setP_look {x y : Str} {r : RV} : ∀ {ρ : Loc}, (setP x r ρ).lookup y = if y == x then some r else ρ.lookup y
  | [] => by
    rw [setP, List.lookup_cons]
    cases y == x <;> rfl
  | (z, q) :: ρ => by
    rw [setP]
    cases h : x == z with
    | true =>
      obtain rfl := eq_of_beq h
      rw [if_pos rfl, List.lookup_cons, List.lookup_cons]
      cases y == x <;> rfl
    | false =>
      rw [if_neg Bool.false_ne_true, List.lookup_cons, List.lookup_cons, setP_look]
      cases h1 : y == x with
      | true => rw [eq_of_beq h1, h]
      | false => cases y == z <;> rfl
theorem Inv.store (I : Inv F ρ σ (.one v r :: stk) as s) (hk : F.env.kindOf x = some .local) {A : Around} {E : Value → Shared → Prop} : wpAny W.M A (storeName F.env x v) (fun _ s' => Inv F (setP x r ρ) σ stk as s') E s := by
  obtain ⟨m, hn⟩ := I.ns
  refine wpAny_storeName_local hk hn (fun h' hn' hs => ?_) (by rw [F.kind]; rfl)
  refine Inv.atL (X' := F.XK) { I with stk := I.stk.2 } (fun _ => .inl) (fun a o q _ e => hs.extBut a o q e) (W.O.tiW (· = F.env.locals) _ _ (fun a o q e => .inl fun vs d => ?_) (fun a o q e => hs.extBut a o q e) I.glob.2) hn' fun y r' e => ?_
  · obtain ⟨o', es, n, e', d'⟩ := Ns.dict hn
    obtain rfl := Option.some.inj ((q ▸ e).symm.trans e')
    rw [d] at d'; cases d'
  · rw [setP_look] at e
    cases h : y == x with
    | true =>
      rw [h] at e
      obtain rfl := Option.some.inj e
      obtain rfl := eq_of_beq h
      exact ⟨v, I.stk.1, fun _ => if_pos rfl, fun q => by rcases q with q | q <;> rw [hk] at q <;> cases q⟩
    | false =>
      rw [h] at e
      obtain ⟨v', z, rr⟩ := I.names y r' e
      exact ⟨v', rr, fun q => (z.1 q).elim fun m' w => (if_neg fun q => by rw [q, beq_self_eq_true] at h; cases h).trans (Ns.uniq hn w.1 ▸ w.2), fun _ => z⟩
theorem Inv.storeC (I : Inv F ρ σ (.one v r :: stk) as s) (hro : F.ro = false) (hk : F.env.kindOf x = some .cell) {A : Around} {E : Value → Shared → Prop} : wpAny W.M A (storeName F.env x v) (fun _ s' => Inv F (setP x r ρ) σ stk as s') E s := by
  obtain ⟨c, v₀, hc, hcell, hg⟩ := I.cex x (.inl hk)
  refine wpAny_storeName_cell F.kind hk hc hcell fun h' hcell' hs => ?_
  obtain ⟨oc, eoc, doc⟩ := id hcell
  have nd : ∀ {a}, IsDict s.heap a → a ≠ c := fun d q => cell_ne hcell d q.symm
  have ns : ∀ {o xs n}, s.heap.get? c = some o → o.data = .seq xs n → False := fun e d => by
    obtain rfl := Option.some.inj (e.symm.trans eoc)
    rw [d] at doc; cases doc
  have dk : ∀ {a}, IsDict s.heap a → IsDict h' a := fun d => d.elim fun o y => y.elim fun es y => y.elim fun n z => ⟨o, es, n, hs.extBut _ o (nd d) z.1, z.2⟩
  have ck : ∀ {d w}, d ≠ c → s.heap.IsCell d w → h'.IsCell d w := fun q y => y.elim fun o z => ⟨o, hs.extBut _ o q z.1, z.2⟩
  refine Inv.chg (P := (· = c)) (X' := F.XK) (tk := s.toks) { I with stk := I.stk.2 } (fun _ => .inl) (fun a o q _ e => hs.extBut a o q e) (W.O.tiW (· = c) _ _ (fun a o q e => .inl fun vs d => ?_) (fun a o q e => hs.extBut a o q e) I.glob.2)
    (fun a q => q ▸ ⟨hg, fun o => (F.kpC hro x c hk hc o).1, fun e => (I.xk _ fun z => z.2 e).1.elim fun _ y => y.elim fun _ y => y.elim fun _ y => ns y.1 y.2⟩) (fun a q o xs n e d => (ns (q ▸ e) d).elim) (fun a ha q => (nd (I.fs a ha).1 q).elim) (fun a o q z => ((F.kpC hro x c hk hc o).2 (q ▸ z)).elim)
    (I.ns.elim fun m y => ⟨m, y.elim fun o y => y.elim fun es y => y.elim fun ep z => ⟨o, es, ep, hs.extBut _ o (nd (Ns.dict ⟨o, es, ep, z⟩)) z.1, z.2⟩⟩) (fun sk y r' e => ?_) fun y d w _ e z => (Classical.em (d = c)).elim (fun q => ⟨some v, q ▸ hcell'⟩) fun q => ⟨w, ck q z⟩
  · obtain rfl := Option.some.inj ((q ▸ e).symm.trans eoc)
    rw [d] at doc; cases doc
  · have up : ∀ {v r}, RRel as (F.dat as) s.heap v r → RRel as (F.dat as) h' v r := fun rr => rr.step sk fun a e => ⟨e, fun o eo => hs.extBut a o (fun q => (I.xk a fun z => z.2 e).1.elim fun _ y => y.elim fun _ y => y.elim fun _ y => ns (q ▸ y.1) y.2) eo⟩
    rw [setP_look] at e
    cases h : y == x with
    | true =>
      rw [h] at e
      obtain rfl := Option.some.inj e
      obtain rfl := eq_of_beq h
      exact ⟨v, ⟨fun q => (by rw [hk] at q; cases q), fun _ => ⟨c, hc, hcell'⟩⟩, up I.stk.1⟩
    | false =>
      rw [h] at e
      obtain ⟨v', z, rr⟩ := I.names y r' e
      exact ⟨v', ⟨fun q => (z.1 q).elim fun m y => ⟨m, y.1.elim fun o w => w.elim fun es w => w.elim fun ep w => ⟨o, es, ep, hs.extBut _ o (nd (Ns.dict ⟨o, es, ep, w⟩)) w.1, w.2⟩, y.2⟩,
        fun q => (z.2 q).elim fun d w => ⟨d, w.1, ck (fun q' => by rw [F.cndup y x c (q' ▸ w.1) hc q (.inl hk), beq_self_eq_true] at h; cases h) w.2⟩⟩, up rr⟩
theorem Inv.sub (I : Inv F ρ σ stk as s) (h : ∀ x r, ρ'.lookup x = some r → ρ.lookup x = some r) : Inv F ρ' σ stk as s := { I with names := fun x r e => I.names x r (h x r e) }
end
end Mine
namespace Mine
set_option genSizeOf false
set_option genInjectivity false
noncomputable def constP : Const → Option PV
  | .none => some .none
  | .bool b => some (.bool b)
  | .int i => some (.int i)
  | .str s => some (.str s)
  | .bytes b => some (.bytes b.toArray)
  | _ => none
noncomputable def okE (e : Expr) : Bool := match e with | .Starred .. => false | .Set .. => false | _ => true
theorem okE_star {e : Expr} (h : okE e = true) {rest : List Expr} {env : Env} : starEach (e :: rest) env = (false, eval e env) :: starEach rest env := by
  cases e <;> first | rfl | cases h
structure Cx (W : Ws) (A : Around) (L : Addr) (s : Shared) : Prop where
  room : Room W.k A
  glob : Glob W.B s.heap
  newL : W.B.g.get? L = none
  ns : ∃ m, s.heap.Ns L m
noncomputable abbrev Out (W : Ws) (ok : Addr → Prop) (L : Addr) (s : Shared) (p : PV) (v : Value) (s' : Shared) : Prop := Rel (fun a => ok a ∨ s.heap.get? a = none) s'.heap v p ∧ Grow W.B L s s'
section
variable (W : Ws)
noncomputable def Op2 (f : Value → Value → Sem Value) (p q r : PV) : Prop :=
  ∀ {A : Around} {L : Addr} {s : Shared} {a b : Value} {ok : Addr → Prop}, Cx W A L s → Rel0 ok s.heap a p → Rel0 ok s.heap b q → wpAny W.M A (f a b) (Out W ok L s r) NoE s
noncomputable def Op1 (f : Value → Sem Value) (p r : PV) : Prop :=
  ∀ {A : Around} {L : Addr} {s : Shared} {a : Value} {ok : Addr → Prop}, Cx W A L s → Rel0 ok s.heap a p → wpAny W.M A (f a) (Out W ok L s r) NoE s
noncomputable def OpN (f : List Value → Sem Value) (ps : List PV) (r : PV) : Prop :=
  ∀ {A : Around} {L : Addr} {s : Shared} {vs : List Value} {ok : Addr → Prop}, Cx W A L s → Rels0 ok s.heap vs ps → wpAny W.M A (f vs) (Out W ok L s r) NoE s
noncomputable def Tru (p : PV) (b : Bool) : Prop :=
  ∀ {A : Around} {L : Addr} {s : Shared} {a : Value} {ok : Addr → Prop}, Cx W A L s → Rel0 ok s.heap a p → wpAny W.M A (truthy a) (fun c s' => c = b ∧ Grow W.B L s s') NoE s
noncomputable def GlobV (x : Str) (p : PV) : Prop := ∃ v, Rel (fun _ => False) W.B.g v p ∧ (W.B.mg x = some v ∨ (W.B.mg x = none ∧ W.B.mb x = some v))
end
section
variable {W : Ws} {F : Fr W} {ρ : Loc} {σ : Sto} {stk : List Pend} {as : Option Addr} {s s' : Shared} {v a b : Value} {p q z : PV} {r : RV} {vs : List Value} {l ps : List PV} {x : Str} {A : Around} {E : Value → Shared → Prop}
theorem Inv.cx (I : Inv F ρ σ stk as s) : Cx W F.A F.env.locals s := ⟨F.room, I.glob, F.newL, I.ns⟩
theorem Inv.fresh (I : Inv F ρ σ stk as s) {a : Addr} (h : s.heap.get? a = none) : F.dat as a := Classical.byContradiction fun q => by
  obtain ⟨o, _, _, e, _⟩ := (I.xk a q).1
  rw [h] at e; cases e
theorem Inv.out (I : Inv F ρ σ stk as s) (h : Out W (F.dat as) F.env.locals s p v s') : Inv F ρ σ (.one v (.val p) :: stk) as s' :=
  { I.grow h.2 with stk := ⟨h.1.weak fun a q => q.elim id I.fresh, (I.grow h.2).stk⟩ }
theorem Inv.stk' {stk' : List Pend} (I : Inv F ρ σ stk as s) (h : Stk as (F.dat as) s.heap stk → Stk as (F.dat as) s.heap stk') : Inv F ρ σ stk' as s := { I with stk := h I.stk }
theorem Op2.use {f : Value → Value → Sem Value} (h : Op2 W f p q z) (I : Inv F ρ σ (.one b (.rd q) :: .one a (.rd p) :: stk) as s) : wpAny W.M F.A (f a b) (fun v s' => Inv F ρ σ (.one v (.val z) :: stk) as s') NoE s :=
  wpAny_mono (h I.cx I.stk.2.1.rd0 I.stk.1.rd0) (fun _ _ o => (I.stk' fun k => k.2.2).out o) fun _ _ q => q
theorem Op1.use {f : Value → Sem Value} (h : Op1 W f p z) (I : Inv F ρ σ (.one a (.rd p) :: stk) as s) : wpAny W.M F.A (f a) (fun v s' => Inv F ρ σ (.one v (.val z) :: stk) as s') NoE s :=
  wpAny_mono (h I.cx I.stk.1.rd0) (fun _ _ o => (I.stk' fun k => k.2).out o) fun _ _ q => q
theorem OpN.use {f : List Value → Sem Value} (h : OpN W f ps z) (I : Inv F ρ σ (.mix vs ps :: stk) as s) : wpAny W.M F.A (f vs) (fun v s' => Inv F ρ σ (.one v (.val z) :: stk) as s') NoE s :=
  wpAny_mono (h I.cx I.stk.1.rd0) (fun _ _ o => (I.stk' fun k => k.2).out o) fun _ _ q => q
theorem Tru.use {c : Bool} (h : Tru W p c) (I : Inv F ρ σ (.one a (.rd p) :: stk) as s) : wpAny W.M F.A (truthy a) (fun d s' => d = c ∧ Inv F ρ σ stk as s') NoE s :=
  wpAny_mono (h I.cx I.stk.1.rd0) (fun _ _ o => ⟨o.1, (I.stk' fun k => k.2).grow o.2⟩) fun _ _ q => q
theorem Inv.push (I : Inv F ρ σ stk as s) (h : ∀ {as ok hp}, RRel as ok hp v r) : Inv F ρ σ (.one v r :: stk) as s := I.stk' fun k => ⟨h, k⟩
theorem Inv.toks (I : Inv F ρ σ stk as s) (t : Nat) : Inv F ρ σ stk as { s with toks := t } := { I with rest := I.rest.step s.heap t }
theorem Inv.rd (I : Inv F ρ σ (.one v (.val p) :: stk) as s) : Inv F ρ σ (.one v (.rd p) :: stk) as s := I.stk' fun k => ⟨.inl k.1, k.2⟩
theorem Inv.ownRd (I : Inv F ρ (some l) (.one v .own :: stk) as s) : Inv F ρ (some l) (.one v (.rd (.lst l)) :: stk) as s := I.stk' fun k => ⟨by
  obtain ⟨a, e, rfl⟩ := k.1
  obtain ⟨a', vs, n, e', y, r⟩ := I.own.2 l rfl
  obtain rfl := Option.some.inj (e.symm.trans e')
  exact .inr ⟨a, vs, n, l, e, rfl, rfl, y, r⟩, k.2⟩
noncomputable def locQ (sc : Scope) (x : Str) : Bool := !(x == ("__debug__" : Str)) && !(x == ("__classdict__" : Str)) && (match sc.names.lookup x with | some .local => true | some .cell => true | some .free => true | _ => false)
noncomputable def gloQ (sc : Scope) (x : Str) : Bool := !(x == ("__debug__" : Str)) && sc.names.lookup x == some .globalImplicit
theorem Inv.loadN {Q : Value → Shared → Prop} (I : Inv F ρ σ stk as s) (hq : locQ F.env.scope x = true) (e : ρ.lookup x = some r) (hQ : ∀ v, RRel as (F.dat as) s.heap v r → Q v s) : wpAny W.M A (loadName F.env x) Q E s := by
  obtain ⟨v, hv, rr⟩ := I.names x r e
  unfold locQ at hq
  rw [Bool.and_eq_true, Bool.and_eq_true] at hq
  have h3 := hq.2
  split at h3
  · rename_i hk
    exact (hv.1 hk).elim fun m y => wpAny_loadName_local F.kind hk y.1 y.2 (hQ v rr)
  · rename_i hk
    exact (hv.2 (.inl hk)).elim fun c y => wpAny_loadName_cell F.kind hk y.1 y.2 (hQ v rr)
  · rename_i hk
    exact (hv.2 (.inr hk)).elim fun c y => wpAny_loadName_free F.kind hk y.1 y.2 (hQ v rr) (Bool.not_eq_true' _ ▸ hq.1.2)
  · cases h3
theorem Inv.load {pos : Pos} {Q : Value → Shared → Prop} (I : Inv F ρ σ stk as s) (hq : locQ F.env.scope x = true) (e : ρ.lookup x = some r) (hQ : ∀ v, RRel as (F.dat as) s.heap v r → Q v s) : wpAny W.M A (eval (.Name x pos) F.env) Q E s :=
  wpAny_Name (I.loadN hq e hQ) (Bool.not_eq_true' _ ▸ (Bool.and_eq_true_iff.mp (Bool.and_eq_true_iff.mp hq).1).1)
theorem Inv.loadG {pos : Pos} {Q : Value → Shared → Prop} (I : Inv F ρ σ stk as s) (hq : gloQ F.env.scope x = true) (e : GlobV W x p) (hQ : ∀ v, (∀ {ok}, Rel ok s.heap v p) → Q v s) : wpAny W.M A (eval (.Name x pos) F.env) Q E s := by
  obtain ⟨v, hr, h⟩ := e
  unfold gloQ at hq
  rw [Bool.and_eq_true] at hq
  have hQ := hQ v (hr.step fun _ _ _ _ _ _ q => q.elim)
  have n1 : s.heap.Ns F.env.globals W.B.mg := F.gl ▸ W.O.g1.keeps I.glob.1
  refine Name_function_global F.kind (eq_of_beq hq.2) ?_ (Bool.not_eq_true' _ ▸ hq.1)
  rcases h with h | ⟨h1, h2⟩
  · exact loadGlobal_global n1 h hQ
  · exact loadGlobal_builtin n1 h1 (F.bu ▸ W.O.b1.keeps I.glob.1) h2 hQ
end
section
variable (W : Ws) (sc : Scope) (σ : Sto) (ρ : Loc)
noncomputable def Ev (e : Expr) (r : RV) : Prop := ∀ {F : Fr W} {stk : List Pend} {as : Option Addr} {s : Shared}, F.env.scope = sc → Inv F ρ σ stk as s → wpAny W.M F.A (eval e F.env) (fun v s' => Inv F ρ σ (.one v r :: stk) as s') NoE s
noncomputable abbrev Rd (e : Expr) (p : PV) : Prop := Ev W sc σ ρ e (.rd p)
noncomputable abbrev Vl (e : Expr) (p : PV) : Prop := Ev W sc σ ρ e (.val p)
structure Evs (es : List Expr) (ps : List PV) : Prop where
  pl : ∀ env pos, (backTo pos (starEach es env)).any (·.1) = false
  wp : ∀ {F : Fr W} {stk : List Pend} {as : Option Addr} {s : Shared} (pos), F.env.scope = sc → Inv F ρ σ stk as s → wpAny W.M F.A (spliced (backTo pos (starEach es F.env))) (fun vs s' => Inv F ρ σ (.row vs ps :: stk) as s') NoE s
structure Ars (es : List Expr) (ps : List PV) : Prop where
  pl : ∀ env pos, (backTo pos (starEach es env)).any (·.1) = false
  wp : ∀ {F : Fr W} {stk : List Pend} {as : Option Addr} {s : Shared} (pos), F.env.scope = sc → Inv F ρ σ stk as s → wpAny W.M F.A (spliced (backTo pos (starEach es F.env))) (fun vs s' => Inv F ρ σ (.mix vs ps :: stk) as s') NoE s
noncomputable def Bnd (e : Option Expr) (b : Option Int) : Prop := ∀ {F : Fr W} {stk : List Pend} {as : Option Addr} {s : Shared}, F.env.scope = sc → Inv F ρ σ stk as s → wpAny W.M F.A (evalPart e F.env) (fun v s' => IsPart v b ∧ Inv F ρ σ stk as s') NoE s
noncomputable def Tst (e : Expr) (b : Bool) : Prop := ∀ {F : Fr W} {stk : List Pend} {as : Option Addr} {s : Shared}, F.env.scope = sc → Inv F ρ σ stk as s → wpAny W.M F.A (isTrue e F.env (eval e F.env)) (fun c s' => c = b ∧ Inv F ρ σ stk as s') NoE s
noncomputable def Tsts (op : BoolOp) (es : List Expr) (b : Bool) : Prop := ∀ {F : Fr W} {stk : List Pend} {as : Option Addr} {s : Shared}, F.env.scope = sc → Inv F ρ σ stk as s → wpAny W.M F.A (allTrue op es F.env) (fun c s' => c = b ∧ Inv F ρ σ stk as s') NoE s
end
theorem go {α : Type} {M : Model} {A : Around} {t : Sem α} {P Q : α → Shared → Prop} {E : Value → Shared → Prop} {s : Shared} (h : wpAny M A t P NoE s) (k : ∀ v s', P v s' → Q v s') : wpAny M A t Q E s := wpAny_mono h k fun _ _ q => q.elim
end Mine
namespace Mine
set_option genSizeOf false
set_option genInjectivity false
section
variable {W : Ws} {F : Fr W} {sc : Scope} {σ : Sto} {ρ : Loc} {stk : List Pend} {as : Option Addr} {s s' : Shared} {e l t e' : Expr} {es : List Expr} {pos xp : Pos} {a b v : PV} {ps ls : List PV} {x : Str} {r : RV} {vs ws : List Value}
theorem Inv.row (I : Inv F ρ σ (.row ws ps :: .one u (.val v) :: stk) as s) : Inv F ρ σ (.row (u :: ws) (v :: ps) :: stk) as s := I.stk' fun k => ⟨.cons k.2.1 k.1, k.2.2⟩
theorem Inv.mix (I : Inv F ρ σ (.mix ws ps :: .one u (.rd v) :: stk) as s) : Inv F ρ σ (.mix (u :: ws) (v :: ps) :: stk) as s := I.stk' fun k => ⟨⟨k.2.1, k.1⟩, k.2.2⟩
theorem Inv.mixed (I : Inv F ρ σ (.row ws ps :: stk) as s) : Inv F ρ σ (.mix ws ps :: stk) as s := I.stk' fun k => ⟨k.1.ind (P := fun ws ps => Mix as (F.dat as) s.heap ws ps) ⟨⟩ fun a _ c => ⟨.inl a, c⟩, k.2⟩
theorem Ev.loc (h : locQ sc x = true) (h2 : ρ.lookup x = some r) : Ev W sc σ ρ (.Name x pos) r := fun hs I => I.load (hs ▸ h) h2 fun _ q => I.stk' fun k => ⟨q, k⟩
theorem Ev.glob (h : gloQ sc x = true) (h2 : GlobV W x v) : Vl W sc σ ρ (.Name x pos) v := fun hs I => I.loadG (hs ▸ h) h2 fun _ q => I.stk' fun k => ⟨q, k⟩
theorem Ev.const {k : Const} {n : Nat} (h : constP k = some v) : Vl W sc σ ρ (.Constant k n pos) v := fun hs I => by
  cases k with
  | none => cases h; exact wpAny_pure (I.push .none)
  | bool b => cases h; exact wpAny_pure (I.push (.bool b))
  | int i => cases h; exact wpAny_Constant_int ((I.toks _).push (.int i _))
  | str x => cases h; exact wpAny_Constant_str ((I.toks _).push (.str x _))
  | bytes b => cases h; exact fun _ _ _ => (I.toks _).push (.bytes _ _)
  | _ => cases h
theorem Ev.rv (h : Vl W sc σ ρ e v) : Rd W sc σ ρ e v := fun hs I => go (h hs I) fun _ _ I => I.rd
theorem Ev.ro (h : Ev W sc (some ls) ρ e .own) : Rd W sc (some ls) ρ e (.lst ls) := fun hs I => go (h hs I) fun _ _ I => I.ownRd
theorem Ev.bin {op : Operator} (h1 : Rd W sc σ ρ l a) (h2 : Rd W sc σ ρ e b) (h3 : Op2 W (binaryOp op) a b v) : Vl W sc σ ρ (.BinOp l op e pos) v := fun hs I =>
  wpAny_BinOp (go (h1 hs I) fun _ _ I => go (h2 hs I) fun _ _ I => h3.use I)
theorem Ev.un {op : UnaryOp} (h1 : Rd W sc σ ρ e a) (h3 : Op1 W (unaryOp op) a v) : Vl W sc σ ρ (.UnaryOp op e pos) v := fun hs I => wpAny_UnaryOp (go (h1 hs I) fun _ _ I => h3.use I)
theorem Ev.ifT (h1 : Tst W sc σ ρ t true) (h2 : Ev W sc σ ρ e r) : Ev W sc σ ρ (.IfExp t e e' pos) r := fun hs I =>
  wpAny_IfExp (go (h1 hs I) fun _ _ I => by obtain ⟨rfl, I⟩ := I; exact h2 hs I)
theorem Ev.ifF (h1 : Tst W sc σ ρ t false) (h2 : Ev W sc σ ρ e' r) : Ev W sc σ ρ (.IfExp t e e' pos) r := fun hs I =>
  wpAny_IfExp (go (h1 hs I) fun _ _ I => by obtain ⟨rfl, I⟩ := I; exact h2 hs I)
theorem Ev.cmp {op : CmpOp} {z : Bool} (h1 : Rd W sc σ ρ l a) (h2 : Rd W sc σ ρ e b) (h3 : Op2 W (compareOp op) a b (.bool z)) (hb : behindInMarks op e = false) : Vl W sc σ ρ (.Compare l [op] [e] pos) (.bool z) := fun hs I =>
  wpAny_Compare1 (go (h1 hs I) fun _ _ I => go (h2 hs I) fun _ _ I => h3.use I) hb
theorem Evs.nil : Evs W sc σ ρ [] [] := ⟨fun _ _ => rfl, fun _ _ I => wpAny_items_nil (I.stk' fun k => ⟨.nil, k⟩)⟩
theorem Ars.nil : Ars W sc σ ρ [] [] := ⟨fun _ _ => rfl, fun _ _ I => wpAny_items_nil (I.stk' fun k => ⟨⟨⟩, k⟩)⟩
theorem star_cons (h1 : okE e = true) (h2 : ∀ env pos, (backTo pos (starEach es env)).any (·.1) = false) (env : Env) (pos : Pos) : (backTo pos (starEach (e :: es) env)).any (·.1) = false :=
  okE_star h1 ▸ h2 env pos
theorem Evs.cons (h1 : Vl W sc σ ρ e v) (h2 : Evs W sc σ ρ es ps) (ok : okE e = true) : Evs W sc σ ρ (e :: es) (v :: ps) :=
  ⟨star_cons ok h2.pl, fun pos hs I => wpAny_items_cons (go (h1 hs I) fun _ _ I => go (h2.wp pos hs I) fun _ _ I => I.row) (okE_star ok)⟩
theorem Ars.cons (h1 : Rd W sc σ ρ e v) (h2 : Ars W sc σ ρ es ps) (ok : okE e = true) : Ars W sc σ ρ (e :: es) (v :: ps) :=
  ⟨star_cons ok h2.pl, fun pos hs I => wpAny_items_cons (go (h1 hs I) fun _ _ I => go (h2.wp pos hs I) fun _ _ I => I.mix) (okE_star ok)⟩
theorem Inv.seq {tk : Nat} (I : Inv F ρ σ (.row ws ps :: stk) as s) : Inv F ρ σ (.one (.ref s.heap.objs.size) (.val (.tup ps)) :: stk) as { s with heap := s.heap.push { cls := .type "tuple", data := .seq ws.toArray }, toks := tk } ∧ Inv F ρ σ (.one (.ref s.heap.objs.size) (.val (.lst ps)) :: stk) as { s with heap := s.heap.push { cls := .type "list", data := .seq ws.toArray }, toks := tk } := by
  have key : ∀ {o : Obj}, Grow W.B F.env.locals s { s with heap := s.heap.push o, toks := tk } := fun {o} => ⟨_, _, rfl, fun a o _ _ e => Heap.get?_push_of_some _ e, fun m x => x.keeps fun a o e => Heap.get?_push_of_some _ e, W.O.tiW (fun _ => False) _ _ (fun _ _ q => q.elim) fun a o _ e => Heap.get?_push_of_some _ e⟩
  have up : ∀ {o : Obj}, Rels (fun a => F.dat as a ∨ s.heap.get? a = none) (s.heap.push o) ws ps := fun {o} => I.stk.1.step fun a o xs n e _ q => ⟨Heap.get?_push_of_some _ e, .inl q⟩
  have new : s.heap.get? s.heap.objs.size = none := get_new (Nat.le_refl _)
  exact ⟨(I.stk' fun k => k.2).out ⟨.tup (.inr new) ⟨_, Heap.get?_push_size _ rfl, rfl, 0, rfl⟩ up, key⟩, (I.stk' fun k => k.2).out ⟨.lst (.inr new) ⟨_, Heap.get?_push_size _ rfl, rfl, 0, rfl⟩ up, key⟩⟩
end
section
variable {W : Ws} {F : Fr W} {sc : Scope} {σ : Sto} {ρ : Loc} {stk : List Pend} {as : Option Addr} {s s' : Shared} {e l t e' : Expr} {es : List Expr} {pos xp ap q : Pos} {a b v : PV} {ps ls : List PV} {x m : Str} {r : RV} {vs ws : List Value} {f : Value}
theorem Rels.le {ok : Addr → Prop} {h : Heap} (r : Rels ok h vs ps) (hl : ps.length ≤ 1048576) : vs.length ≤ sizeLine := r.length ▸ Nat.le_trans hl (by decide)
theorem Ev.tup {k : Nat} (h : Evs W sc σ ρ es ps) (hl : ps.length ≤ 1048576) : Vl W sc σ ρ (.Tuple es k pos) (.tup ps) := fun hs I =>
  wpAny_Tuple (go (h.wp pos hs I) fun _ _ I => ⟨I.stk.1.le hl, I.seq.1⟩)
theorem Ev.list (h : Evs W sc σ ρ es ps) (hl : ps.length ≤ 1048576) : Vl W sc σ ρ (.List es pos) (.lst ps) := fun hs I =>
  wpAny_List (go (h.wp pos hs I) fun _ _ I => ⟨I.stk.1.le hl, I.seq.2⟩)
theorem Bnd.none : Bnd W sc σ ρ none none := fun _ I => wpAny_pure ⟨.none, I⟩
theorem Bnd.some {i : Int} (h : Rd W sc σ ρ e (.int i)) : Bnd W sc σ ρ (some e) (some i) := fun hs I => go (h hs I) fun _ _ I => by
  obtain ⟨t, rfl⟩ := Rel.int' I.stk.1.rd0
  exact ⟨.int _ _, I.stk' fun k => k.2⟩
theorem Tst.not {z : Bool} (h : Tst W sc σ ρ e z) : Tst W sc σ ρ (.UnaryOp .Not e pos) (!z) := fun hs I => wpAny_isTrue_Not (go (h hs I) fun _ _ k => ⟨congrArg _ k.1, k.2⟩)
theorem Tst.bool {op : BoolOp} {z : Bool} (h : Tsts W sc σ ρ op es z) : Tst W sc σ ρ (.BoolOp op es pos) z := fun hs I => wpAny_isTrue_BoolOp (h hs I)
theorem Tst.value {z : Bool} (h : Rd W sc σ ρ e v) (h2 : Tru W v z) (he : ∀ env, isTrue e env (eval e env) = (do let v ← eval e env; standAt e.pos; holding [v] (truthy v))) : Tst W sc σ ρ e z := fun hs I =>
  wpAny_isTrue_value (go (h hs I) fun _ _ I => h2.use I) (he _)
theorem Tsts.andNil : Tsts W sc σ ρ .And [] true := fun _ I => wpAny_allTrue_And_nil ⟨rfl, I⟩
theorem Tsts.orNil : Tsts W sc σ ρ .Or [] false := fun _ I => wpAny_allTrue_Or_nil ⟨rfl, I⟩
theorem Tsts.andT {z : Bool} (h : Tst W sc σ ρ e true) (h2 : Tsts W sc σ ρ .And es z) : Tsts W sc σ ρ .And (e :: es) z := fun hs I => wpAny_allTrue_And_cons (go (h hs I) fun _ _ k => by obtain ⟨rfl, I⟩ := k; exact h2 hs I)
theorem Tsts.andF (h : Tst W sc σ ρ e false) : Tsts W sc σ ρ .And (e :: es) false := fun hs I => wpAny_allTrue_And_cons (go (h hs I) fun _ _ k => by obtain ⟨rfl, I⟩ := k; exact ⟨rfl, I⟩)
theorem Tsts.orF {z : Bool} (h : Tst W sc σ ρ e false) (h2 : Tsts W sc σ ρ .Or es z) : Tsts W sc σ ρ .Or (e :: es) z := fun hs I => wpAny_allTrue_Or_cons (go (h hs I) fun _ _ k => by obtain ⟨rfl, I⟩ := k; exact h2 hs I)
theorem Tsts.orT (h : Tst W sc σ ρ e true) : Tsts W sc σ ρ .Or (e :: es) true := fun hs I => wpAny_allTrue_Or_cons (go (h hs I) fun _ _ k => by obtain ⟨rfl, I⟩ := k; exact ⟨rfl, I⟩)
theorem evalArgs_any {M : Model} {A : Around} {E : Value → Shared → Prop} {trees : List (Bool × Sem Value)} {Q : Args → Shared → Prop} (hp : trees.any (·.1) = false)
    (h : wpAny M A (spliced trees) (fun vs s' => Q ⟨vs, []⟩ s') E s) : wpAny M A (evalArgs f true trees []) Q E s := by
  cases trees with
  | nil =>
    unfold evalArgs
    show wpAny _ A (spliced [] >>= _) Q E s
    exact wpAny_bind (wpAny_mono h (fun vs s' h' => wpAny_holding (wpAny_bind (wpAny_pure (wpAny_bind (wpAny_pure (wpAny_pure h')))))) fun _ _ x => x)
  | cons t rest =>
    obtain ⟨b, x⟩ := t
    obtain rfl : b = false := (Bool.or_eq_false_iff.mp hp).1
    exact evalArgs_plain h
theorem Ev.callB {id : String} (hx : gloQ sc x = true) (hg : GlobV W x (.bi id)) (h : Ars W sc σ ρ es ps) (hf : OpN W (fun vs => call (.builtin id) vs []) ps v) : Vl W sc σ ρ (.Call (.Name x xp) es [] pos) v := fun hs I =>
  wpAny_Call_NameR (I.loadG (hs ▸ hx) hg fun fv rf => by
    obtain rfl := Rel.bi' (rf (ok := fun _ => True))
    exact Calls.callWith_builtin (h.pl _ pos) (evalArgs_any (h.pl _ pos) (go (h.wp pos hs I) fun _ _ I => hf.use I)))
theorem Ev.callT {id : String} (hx : gloQ sc x = true) (hg : GlobV W x (.ty id)) (h : Ars W sc σ ρ es ps) (hf : OpN W (fun vs => call (.type id) vs []) ps v) : Vl W sc σ ρ (.Call (.Name x xp) es [] pos) v := fun hs I =>
  wpAny_Call_NameR (I.loadG (hs ▸ hx) hg fun fv rf => by
    obtain rfl := Rel.ty' (rf (ok := fun _ => True))
    exact PySem.callWith_type (h.pl _ pos) (evalArgs_any (h.pl _ pos) (go (h.wp pos hs I) fun _ _ I => hf.use I)))
noncomputable abbrev GetQ (o : PV) : Prop := ∃ T id, typeLookup (.type T) "__getitem__" = pure (some (.builtin id)) ∧ ∀ (s : Shared) (v : Value) (ok : Addr → Prop), Rel0 ok s.heap v o → s.TypeIs v T
theorem getQ_lst : GetQ (.lst ps) := ⟨_, _, slot_list_getitem.lookup, fun s v ok r => by obtain ⟨a, vs, rfl, hl, _⟩ := r; exact hl.typeIs⟩
theorem getQ_tup : GetQ (.tup ps) := ⟨_, _, slot_tuple_getitem.lookup, fun s v ok r => by obtain ⟨a, vs, rfl, _, ht, _⟩ := Rel.tup' r; exact ht.typeIs⟩
theorem getQ_bytes {b : Array UInt8} : GetQ (.bytes b) := ⟨_, _, PySem.W.FB.slot_bytes_getitem.lookup, fun s v ok r => by obtain ⟨t, rfl⟩ := Rel.bytes' r; rfl⟩
theorem subscript_any {prog : Program} {w : World} {A : Around} {env : Env} {value slice : Expr} {T id : String} {Q : Value → Shared → Prop} {E : Value → Shared → Prop} (hsl : ∀ o i, subscripted slice false o i = operate [o, i] (getItem o i) ∨ subscripted slice false o i = operate [i, o] (getItem o i))
    (hl : typeLookup (.type T) "__getitem__" = pure (some (.builtin id)))
    (h : wpAny (model prog w) A (eval value env) (fun o s₁ => wpAny (model prog w) A (eval slice env) (fun i s₂ => s₂.TypeIs o T ∧ wpAny (model prog w) A (getItem o i) Q E s₂) E s₁) E s) :
    wpAny (model prog w) A (eval (.Subscript value slice pos) env) Q E s := by
  rw [arm_eval_Subscript]
  refine wpAny_bind (wpAny_mono h (fun o s₁ h₁ => wpAny_bind (wpAny_holding (wpAny_mono h₁ (fun i s₂ h₂ => wpAny_bind (wpAny_standAt (wpAny_bind ?_))) fun _ _ x => x))) fun _ _ x => x)
  rw [getitemInPython_of_ne h₂.1.not_modules]
  refine wpAny_bind (wpAny_specialOf h₂.1 hl (wpAny_pure (wpAny_bind ?_)))
  rcases hsl o i with e | e <;> rw [e] <;> exact wpAny_operating (wpAny_mono h₂.2 (fun r s₃ h₃ => wpAny_bind (wpAny_letTemporaryGo (wpAny_pure h₃))) fun _ _ x => x)
theorem Ev.item {i : Int} (hq : GetQ a) (h1 : Rd W sc σ ρ l a) (h2 : Rd W sc σ ρ e (.int i)) (h3 : Op2 W getItem a (.int i) v) (hsl : ∀ o i, subscripted e false o i = operate [o, i] (getItem o i)) : Vl W sc σ ρ (.Subscript l e pos) v := fun hs I => by
  obtain ⟨T, id, hl, hT⟩ := hq
  exact subscript_any (fun o i => .inl (hsl o i)) hl (go (h1 hs I) fun _ _ I => go (h2 hs I) fun _ _ I => ⟨hT _ _ _ I.stk.2.1.rd0, h3.use I⟩)
noncomputable def SlQ (W : Ws) (p : PV) (lo hi : Option Int) (r : PV) : Prop :=
  ∀ {A : Around} {L : Addr} {s : Shared} {a vl vu : Value} {ok : Addr → Prop}, Cx W A L s → Rel0 ok s.heap a p → IsPart vl lo → IsPart vu hi → ∀ sl, s.heap.IsSliceOf sl vl vu .none → wpAny W.M A (getItem a (.ref sl)) (Out W ok L s r) NoE s
theorem Ev.slice {lo up : Option Expr} {i j : Option Int} (hq : GetQ a) (h1 : Rd W sc σ ρ l a) (h2 : Bnd W sc σ ρ lo i) (h3 : Bnd W sc σ ρ up j) (h4 : SlQ W a i j v) : Vl W sc σ ρ (.Subscript l (.Slice lo up none q) pos) v := fun hs I => by
  obtain ⟨T, id, hl, hT⟩ := hq
  refine subscript_any (fun o i => .inr rfl) hl (go (h1 hs I) fun o s₁ I => wpAny_Slice (go (h2 hs I) fun vl s₂ I => go (h3 hs I.2) fun vu s₃ J => wpAny_pure ?_))
  obtain ⟨pj, J⟩ := J
  have J := J.grow (s' := { s₃ with heap := s₃.heap.push { cls := .type "slice", data := .fields #[vl, vu, .none] } }) ⟨_, s₃.toks, rfl, fun a o _ _ e => Heap.get?_push_of_some _ e, fun m x => x.keeps fun a o e => Heap.get?_push_of_some _ e, W.O.tiW (fun _ => False) _ _ (fun _ _ q => q.elim) fun a o _ e => Heap.get?_push_of_some _ e⟩
  exact ⟨hT _ _ _ J.stk.1.rd0, go (h4 J.cx J.stk.1.rd0 I.1 pj _ (Heap.IsSliceOf.new _ _ _ _)) fun _ _ o => (J.stk' fun k => k.2).out o⟩
end
section
variable {W : Ws} {F : Fr W} {sc : Scope} {σ : Sto} {ρ : Loc} {stk : List Pend} {as : Option Addr} {s s' : Shared} {e : Expr} {es : List Expr} {pos ap : Pos} {a v : PV} {ps : List PV} {m : Str}
theorem few (h : ∀ env pos, (backTo pos (starEach es env)).any (·.1) = false) (hl : es.length < 29) (env : Env) (pos : Pos) : ((backTo pos (starEach es env)).all (fun x => !x.1) && (backToKw pos (keywordEach [] env)).all (fun x => x.1.isSome)
      && decide (es.length + ([] : List Keyword).length + (if ([] : List Keyword).isEmpty then 0 else 1) < 30)) = true := by
  have h4 : ((backTo pos (starEach es env)).all fun x => !x.1) = true := List.all_eq_true.mpr fun x hx => by simpa using List.any_eq_false.mp (h env pos) x hx
  rw [h4]
  exact decide_eq_true (Nat.lt_succ_of_lt hl)
noncomputable def MethQ (W : Ws) (p : PV) (m : Str) (ps : List PV) (r : PV) : Prop := ∃ T id, (PlainAttrs T ∧ Slot T m id ∧ typeOf (.builtin id) = pure (.type "method_descriptor")) ∧
  (∀ {v : Value} {s : Shared} {ok : Addr → Prop}, Glob W.B s.heap → Rel0 ok s.heap v p → s.TypeIs v T ∧ ∀ b, v = .ref b → ∃ o, s.heap.get? b = some o ∧ o.dict = none) ∧
  ∀ {A : Around} {L : Addr} {s : Shared} {v : Value} {vs : List Value} {ok : Addr → Prop}, Cx W A L s → Rel0 ok s.heap v p → Rels0 ok s.heap vs ps → wpAny W.M A (call (.builtin id) (v :: vs) []) (Out W ok L s r) NoE s
theorem Ev.meth (hb : ∀ env, attributeBase e m env (eval e env) = eval e env) (hl : (ap.endLine == pos.line) = true) (hlen : es.length < 29) (h1 : Rd W sc σ ρ e a) (h : Ars W sc σ ρ es ps) (hf : MethQ W a m ps v) : Vl W sc σ ρ (.Call (.Attribute e m ap) es [] pos) v := fun hs I => by
  obtain ⟨T, id, ⟨g4, g5, g6⟩, g7, g8⟩ := hf
  refine wpAny_Call_method (hb _) (few h.pl hlen _ pos) hl g4 g5 g6 (go (h1 hs I) fun f s₁ I => ?_)
  have g := g7 I.glob I.stk.1.rd0
  exact ⟨g.1, g.2, Calls.callWith_builtin (h.pl _ pos) (evalArgs_any (h.pl _ pos) (go (h.wp pos hs I) fun vs s₂ I => go (g8 I.cx I.stk.2.1.rd0 I.stk.1.rd0) fun _ _ o => (I.stk' fun k => k.2.2).out o))⟩
end
end Mine
namespace Mine
set_option genSizeOf false
set_option genInjectivity false
theorem neA {a b : Nat} (h : a < b ∨ b < a) : a ≠ b := h.elim Nat.ne_of_lt Nat.ne_of_gt
theorem lt_sizeN {h : Heap} {a : Nat} {o : Obj} (e : h.get? a = some o) : @LT.lt Nat instLTNat a h.objs.size := Heap.lt_size e
structure Kps {W : Ws} (F : Fr W) (K : Addr → Obj → Prop) : Prop where
  L : ∀ o, ¬ K F.env.locals o
  C : F.ro = false → ∀ x c, F.env.kindOf x = some .cell → F.env.cells.lookup x = some c → ∀ o, ¬ K c o
  T : ∀ a o, K a o → ¬ W.B.T a
noncomputable def Fr.keep {W : Ws} (F : Fr W) {K : Addr → Obj → Prop} (h : Kps F K) : Fr W := { F with
  Kp := fun a o => F.Kp a o ∨ K a o, kpL := fun o => ⟨fun q => q.elim (F.kpL o).1 (h.L o), (F.kpL o).2⟩, kpC := fun e x c e1 e2 o => ⟨fun q => q.elim (F.kpC e x c e1 e2 o).1 (h.C e x c e1 e2 o), (F.kpC e x c e1 e2 o).2⟩, kpF := fun a o q => q.elim (F.kpF a o) (h.T a o) }
section
variable {W : Ws} {F : Fr W} {ρ ρ' : Loc} {σ : Sto} {stk : List Pend} {as : Option Addr} {s s' : Shared} {K : Addr → Obj → Prop} {a : Addr} {X' : Addr → Prop}
theorem Inv.keep (I : Inv F ρ σ stk as s) (h : Kps F K) (k : ∀ a o, K a o → s.heap.get? a = some o ∧ as ≠ some a) : Inv (F.keep h) ρ σ stk as s :=
  { I with kp := fun a o q => q.elim (I.kp a o) fun q => (k a o q).1, asX := fun a e => ⟨(I.asX a e).1, fun o q => q.elim ((I.asX a e).2 o) fun q => (k a o q).2 e⟩ }
theorem Inv.unkeep {h : Kps F K} (I : Inv (F.keep h) ρ σ stk as s) : Inv F ρ σ stk as s :=
  { I with kp := fun a o q => I.kp a o (.inl q), asX := fun a e => ⟨(I.asX a e).1, fun o q => (I.asX a e).2 o (.inl q)⟩ }
theorem Inv.kept {h : Kps F K} (I : Inv (F.keep h) ρ σ stk as s) {o : Obj} (q : K a o) : s.heap.get? a = some o ∧ as ≠ some a := ⟨I.kp a o (.inr q), fun e => (I.asX a e).2 o (.inr q)⟩
theorem Inv.unhid (I : Inv (F.hid X') ρ σ stk as s) (hX : ∀ a, F.XK a → X' a) : Inv F ρ σ stk as s :=
  have ho : ∀ a, (F.hid X').dat as a → F.dat as a := fun a q => ⟨fun z => q.1 (hX a z), q.2⟩
  have hr : ∀ a, as = some a → as = some a ∧ ∀ o, s.heap.get? a = some o → s.heap.get? a = some o := fun a e => ⟨e, fun _ e => e⟩
  { I with xk := fun a q => I.xk a fun z => q (ho a z), names := fun x r e => (I.names x r e).elim fun v y => ⟨v, y.1, y.2.step (.weak ho) hr⟩, asX := fun a e => ⟨fun z => (I.asX a e).1 (hX a z), (I.asX a e).2⟩, own := ⟨I.own.1, fun l e => (I.own.2 l e).elim fun a y => ⟨a, y.elim fun vs y => ⟨vs, y.elim fun n z => ⟨n, z.1, z.2.1, z.2.2.weak ho⟩⟩⟩⟩, stk := I.stk.step (.weak ho) hr }
structure Away (F : Fr W) (as : Option Addr) (a : Addr) : Prop where
  L : a ≠ F.env.locals
  C : ∀ x c, Celly F.env x → F.env.cells.lookup x = some c → c ≠ a
  fr : a ∉ framesOf F.outer
  T : ¬ W.B.T a
  as : as ≠ some a
structure Free (F : Fr W) (as : Option Addr) (a : Addr) : Prop extends Away F as a where
  g : W.B.g.get? a = none
  K : ∀ o, ¬ F.Kp a o ∧ ¬ F.KF a o
  X : ¬ F.XK a
theorem Free.fpx (x : Free F as a) : Away F as a ∧ ¬ F.XK a := ⟨x.toAway, x.X⟩
theorem Inv.away (I : Inv F ρ σ stk as s) (x : IsSeq s.heap a) (ha : F.dat as a) : Away F as a := have y := I.seq_ne x; ⟨y.1, y.2.1, y.2.2.1, y.2.2.2, ha.2⟩
theorem Inv.free (I : Inv F ρ σ stk as s) (h : s.heap.get? a = none) : Free F as a := by
  have no : ∀ {o}, s.heap.get? a = some o → False := fun e => by rw [h] at e; cases e
  refine ⟨⟨fun q => ?_, fun x c e1 e2 q => ?_, fun q => ?_, fun q => (W.O.tex _ _ I.glob.2 q).elim fun _ e => no e, fun q => (I.xk a fun z => z.2 q).1.elim fun _ y => y.elim fun _ y => y.elim fun _ y => no y.1⟩, ?_, fun o => ⟨fun q => no (I.kp a o q), fun q => (I.kf a o q).elim fun _ e => no e⟩, fun q => (I.xk a fun z => z.1 q).1.elim fun _ y => y.elim fun _ y => y.elim fun _ y => no y.1⟩
  · exact I.ns.elim fun m y => y.elim fun o y => y.elim fun _ y => y.elim fun _ y => no (q ▸ y.1)
  · obtain ⟨c', v, e3, ⟨o, y, _⟩, _⟩ := I.cex x e1
    obtain rfl := Option.some.inj (e2.symm.trans e3)
    exact no (q ▸ y)
  · exact (I.fs a q).1.elim fun o y => y.elim fun _ y => y.elim fun _ y => no y.1
  · cases q : W.B.g.get? a with
    | none => rfl
    | some o => exact (no (I.glob.1 a o q)).elim
end
noncomputable def ownedIters : List String := ["enumerate", "zip", "dict_itemiterator", "dict_reverseitemiterator", "odict_iterator", "itertools.zip_longest", "itertools.pairwise"]
structure Itr (W : Ws) (A : Around) (I : Addr) (tgt : Expr) (fp wr Z : List Addr) (items : List PV) (us : List Value) (l : List PV) (S : Nat → Heap → Prop) : Prop where
  sub : ∀ b ∈ wr, b ∈ fp
  frame : ∀ i h h', S i h → (∀ b ∈ fp, ∀ o, h.get? b = some o → h'.get? b = some o) → S i h'
  cls : ∀ i h, S i h → ∀ b ∈ wr, ∃ o c, h.get? b = some o ∧ o.cls = .type c ∧ c ≠ "code" ∧ (∀ es n, o.data ≠ .dict es n) ∧ ∀ xs n, o.data = .seq xs n → b ∈ Z
  zs : ∀ i h, S i h → ∀ b ∈ Z, IsSeq h b
  ex : ∀ i h, S i h → ∀ b ∈ fp, ∃ o, h.get? b = some o
  step : ∀ i p (s : Shared) (ok : Addr → Prop) (Q : Value → Shared → Prop), items[i]? = some p → S i s.heap → Rels ok s.heap us l → (∀ a, s.heap.get? a = none → ok a) → (∀ b ∈ Z, ¬ ok b) →
    (∀ v h' tk, Rel ok h' v p → S (i + 1) h' → (∀ b o, b ∉ wr → s.heap.get? b = some o → h'.get? b = some o) → Q v { s with heap := h', toks := tk }) →
    wpAny W.M A (pyNext (.ref I)) (fun r s₁ => ∃ v, r = some v ∧ wpAny W.M A (letOwnedTupleGo tgt (.ref I) v) (fun _ s₂ => Q v s₂) NoE s₁) NoE s
  done : ∀ (s : Shared) (Q : Shared → Prop), S items.length s.heap → (∀ h' tk, (∀ b o, b ∉ wr → s.heap.get? b = some o → h'.get? b = some o) → Q { s with heap := h', toks := tk }) →
    wpAny W.M A (pyNext (.ref I)) (fun r s₁ => r = none ∧ Q s₁) NoE s
  self : ∀ i (s : Shared) (Q : Value → Shared → Prop), S i s.heap → Q (.ref I) s → wpAny W.M A (pyIter (.ref I)) Q NoE s
section
variable {W : Ws} {A : Around} {s : Shared}
theorem letGo_plain {E : Value → Shared → Prop} {tgt : Expr} {I : Addr} {v : Value} {o : Obj} {n : String} {Q : Unit → Shared → Prop} (ho : s.heap.get? I = some o) (hc : o.cls = .type n) (hn : ownedIters.contains n = false) (hQ : Q () s) :
    wpAny W.M A (letOwnedTupleGo tgt (.ref I) v) Q E s := by
  have key : ∀ a : Addr, wpAny W.M A (do
      let o ← load I
      match o.cls, o.data with
      | .type n, .fields vs =>
        if ["enumerate", "zip", "dict_itemiterator", "dict_reverseitemiterator", "odict_iterator", "itertools.zip_longest", "itertools.pairwise"].contains n && vs[0]? == some (rawInt a) then
          rule "for.unpacks-the-owned-tuple"
          updateField I 0 .none
      | _, _ => pure ()) Q E s := fun a => by
    refine wpAny_bind (wpAny_load ho ?_)
    rw [hc]
    split
    · rename_i m vs hm _
      injection hm with hm
      rw [← hm, if_neg (by rw [show (["enumerate", "zip", "dict_itemiterator", "dict_reverseitemiterator", "odict_iterator", "itertools.zip_longest", "itertools.pairwise"].contains n) = false from hn, Bool.false_and]; exact Bool.false_ne_true)]
      exact wpAny_pure hQ
    · exact wpAny_pure hQ
  unfold letOwnedTupleGo
  cases tgt <;> first
    | exact wpAny_pure hQ
    | (cases v <;> first | exact wpAny_pure hQ | exact key _)
theorem Itr.ofWalks {I : Addr} {fp : List Addr} {P : Nat → Value → Prop} {S : Nat → Heap → Prop} {items : List PV} {us : List Value} {l : List PV} (w : Walks W.prog W.w A I fp [I] items.length P S) {tgt : Expr} {n : String} (hc : ownedIters.contains n = false) (hcc : n ≠ "code")
    (hcl : ∀ i h, S i h → ∃ o vs, h.get? I = some o ∧ o.cls = .type n ∧ o.data = .fields vs) (hex : ∀ i h, S i h → ∀ b ∈ fp, ∃ o, h.get? b = some o)
    (hr : ∀ j v p (ok : Addr → Prop) h, P j v → items[j]? = some p → Rels ok h us l → Rel ok h v p) : Itr W A I tgt fp [I] [] items us l S where
  sub := w.sub
  frame := w.frame
  cls i h x b hb := by
    obtain rfl := List.mem_singleton.mp hb
    obtain ⟨o, vs, e, c, d⟩ := hcl i h x
    exact ⟨o, n, e, c, hcc, fun es k q => (by rw [d] at q; cases q), fun xs k q => (by rw [d] at q; cases q)⟩
  zs := fun _ _ _ _ hb => nomatch hb
  ex := hex
  step i p s ok Q hp hst hu _ _ hQ := w.item i s _ _ (List.getElem?_eq_some_iff.mp hp).1 hst fun v h' tk hv hst' hk => ⟨v, rfl, by
    obtain ⟨o, vs, e, c, d⟩ := hcl i _ hst
    obtain ⟨o', vs', e', c', d'⟩ := hcl _ _ hst'
    refine letGo_plain (s := { s with heap := h', toks := tk }) e' c' hc (hQ v h' tk (hr i v p ok h' hv hp (hu.step fun a o₂ xs m e₂ d₂ q => ⟨hk a o₂ (fun z => ?_) e₂, q⟩)) hst' hk)
    rw [List.mem_singleton.mp z, e] at e₂
    obtain rfl := Option.some.inj e₂
    rw [d] at d₂; cases d₂⟩
  done s Q hst hQ := w.done s _ _ hst fun h' tk hk => ⟨rfl, hQ h' tk hk⟩
  self i s Q hst hQ := w.self i s _ _ hst hQ
theorem Itr.ofWalksT {I : Addr} {fp wr Z : List Addr} {Pt : Nat → Array Value → Prop} {S : Nat → Heap → Prop} {Mid : Nat → Addr → Heap → Prop} {items us l} (w : WalksT W.prog W.w A I fp wr items.length Pt S Mid) {elts : List Expr} {x1 : Nat} {tp : Pos}
    (hcl : ∀ i h, S i h → ∀ b ∈ wr, ∃ o c, h.get? b = some o ∧ o.cls = .type c ∧ c ≠ "code" ∧ (∀ es n, o.data ≠ .dict es n) ∧ ∀ xs n, o.data = .seq xs n → b ∈ Z) (hm : ∀ i T h, Mid i T h → ∀ b ∈ wr, ∀ o xs k, h.get? b = some o → o.data = .seq xs k → b ∈ Z) (hZ : ∀ i h, S i h → ∀ b ∈ Z, IsSeq h b)
    (hex : ∀ i h, S i h → ∀ b ∈ fp, ∃ o, h.get? b = some o)
    (hr : ∀ j vals p (ok : Addr → Prop) h, Pt j vals → items[j]? = some p → Rels ok h us l → ∃ ps, p = .tup ps ∧ Rels ok h vals.toList ps) :
    Itr W A I (.Tuple elts x1 tp) fp wr Z items us l S where
  sub := w.sub
  frame := w.frame
  cls := hcl
  zs := hZ
  ex := hex
  step i p s ok Q hp hst hu hnew hz hQ := w.item i s _ _ (List.getElem?_eq_some_iff.mp hp).1 hst fun T vals h' tk hv hT hTup hMid hk => ⟨.ref T, rfl, by
    have k1 : Sk ok ok s.heap h' := fun a o xs n e d q => ⟨hk a o (fun hb => by
      obtain ⟨o', _, e', _, _, _, z⟩ := hcl i _ hst a hb
      obtain rfl := Option.some.inj (e.symm.trans e')
      exact hz a (z xs n d) q) e, q⟩
    refine w.go elts x1 tp i T { s with heap := h', toks := tk } _ _ hMid fun h'' hst'' hk'' => ?_
    have k2 : Sk ok ok h' h'' := fun a o xs n e d q => ⟨hk'' a o (fun hb => hz a (hm i T _ hMid a hb o xs n e d) q) e, q⟩
    obtain ⟨ps, rfl, r⟩ := hr i vals p ok h'' hv hp ((hu.step k1).step k2)
    exact hQ (.ref T) h'' tk (.tup (vs := vals.toList) (hnew T (get_new hT)) (hTup.at fun o e => hk'' T o (w.apart i T _ hMid) e) r) hst'' fun b o hb e => hk'' b o hb (hk b o hb e)⟩
  done s Q hst hQ := w.done s _ _ hst fun h' tk hk => ⟨rfl, hQ h' tk hk⟩
  self i s Q hst hQ := w.self i s _ _ hst hQ
end
end Mine
namespace Mine
set_option genSizeOf false
set_option genInjectivity false
inductive Ready {W : Ws} (F : Fr W) (tgt : Expr) (items : List PV) (ρ : Loc) (σ : Sto) (stk : List Pend) (as : Option Addr) : Value → Shared → Prop
  | mk {I : Addr} {fp wr Z : List Addr} {us : List Value} {l : List PV} {S : Nat → Heap → Prop} {s : Shared} : Inv (F.hid fun a => F.XK a ∨ a ∈ Z) ρ σ (.row us l :: stk) as s → Itr W F.A I tgt fp wr Z items us l S → S 0 s.heap →
    (∀ b ∈ wr, Free F as b) → (∀ b ∈ fp, Away F as b ∧ ¬ F.XK b) → Ready F tgt items ρ σ stk as (.ref I) s
section
variable {W : Ws} {F : Fr W} {ρ : Loc} {σ : Sto} {stk : List Pend} {as : Option Addr} {s : Shared} {tgt : Expr} {us ws : List Value} {l l' items : List PV} {v : Value}
theorem grow_all {h' : Heap} {tk : Nat} {L : Addr} (k : ∀ a o, s.heap.get? a = some o → h'.get? a = some o) : Grow W.B L s { s with heap := h', toks := tk } :=
  ⟨_, _, rfl, fun a o _ _ e => k a o e, fun m x => x.keeps k, W.O.tiW (fun _ => False) _ _ (fun _ _ q => q.elim) fun a o _ e => k a o e⟩
theorem Walks.len {A : Around} {I : Addr} {fp wr : List Addr} {n m : Nat} {P : Nat → Value → Prop} {S : Nat → Heap → Prop} (w : Walks W.prog W.w A I fp wr n P S) (e : n = m) : Walks W.prog W.w A I fp wr m P S := e ▸ w
theorem ready_new (I : Inv F ρ σ (.row us l :: stk) as s) {o : Obj} {fs : List Addr} {S : Nat → Heap → Prop} (T : Itr W F.A s.heap.objs.size tgt (s.heap.objs.size :: fs) [s.heap.objs.size] [] items us l S) (hfs : ∀ b ∈ fs, IsSeq s.heap b ∧ F.dat as b) (hS : S 0 (s.heap.push o)) {tk : Nat} :
    Ready F tgt items ρ σ stk as (.ref s.heap.objs.size) { s with heap := s.heap.push o, toks := tk } :=
  have f := I.free (get_new (Nat.le_refl _))
  .mk (I.growX (fun _ q => q.elim .inl fun q => (List.not_mem_nil q).elim) (grow_all fun _ _ e => Heap.get?_push_of_some _ e)) T hS (fun b hb => List.mem_singleton.mp hb ▸ f) fun b hb => (List.mem_cons.mp hb).elim (fun q => q ▸ f.fpx) fun q => ⟨I.away (hfs b q).1 (hfs b q).2, (hfs b q).2.1⟩
theorem isSeq_list {h : Heap} {a : Addr} {xs : Array Value} (x : h.IsList a xs) : IsSeq h a := x.elim fun o y => y.2.2.elim fun n d => ⟨o, xs, n, y.1, d⟩
theorem isSeq_tup {h : Heap} {a : Addr} {xs : Array Value} (x : h.IsTuple a xs) : IsSeq h a := x.elim fun o y => y.2.2.elim fun n d => ⟨o, xs, n, y.1, d⟩
theorem size_items {ok : Addr → Prop} {h : Heap} (r : Rels ok h us l) : us.toArray.size = l.length := r.length
theorem item_rel (j : Nat) (v : Value) (p : PV) (ok : Addr → Prop) (h : Heap) (hv : us.toArray[j]? = some v) (hp : l[j]? = some p) (r : Rels ok h us l) : Rel ok h v p := by
  obtain ⟨v', e, r'⟩ := r.get hp
  rw [List.getElem?_toArray] at hv
  exact Option.some.inj (e.symm.trans hv) ▸ r'
theorem Inv.one_row (I : Inv F ρ σ (.one v (.val (.lst l)) :: stk) as s) : ∃ a us, v = .ref a ∧ F.dat as a ∧ s.heap.IsList a us.toArray ∧ Inv F ρ σ (.row us l :: stk) as s := by
  obtain ⟨a, us, rfl, d, x, r⟩ := Rel.lst' I.stk.1
  exact ⟨a, us, rfl, d, x, I.stk' fun k => ⟨r, k.2⟩⟩
theorem ready_list (I : Inv F ρ σ (.one v (.val (.lst l)) :: stk) as s) : wpAny W.M F.A (pyIter v) (Ready F tgt l ρ σ stk as) NoE s := by
  obtain ⟨a, us, rfl, d, x, J⟩ := Inv.one_row I
  have hne : a ≠ s.heap.objs.size := neA (.inl (x.elim fun o y => lt_sizeN y.1))
  refine wpAny_pyIter_list x (ready_new J (.ofWalks (Walks.len (Walks.list F.room.handled s.heap.objs.size a hne us.toArray) (size_items J.stk.1)) (by decide) (by decide) (fun i h y => y.1.elim fun o z => ⟨o, _, z⟩) (fun i h y b hb => ?_) item_rel) (fun b hb => List.mem_singleton.mp hb ▸ ⟨isSeq_list x, d⟩) ⟨⟨_, Heap.get?_push_size _ rfl, rfl, rfl⟩, x.at fun o e => Heap.get?_push_of_some _ e⟩)
  rcases List.mem_cons.mp hb with rfl | hb
  · exact y.1.elim fun o z => ⟨o, z.1⟩
  · exact List.mem_singleton.mp hb ▸ y.2.elim fun o z => ⟨o, z.1⟩
theorem ready_tuple (I : Inv F ρ σ (.one v (.val (.tup l)) :: stk) as s) : wpAny W.M F.A (pyIter v) (Ready F tgt l ρ σ stk as) NoE s := by
  obtain ⟨a, us, rfl, d, x, r⟩ := Rel.tup' I.stk.1
  have J : Inv F ρ σ (.row us l :: stk) as s := I.stk' fun k => ⟨r, k.2⟩
  have hne : a ≠ s.heap.objs.size := neA (.inl (x.elim fun o y => lt_sizeN y.1))
  refine wpAny_pyIter_tuple x (ready_new J (.ofWalks (Walks.len (Walks.tuple F.room.handled s.heap.objs.size a hne us.toArray) (size_items J.stk.1)) (by decide) (by decide) (fun i h y => y.1.elim fun o z => ⟨o, _, z⟩) (fun i h y b hb => ?_) item_rel) (fun b hb => List.mem_singleton.mp hb ▸ ⟨isSeq_tup x, d⟩) ⟨⟨_, Heap.get?_push_size _ rfl, rfl, rfl⟩, x.at fun o e => Heap.get?_push_of_some _ e⟩)
  rcases List.mem_cons.mp hb with rfl | hb
  · exact y.1.elim fun o z => ⟨o, z.1⟩
  · exact List.mem_singleton.mp hb ▸ y.2.elim fun o z => ⟨o, z.1⟩
theorem ready_bytes {b : Array UInt8} {t : Tok} (I : Inv F ρ σ stk as s) : wpAny W.M F.A (pyIter (.bytes b t)) (Ready F tgt (b.toList.map fun x => .int (x.toNat : Int)) ρ σ stk as) NoE s := by
  have hl : b.size = (b.toList.map fun x => PV.int (x.toNat : Int)).length := by simp
  refine KBw.pyIter_bytes (ready_new (us := []) (l := []) (I.stk' fun k => ⟨.nil, k⟩) (.ofWalks (Walks.len (KBw.walks F.room.handled s.heap.objs.size b t) hl) (by decide) (by decide) (fun i h y => y.elim fun o z => ⟨o, _, z⟩) (fun i h y b hb => List.mem_singleton.mp hb ▸ y.elim fun o z => ⟨o, z.1⟩) fun j v p ok h hv hp _ => ?_) (fun b hb => nomatch hb) ⟨_, Heap.get?_push_size _ rfl, rfl, rfl⟩)
  obtain ⟨c, u, hc, rfl⟩ := hv
  rw [List.getElem?_map, Array.getElem?_toList, hc] at hp
  exact Option.some.inj hp ▸ .int _ _
theorem ready_rev (I : Inv F ρ σ (.row [v] [.lst l] :: stk) as s) : wpAny W.M F.A (call (.type "reversed") [v]) (fun x s₂ => wpAny W.M F.A (pyIter x) (Ready F tgt l.reverse ρ σ stk as) NoE s₂) NoE s := by
  obtain ⟨a, us, rfl, d, x, J⟩ := Inv.one_row (I.stk' fun k => ⟨k.1.cons'.elim fun _ y => y.elim fun _ z => (List.cons.inj z.1).1 ▸ z.2.1, k.2⟩)
  have hne : a ≠ s.heap.objs.size := neA (.inl (x.elim fun o y => lt_sizeN y.1))
  have hl := size_items J.stk.1
  refine call_reversed_list x (wpAny_pyIter_revIter (l := a) (i := (us.toArray.size : Int) - 1) ⟨_, Heap.get?_push_size _ rfl, rfl, rfl⟩ (ready_new J (.ofWalks (Walks.len (Walks.listRev F.room.handled s.heap.objs.size a hne us.toArray) (hl.trans List.length_reverse.symm)) (by decide) (by decide) (fun i h y => y.2.1.elim fun o z => ⟨o, _, z⟩) (fun i h y b hb => ?_) fun j v p ok h hv hp r => ?_) (fun b hb => List.mem_singleton.mp hb ▸ ⟨isSeq_list x, d⟩) ⟨Nat.zero_le _, ⟨_, Heap.get?_push_size _ rfl, rfl, by simp [revObj]⟩, x.at fun o e => Heap.get?_push_of_some _ e⟩))
  · rcases List.mem_cons.mp hb with rfl | hb
    · exact y.2.1.elim fun o z => ⟨o, z.1⟩
    · exact List.mem_singleton.mp hb ▸ y.2.2.elim fun o z => ⟨o, z.1⟩
  · have hj := (List.getElem?_eq_some_iff.mp hp).1
    rw [List.length_reverse] at hj
    rw [List.getElem?_reverse hj, ← hl] at hp
    exact item_rel _ v p ok h hv hp r
end
end Mine
namespace Mine
set_option genSizeOf false
set_option genInjectivity false
noncomputable def numbered (l : List PV) : List PV := l.zipIdx.map fun (p, i) => .tup [.int (i : Int), p]
noncomputable def paired (l m : List PV) : List PV := (l.zip m).map fun (p, q) => .tup [p, q]
section
variable {W : Ws} {F : Fr W} {ρ : Loc} {σ : Sto} {stk : List Pend} {as : Option Addr} {s : Shared} {tgt : Expr} {us ws : List Value} {l l' items : List PV} {v u : Value}
theorem ready_rangeIter (I : Inv F ρ σ stk as s) {r : Addr} {a b c : Int} {t u v : Tok} {n : Nat} (hr : IsRange s.heap r a b c t u v) (hsmall : Builtin.Range.small a b c = true)
    (hz : Builtin.Range.rangeSize a b c = (n : Int)) : wpAny W.M F.A (pyIter (.ref r)) (Ready F tgt ((List.range n).map fun (i : Nat) => .int (a + (i : Int) * c)) ρ σ stk as) NoE s := by
  have hl : n = ((List.range n).map fun (i : Nat) => PV.int (a + (i : Int) * c)).length := by rw [List.length_map, List.length_range]
  refine wpAny_pyIter_range hr hsmall (ready_new (us := []) (l := []) (I.stk' fun k => ⟨.nil, k⟩) (.ofWalks (Walks.len (Walks.range F.room.handled s.heap.objs.size a c n) hl) (by decide) (by decide) (fun i h y => ⟨_, _, y, rfl, rfl⟩) (fun i h y b hb => List.mem_singleton.mp hb ▸ ⟨_, y⟩) fun j v p ok h hv hp _ => ?_) (fun b hb => nomatch hb) ?_)
  · obtain ⟨t', rfl⟩ := hv
    have hj := (List.getElem?_eq_some_iff.mp hp).1
    rw [← hl] at hj
    rw [List.getElem?_map, List.getElem?_range hj] at hp
    exact Option.some.inj hp ▸ .int _ _
  · show IsRangeIter _ _ _ _ _
    rw [hz]
    simpa using Heap.get?_push_size s.heap rfl
theorem ready_range1 {b : Int} (hb : b.natAbs < 2 ^ 40) (I : Inv F ρ σ (.row us [.int b] :: stk) as s) :
    wpAny W.M F.A (call (.type "range") us) (fun x s₂ => wpAny W.M F.A (pyIter x) (Ready F tgt ((List.range b.toNat).map fun (i : Nat) => .int (i : Int)) ρ σ stk as) NoE s₂) NoE s := by
  obtain ⟨v, ws, rfl, h1, h2⟩ := I.stk.1.cons'
  obtain rfl := h2.nil'
  obtain ⟨t, rfl⟩ := h1.int'
  have hb' : -(2 ^ 40) < b ∧ b < 2 ^ 40 := by (first | lia | omega)
  have hz : Builtin.Range.rangeSize 0 b 1 = ((b.toNat : Nat) : Int) := by rw [rangeSize_one]; split <;> (first | lia | omega)
  have z := ready_rangeIter (tgt := tgt) ((I.stk' fun k => k.2).grow (grow_all (tk := s.toks + 1 + 1) fun _ _ e => Heap.get?_push_of_some { cls := .type "range", data := .fields #[.int 0 s.toks, .int b t, .int 1 (s.toks + 1)] } e)) (IsRange.new s.heap 0 b 1 s.toks t (s.toks + 1)) (small_one (by (first | lia | omega)) (by (first | lia | omega)) (by (first | lia | omega)) (by (first | lia | omega))) hz
  exact call_range_1 (by simpa using z)
theorem ready_range3 {a b : Int} (hb : a.natAbs < 2 ^ 40 ∧ b.natAbs < 2 ^ 40) (I : Inv F ρ σ (.row us [.int a, .int b, .int (-1)] :: stk) as s) :
    wpAny W.M F.A (call (.type "range") us) (fun x s₂ => wpAny W.M F.A (pyIter x) (Ready F tgt ((List.range (a - b).toNat).map fun (i : Nat) => .int (a + (i : Int) * (-1))) ρ σ stk as) NoE s₂) NoE s := by
  obtain ⟨v, ws, rfl, h1, h2⟩ := I.stk.1.cons'
  obtain ⟨v', ws, rfl, h3, h2⟩ := h2.cons'
  obtain ⟨v', ws, rfl, h4, h2⟩ := h2.cons'
  obtain rfl := h2.nil'
  obtain ⟨t, rfl⟩ := h1.int'
  obtain ⟨u, rfl⟩ := h3.int'
  obtain ⟨v, rfl⟩ := h4.int'
  have hz : Builtin.Range.rangeSize a b (-1) = (((a - b).toNat : Nat) : Int) := by
    unfold Builtin.Range.rangeSize
    simp only [show ¬ ((-1 : Int) > 0) by decide, if_false, show -(-1 : Int) = 1 by decide, Int.ediv_one]
    split <;> (first | lia | omega)
  have hs : Builtin.Range.small a b (-1) = true := by
    unfold Builtin.Range.small
    rw [hz]
    simp [Builtin.Range.rangeFitsLong]
    (first | lia | omega)
  exact call_range_3 (by decide) (ready_rangeIter ((I.stk' fun k => k.2).grow (grow_all (tk := s.toks) fun _ _ e => Heap.get?_push_of_some { cls := .type "range", data := .fields #[.int a t, .int b u, .int (-1) v] } e)) (IsRange.new s.heap a b (-1) t u v) hs hz) (.inl (PyProof.noPylong_small (by (first | lia | omega))))
theorem WalksT.len {A : Around} {I : Addr} {fp wr : List Addr} {n m : Nat} {Pt : Nat → Array Value → Prop} {S : Nat → Heap → Prop} {Mid : Nat → Addr → Heap → Prop} (w : WalksT W.prog W.w A I fp wr n Pt S Mid) (e : n = m) : WalksT W.prog W.w A I fp wr m Pt S Mid := e ▸ w
theorem ready_enum {elts : List Expr} {x1 : Nat} {tp : Pos} (I : Inv F ρ σ (.row [v] [.lst l] :: stk) as s) : wpAny W.M F.A (call (.type "enumerate") [v]) (fun x s₂ => wpAny W.M F.A (pyIter x) (Ready F (.Tuple elts x1 tp) (numbered l) ρ σ stk as) NoE s₂) NoE s := by
  obtain ⟨a, us, rfl, d, x, J⟩ := Inv.one_row (I.stk' fun k => ⟨k.1.cons'.elim fun _ y => y.elim fun _ z => (List.cons.inj z.1).1 ▸ z.2.1, k.2⟩)
  have hlt := x.elim fun o y => lt_sizeN y.1
  refine call_enumerate_list x fun h' he hit hsz k2 => wpAny_pyIter_enum he ?_
  have f : ∀ {b}, s.heap.objs.size ≤ b → Free F as b := fun h => I.free (get_new h)
  have hl : us.toArray.size = (numbered l).length := by simp [numbered, J.stk.1.length]
  refine .mk (Z := []) (S := fun i h => (∃ old, IsEnum h (s.heap.objs.size + 1) s.heap.objs.size i old) ∧ h.IsListIter s.heap.objs.size a i ∧ h.IsList a us.toArray) (J.growX (fun _ q => q.elim .inl fun q => (List.not_mem_nil q).elim) (grow_all (tk := s.toks) k2)) (.ofWalksT (WalksT.len (WalksT.enumerate F.room.handled (s.heap.objs.size + 1) s.heap.objs.size a (neA (.inr (Nat.lt_succ_self _))) (neA (.inl (Nat.lt_succ_of_lt hlt))) (neA (.inl hlt)) us.toArray) hl) (fun i h y b hb => ?_) (fun i T h y b hb => ?_) (fun _ _ _ _ hb => nomatch hb) (fun i h y b hb => ?_) fun j vals p ok h hv hp r => ?_) ⟨⟨_, he⟩, hit, x.at fun o e => k2 _ _ e⟩ (fun b hb => ?_) fun b hb => ?_
  · rcases List.mem_cons.mp hb with rfl | hb
    · exact y.1.elim fun old z => ⟨_, _, z, rfl, by decide, fun _ _ => Data.noConfusion, fun _ _ => Data.noConfusion⟩
    · obtain ⟨o, e, c, q⟩ := List.mem_singleton.mp hb ▸ y.2.1
      exact ⟨o, _, e, c, by decide, fun _ _ z => (by rw [q] at z; cases z), fun _ _ z => (by rw [q] at z; cases z)⟩
  · intro o xs k e q
    rcases List.mem_cons.mp hb with rfl | hb
    · obtain ⟨x, z⟩ := y.1
      obtain rfl := Option.some.inj (e.symm.trans z)
      cases q
    · obtain ⟨o', e', _, q'⟩ := List.mem_singleton.mp hb ▸ y.2.1
      obtain rfl := Option.some.inj (e.symm.trans e')
      rw [q'] at q; cases q
  · rcases List.mem_cons.mp hb with rfl | hb
    · exact y.1.elim fun old z => ⟨_, z⟩
    · rcases List.mem_cons.mp hb with rfl | hb
      · exact y.2.1.elim fun o z => ⟨o, z.1⟩
      · exact List.mem_singleton.mp hb ▸ y.2.2.elim fun o z => ⟨o, z.1⟩
  · obtain ⟨t, x, hx, rfl⟩ := hv
    unfold numbered at hp
    rw [List.getElem?_map, List.getElem?_zipIdx] at hp
    cases hq : l[j]? with
    | none => rw [hq] at hp; cases hp
    | some q =>
      rw [hq] at hp
      obtain rfl := Option.some.inj hp
      exact ⟨_, rfl, .cons (by rw [Nat.zero_add]; exact .int _ _) (.one (item_rel j x q ok h hx hq r))⟩
  · rcases List.mem_cons.mp hb with rfl | hb
    · exact f (Nat.le_succ _)
    · exact List.mem_singleton.mp hb ▸ f (Nat.le_refl _)
  · rcases List.mem_cons.mp hb with rfl | hb
    · exact (f (Nat.le_succ _)).fpx
    · rcases List.mem_cons.mp hb with rfl | hb
      · exact (f (Nat.le_refl _)).fpx
      · exact List.mem_singleton.mp hb ▸ ⟨I.away (isSeq_list x) d, d.1⟩
end
section
variable {W : Ws} {F : Fr W} {ρ : Loc} {σ : Sto} {stk : List Pend} {as : Option Addr} {s : Shared} {us : List Value} {l l' : List PV} {v u : Value} {X : Addr → Prop}
theorem mem4 {a b c d x : Addr} (h : x ∈ [a, b, c, d]) : x = a ∨ x = b ∨ x = c ∨ x = d := by simpa using h
theorem ready_zip {elts : List Expr} {x1 : Nat} {tp : Pos} (I : Inv F ρ σ (.row [v, u] [.lst l, .lst l'] :: stk) as s) : wpAny W.M F.A (call (.type "zip") [v, u]) (fun x s₂ => wpAny W.M F.A (pyIter x) (Ready F (.Tuple elts x1 tp) (paired l l') ρ σ stk as) NoE s₂) NoE s := by
  obtain ⟨_, _, e, h1, h2⟩ := I.stk.1.cons'
  obtain ⟨rfl, rfl⟩ := List.cons.inj e
  obtain ⟨_, _, e, h2, _⟩ := h2.cons'
  obtain ⟨rfl, rfl⟩ := List.cons.inj e
  obtain ⟨a, vs, rfl, da, xa, ra⟩ := h1.lst'
  obtain ⟨b, us, rfl, db, xb, rb⟩ := h2.lst'
  have J : Inv F ρ σ (.row (vs ++ us) (l ++ l') :: stk) as s := I.stk' fun k => ⟨ra.append rb, k.2⟩
  have ha := xa.elim fun o y => lt_sizeN y.1
  have hb := xb.elim fun o y => lt_sizeN y.1
  have f : ∀ {b}, s.heap.objs.size ≤ b → Free F as b := fun h => I.free (get_new h)
  refine call_zip_2 xa xb fun h' hz hTI hTO h1 h2 _ k2 => wpAny_pyIter_zip hz ?_
  have lt : ∀ {a i}, @LT.lt Nat instLTNat a s.heap.objs.size → a ≠ s.heap.objs.size + i := fun h => neA (.inl (Nat.lt_add_right _ h))
  have D : ZipApart (s.heap.objs.size + 4) (s.heap.objs.size + 2) (s.heap.objs.size + 3) s.heap.objs.size (s.heap.objs.size + 1) a b := by constructor <;> exact neA (by (first | lia | omega))
  have hl : min vs.toArray.size us.toArray.size = (paired l l').length := by simp [paired, ra.length, rb.length]
  refine .mk (Z := [s.heap.objs.size + 3]) (J.growX (s' := { s with heap := h' }) (fun q z => z.elim .inl fun z => .inr ⟨get_new (List.mem_singleton.mp z ▸ Nat.le_add_right _ _), List.mem_singleton.mp z ▸ ⟨_, _, _, hTO, rfl⟩⟩) (grow_all (tk := s.toks) k2)) (.ofWalksT (WalksT.len (WalksT.zip2 F.room.handled _ _ _ _ _ a b D vs.toArray us.toArray) hl) (fun i h y c hc => ?_) (fun i T h y c hc => ?_) (fun i h y c hc => ?_) (fun i h y c hc => ?_) fun j vals p ok h hv hp r => ?_) ⟨hz, hTI, ⟨_, _, hTO⟩, h1, h2, xa.at fun o e => k2 _ _ e, xb.at fun o e => k2 _ _ e⟩ (fun c hc => ?_) fun c hc => ?_
  · obtain ⟨g1, _, ⟨x, z, g3⟩, ⟨o4, g4, c4, d4⟩, ⟨o5, g5, c5, d5⟩, _⟩ := y
    rcases mem4 hc with rfl | rfl | rfl | rfl
    · exact ⟨_, _, g1, rfl, by decide, fun _ _ => Data.noConfusion, fun _ _ => Data.noConfusion⟩
    · exact ⟨_, _, g3, rfl, by decide, fun _ _ => Data.noConfusion, fun _ _ _ => List.mem_singleton.mpr rfl⟩
    · exact ⟨_, _, g4, c4, by decide, fun _ _ z => (by rw [d4] at z; cases z), fun _ _ z => (by rw [d4] at z; cases z)⟩
    · exact ⟨_, _, g5, c5, by decide, fun _ _ z => (by rw [d5] at z; cases z), fun _ _ z => (by rw [d5] at z; cases z)⟩
  · obtain ⟨g1, _, _, ⟨o4, g4, c4, d4⟩, ⟨o5, g5, c5, d5⟩, _⟩ := y
    intro o xs k e q
    rcases mem4 hc with rfl | rfl | rfl | rfl
    · obtain rfl := Option.some.inj (e.symm.trans g1); cases q
    · exact List.mem_singleton.mpr rfl
    · obtain rfl := Option.some.inj (e.symm.trans g4); rw [d4] at q; cases q
    · obtain rfl := Option.some.inj (e.symm.trans g5); rw [d5] at q; cases q
  · obtain ⟨_, _, ⟨x, z, g3⟩, _⟩ := y
    exact List.mem_singleton.mp hc ▸ ⟨_, _, _, g3, rfl⟩
  · obtain ⟨g1, g2, ⟨x, z, g3⟩, ⟨o4, g4, _⟩, ⟨o5, g5, _⟩, ⟨o6, g6, _⟩, ⟨o7, g7, _⟩⟩ := y
    simp only [List.mem_cons, List.not_mem_nil, or_false] at hc
    rcases hc with rfl | rfl | rfl | rfl | rfl | rfl | rfl
    · exact ⟨_, g1⟩
    · exact ⟨_, g2⟩
    · exact ⟨_, g3⟩
    · exact ⟨_, g4⟩
    · exact ⟨_, g5⟩
    · exact ⟨_, g6⟩
    · exact ⟨_, g7⟩
  · obtain ⟨x, y, hx, hy, rfl⟩ := hv
    unfold paired at hp
    rw [List.getElem?_map] at hp
    cases hq : (l.zip l')[j]? with
    | none => rw [hq] at hp; cases hp
    | some q =>
      rw [hq] at hp
      obtain ⟨q1, q2⟩ := q
      obtain ⟨e1, e2⟩ := List.getElem?_zip_eq_some.mp hq
      obtain rfl := Option.some.inj hp
      have hll := ra.length
      have r1 := r.take vs.length
      have r2 := r.drop vs.length
      rw [List.take_left, hll, List.take_left] at r1
      rw [List.drop_left, hll, List.drop_left] at r2
      exact ⟨_, rfl, .cons (item_rel j x q1 ok h hx e1 r1) (.one (item_rel j y q2 ok h hy e2 r2))⟩
  · rcases mem4 hc with rfl | rfl | rfl | rfl <;> exact f (by (first | lia | omega))
  · simp only [List.mem_cons, List.not_mem_nil, or_false] at hc
    rcases hc with rfl | rfl | rfl | rfl | rfl | rfl | rfl
    · exact (f (by (first | lia | omega))).fpx
    · exact (f (by (first | lia | omega))).fpx
    · exact (f (by (first | lia | omega))).fpx
    · exact (f (by (first | lia | omega))).fpx
    · exact (f (by (first | lia | omega))).fpx
    · exact ⟨I.away (isSeq_list xa) da, da.1⟩
    · exact ⟨I.away (isSeq_list xb) db, db.1⟩
end
end Mine
namespace Mine
set_option genSizeOf false
set_option genInjectivity false
noncomputable def Asg (W : Ws) (ro : Bool) (sc : Scope) (t : Expr) (p : PV) (ρ ρ' : Loc) : Prop := ∀ {F : Fr W} {σ : Sto} {stk : List Pend} {as : Option Addr} {s : Shared} {u : Value}, F.env.scope = sc → (F.ro = true → ro = true) → Inv F ρ σ (.one u (.val p) :: stk) as s → wpAny W.M F.A (assign t F.env u) (fun _ s' => Inv F ρ' σ stk as s') NoE s
structure Asgs (W : Ws) (ro : Bool) (sc : Scope) (ts : List Expr) (l : List PV) (ρ ρ' : Loc) : Prop where
  len : ∀ env, (assignEach ts env).length = l.length
  pl : ∀ env, (assignEach ts env).findIdx? (·.1) = none
  wp : ∀ {F : Fr W} {σ : Sto} {stk : List Pend} {as : Option Addr} {s : Shared} {us : List Value}, F.env.scope = sc → (F.ro = true → ro = true) → Inv F ρ σ (.row us l :: stk) as s → wpAny W.M F.A (assignInOrder ((assignEach ts F.env).map (·.2)) us) (fun _ s' => Inv F ρ' σ stk as s') NoE s
section
variable {W : Ws} {ro : Bool} {sc : Scope} {ρ ρ₁ ρ₂ : Loc} {x : Str} {pos : Pos} {p : PV} {l : List PV} {t : Expr} {ts : List Expr}
theorem Asg.name (h : sc.names.lookup x = some .local) : Asg W ro sc (.Name x pos) p ρ (setP x (.val p) ρ) := fun {F _ _ _ _ _} hs _ I => wpAny_assign_Name (I.store (show F.env.scope.names.lookup x = _ from hs ▸ h))
theorem Asg.cell (h : sc.names.lookup x = some .cell) : Asg W false sc (.Name x pos) p ρ (setP x (.val p) ρ) := fun {F _ _ _ _ _} hs hr I => wpAny_assign_Name (I.storeC (Bool.eq_false_iff.mpr fun q => Bool.noConfusion (hr q)) (show F.env.scope.names.lookup x = _ from hs ▸ h))
theorem Asgs.nil : Asgs W ro sc [] [] ρ ρ := ⟨fun _ => rfl, fun _ => rfl, fun _ _ I => by
  obtain rfl := I.stk.1.nil'
  exact wpAny_assignInOrder_none (I.stk' fun k => k.2)⟩
theorem Asgs.cons (h1 : Asg W ro sc t p ρ ρ₁) (h2 : Asgs W ro sc ts l ρ₁ ρ₂) (ht : ∀ env, assignEach (t :: ts) env = (false, assign t env) :: assignEach ts env) : Asgs W ro sc (t :: ts) (p :: l) ρ ρ₂ :=
  ⟨fun env => by rw [ht]; exact congrArg (· + 1) (h2.len env), fun env => by rw [ht, List.findIdx?_cons, h2.pl]; rfl, fun hs hr I => by
    obtain ⟨v, ws, rfl, rv, rw⟩ := I.stk.1.cons'
    rw [ht]
    exact wpAny_assignInOrder_more (go (h1 hs hr (I.stk' (stk' := .one v (.val p) :: .row ws l :: _) fun k => ⟨rv, rw, k.2⟩)) fun _ _ I => h2.wp hs hr I)⟩
theorem Asg.tup {k : Nat} (h : Asgs W ro sc ts l ρ ρ₁) : Asg W ro sc (.Tuple ts k pos) (.tup l) ρ ρ₁ := fun {F σ stk as s u} hs hr I => by
  obtain ⟨a, vs, rfl, _, ht, r⟩ := Rel.tup' I.stk.1
  exact wpAny_assign_Tuple F.room.handled ht ((h.len _).trans r.length.symm) (h.pl _) fun h' hx => h.wp hs hr (Inv.grow (I.stk' (stk' := .row vs l :: stk) fun k => ⟨r, k.2⟩) (grow_all (tk := s.toks) fun b o e => hx b o (Nat.ne_of_lt (Heap.lt_size e)) e))
end
end Mine
namespace Mine
set_option genSizeOf false
set_option genInjectivity false
theorem mem_of_look {β : Type} {x : Str} {k : β} : ∀ {l : List (Str × β)}, l.lookup x = some k → (x, k) ∈ l
  | (y, z) :: r, h => by
    rw [List.lookup_cons] at h
    cases e : x == y with
    | true =>
      rw [e] at h
      obtain rfl := eq_of_beq e
      exact Option.some.inj h ▸ List.mem_cons_self
    | false => rw [e] at h; exact List.mem_cons_of_mem _ (mem_of_look h)
noncomputable def cloGo (env : Env) : List (Str × NameKind) → List (Str × Addr) → List (Str × Addr)
  | [], acc => acc
  | (n, k) :: r, acc => cloGo env r (if k == .free then (n, (env.cells.lookup n).getD 0) :: acc else acc)
theorem cloGo_look {env : Env} {x : Str} : ∀ {names : List (Str × NameKind)} {acc : List (Str × Addr)}, (x, NameKind.free) ∈ names ∨ acc.lookup x = some ((env.cells.lookup x).getD 0) → (cloGo env names acc).lookup x = some ((env.cells.lookup x).getD 0)
  | [], acc, h => h.resolve_left List.not_mem_nil
  | (n, k) :: r, acc, h => by
    rw [cloGo]
    refine cloGo_look ?_
    rcases h with h | h
    · rcases List.mem_cons.mp h with h | h
      · obtain ⟨rfl, rfl⟩ := Prod.mk.inj h
        exact .inr (by rw [if_pos (beq_self_eq_true _), List.lookup_cons, beq_self_eq_true])
      · exact .inl h
    · refine .inr ?_
      split
      · rw [List.lookup_cons]
        cases e : x == n with
        | true => rw [eq_of_beq e]
        | false => exact h
      · exact h
theorem closure_go {env : Env} {names : List (Str × NameKind)} {acc : List (Str × Addr)} (h : ∀ x ∈ names, x.2 = .free → ∃ c, env.cells.lookup x.1 = some c) :
    (forIn names acc fun (x : Str × NameKind) (cs : List (Str × Addr)) => (if (x.2 == NameKind.free) = true then (cellOf env x.1 >>= fun a => pure (ForInStep.yield ((x.1, a) :: cs))) else pure (ForInStep.yield cs) : Sem (ForInStep (List (Str × Addr))))) = pure (cloGo env names acc) := by
  induction names generalizing acc with
  | nil => rfl
  | cons x r ih =>
    have ih := fun acc => ih (acc := acc) fun y hy => h y (List.mem_cons_of_mem _ hy)
    obtain ⟨n, k⟩ := x
    rw [List.forIn_cons, cloGo]
    cases e : k == NameKind.free with
    | true =>
      obtain ⟨c, hc⟩ := h (n, k) List.mem_cons_self (eq_of_beq e)
      rw [if_pos rfl, cellOf, show env.cells.lookup n = some c from hc, if_pos rfl]
      exact ih _
    | false => rw [if_neg Bool.false_ne_true, if_neg Bool.false_ne_true]; exact ih _
theorem closure_ok {csc : Scope} {env : Env} (h : ∀ x ∈ csc.names, x.2 = .free → ∃ c, env.cells.lookup x.1 = some c) : closureFor csc env = pure (cloGo env csc.names []) := by
  simp only [closureFor]
  rw [show (forIn csc.names ([] : List (Str × Addr)) fun (x : Str × NameKind) (cs : List (Str × Addr)) => _) = _ from closure_go h]
  rfl
noncomputable def relabelP (csc sc : Scope) : Scope :=
  { csc with names := csc.names.map fun (n, k) => if (k == .free && sc.kind == .function && sc.names.lookup n == some .cell) then (n, .cell) else (n, k) }
noncomputable def cellQ (sc : Scope) (x : Str) : Bool := sc.names.lookup x == some .cell || sc.names.lookup x == some .free
noncomputable def compQ (sc csc : Scope) : Bool :=
  csc.kind == .function && csc.names.all (fun p => p.2 != .cell && (p.2 != .free || cellQ sc p.1) && (p.2 != .local || csc.names.lookup p.1 == some .local)) &&
  (relabelP csc sc).names.all fun p => if p.2 == .local then csc.names.lookup p.1 == some .local else !(p.2 == .cell || p.2 == .free) || (csc.names.lookup p.1 == some .free && cellQ sc p.1)
noncomputable def outerP (csc : Scope) (ρ : Loc) : Loc := ρ.filter fun p => csc.names.lookup p.1 != some .local
theorem outerP_look {csc : Scope} {x : Str} {r : RV} : ∀ {ρ : Loc}, (outerP csc ρ).lookup x = some r → ρ.lookup x = some r ∧ csc.names.lookup x ≠ some .local
  | (y, q) :: ρ, e => by
    have ih := @outerP_look csc x r ρ
    unfold outerP at e ih
    rw [List.filter_cons] at e
    rw [List.lookup_cons]
    cases hy : x == y with
    | true =>
      obtain rfl := eq_of_beq hy
      split at e
      · rename_i h
        rw [List.lookup_cons, hy] at e
        exact ⟨e, bne_iff_ne.mp h⟩
      · rename_i h
        exact absurd (bne_iff_ne.mpr (ih e).2) h
    | false =>
      split at e
      · rw [List.lookup_cons, hy] at e; exact ih e
      · exact ih e
section
variable {W : Ws} {F : Fr W} {csc : Scope} {ρ : Loc} {σ : Sto} {stk : List Pend} {as : Option Addr} {s : Shared} {cl : List (Str × Addr)} {C : Addr}
theorem compQ_free (hc : compQ F.env.scope csc = true) : ∀ x ∈ csc.names, x.2 = .free → Celly F.env x.1 := fun x hx e => by
  unfold compQ at hc
  simp only [Bool.and_eq_true, List.all_eq_true] at hc
  have := (hc.1.2 x hx).1.2
  rw [e] at this
  exact (Bool.or_eq_true _ _ ▸ this : _ ∨ _).imp eq_of_beq eq_of_beq
theorem compQ_cell (hc : compQ F.env.scope csc = true) {x : Str} (h : Celly (compEnvC csc cl C F.env) x) : csc.names.lookup x = some .free ∧ Celly F.env x := by
  unfold compQ at hc
  simp only [Bool.and_eq_true, List.all_eq_true] at hc
  have key : ∀ {k : NameKind}, k = .cell ∨ k = .free → (relabelP csc F.env.scope).names.lookup x = some k → csc.names.lookup x = some .free ∧ Celly F.env x := fun {k} hk e => by
    have := hc.2 _ (mem_of_look e)
    rcases hk with rfl | rfl <;> exact ⟨eq_of_beq (Bool.and_eq_true_iff.mp this).1, (Bool.or_eq_true_iff.mp (Bool.and_eq_true_iff.mp this).2).imp eq_of_beq eq_of_beq⟩
  exact h.elim (key (.inl rfl)) (key (.inr rfl))
theorem compQ_local (hc : compQ F.env.scope csc = true) {x : Str} (h : (compEnvC csc cl C F.env).kindOf x = some .local) : csc.names.lookup x = some .local := by
  unfold compQ at hc
  simp only [Bool.and_eq_true, List.all_eq_true] at hc
  exact eq_of_beq (hc.2 _ (mem_of_look h))
theorem compQ_clo (hc : compQ F.env.scope csc = true) (I : Inv F ρ σ stk as s) : closureFor csc F.env = pure (cloGo F.env csc.names []) := closure_ok fun x hx e => (I.cex x.1 (compQ_free hc x hx e)).elim fun c y => y.elim fun v z => ⟨c, z.1⟩
theorem compQ_look (hc : compQ F.env.scope csc = true) (I : Inv F ρ σ stk as s) {x : Str} (h : Celly (compEnvC csc cl C F.env) x) : (cloGo F.env csc.names []).lookup x = F.env.cells.lookup x := by
  obtain ⟨h1, h2⟩ := compQ_cell hc h
  obtain ⟨c, v, e, _⟩ := I.cex x h2
  rw [cloGo_look (.inl (mem_of_look h1)), e]; rfl
end
end Mine
namespace Mine
set_option genSizeOf false
set_option genInjectivity false
section
variable (W : Ws) (A : Around)
noncomputable def Inner (elt : Expr) (gens : List Comprehension) (csc : Scope) (pos : Pos) (d : Nat) (D : Addr) (cenv : Env) (K : Shared → Prop) (s : Shared) : Prop :=
  match gens[d]? with
  | some g' => wpAny W.M A (eval g'.iter cenv) (fun x s₅ => wpAny W.M A (pyIter x) (fun it' s₆ =>
      codeAny W.M A (.compStart (.ListComp elt gens csc pos) d it' (.ref D) cenv) (fun r s₇ => r = .ok .next ∧ K s₇) s₆) NoE s₅) NoE s
  | none => wpAny W.M A (eval elt cenv) (fun x s₅ => wpAny W.M A (call (.builtin "list.append") [.ref D, x]) (fun _ s₆ => K s₆) NoE s₅) NoE s
noncomputable def Turn (elt : Expr) (gens : List Comprehension) (csc : Scope) (pos : Pos) (d : Nat) (g : Comprehension) (D : Addr) (cenv : Env) (v : Value) (K : Shared → Prop) (s : Shared) : Prop :=
  wpAny W.M A (assign g.target cenv v) (fun _ s₃ => wpAny W.M A (forIn g.ifs true fun c r => if r = true then do let ok ← isTrue c cenv (eval c cenv); pure (ForInStep.yield ok) else pure (ForInStep.yield r))
    (fun ok s₄ => if ok = true then Inner W A elt gens csc pos (d + 1) D cenv K s₄ else K s₄) NoE s₃) NoE s
end
noncomputable def Plain (gens : List Comprehension) (d : Nat) : Prop := ∀ g, gens[d]? = some g → (∀ env x, foldedSetIterable g.iter env x = pure x) ∧ g.is_async = 0
section
variable {W : Ws} {A : Around} {R : Result → Shared → Prop} {s : Shared} {elt : Expr} {gens : List Comprehension} {g : Comprehension} {csc : Scope} {pos : Pos} {d : Nat} {it acc : Value} {D : Addr} {env : Env}
theorem comp_step (hg : gens[d]? = some g) (hp : Plain gens d) (hp' : Plain gens (d + 1))
    (h : wpAny W.M A (pyNext it) (fun r s₁ => match r with
      | none => R (.ok .next) s₁
      | some v => wpAny W.M A (letOwnedTupleGo g.target it v) (fun _ s₂ => Turn W A elt gens csc pos d g D env v (codeAny W.M A (.compLoop (.ListComp elt gens csc pos) d it (.ref D) env) R) s₂) NoE s₁) NoE s) :
    codeAny W.M A (.compLoop (.ListComp elt gens csc pos) d it (.ref D) env) R s := by
  refine codeAny_of_tree ?_
  rw [Around.under_of_weight (A := A) (c := .compLoop (.ListComp elt gens csc pos) d it (.ref D) env) rfl]
  show wpAny _ A ((compTurn (.ListComp elt gens csc pos) d it (.ref D) env).onRaise (fun x => do noteFrame x env; theTreesLotGoes x)) _ _ s
  refine wpAny_noted ?_
  unfold compTurn
  simp only [hg, (hp g hg).2]
  refine wpAny_bind (wpAny_standAt (wpAny_bind (go h fun r s₁ h₁ => ?_)))
  cases r with
  | none => exact wpAny_pure h₁
  | some v =>
    refine wpAny_bind (go h₁ fun _ s₂ h₂ => wpAny_bind (go h₂ fun _ s₃ h₃ => wpAny_bind (go h₃ fun ok s₄ h₄ => ?_)))
    cases ok with
    | false => exact wpAny_pure ⟨rfl, h₄⟩
    | true =>
      have h₄ : Inner W A elt gens csc pos (d + 1) D env _ s₄ := h₄
      unfold Inner at h₄
      rw [if_pos rfl]
      cases hg' : gens[d + 1]? with
      | none =>
        rw [hg'] at h₄
        dsimp only
        exact wpAny_bind (wpAny_bind (go h₄ fun x s₅ h₅ => wpAny_bind (go h₅ fun _ s₆ h₆ => wpAny_pure (wpAny_pure ⟨rfl, h₆⟩))))
      | some g' =>
        rw [hg'] at h₄
        dsimp only
        rw [(hp' g' hg').2]
        refine wpAny_bind (go h₄ fun x s₅ h₅ => wpAny_bind (wpAny_standAt ?_))
        rw [if_neg (by decide)]
        refine wpAny_bind (wpAny_of_eq ((hp' g' hg').1 env x) (wpAny_bind (wpAny_holding (go h₅ fun it' s₆ h₆ => wpAny_bind (wpAny_runOwn (codeAny_mono h₆ fun r s₇ h₇ => ?_))))))
        obtain ⟨rfl, h₇⟩ := h₇
        exact wpAny_pure ⟨rfl, h₇⟩
theorem compStart_step (hg : gens[d]? = some g) (hp : Plain gens d)
    (h0 : codeAny W.M A (.compLoop (.ListComp elt gens csc pos) d it acc env) R s)
    (h : wpAny W.M A (pyIter it) (fun it' s' => it' = it ∧ s' = s) NoE s) :
    codeAny W.M A (.compStart (.ListComp elt gens csc pos) d it acc env) R s := by
  refine codeAny_of_tree ?_
  rw [Around.under_of_weight (A := A) (c := .compStart (.ListComp elt gens csc pos) d it acc env) rfl]
  show wpAny _ _ ((compStart (.ListComp elt gens csc pos) d it acc env).onRaise (fun x => do noteFrame x env; standAt theWindowsPlace)) _ _ s
  refine wpAny_notedAt ?_
  unfold compStart
  rw [show (clausesOf (.ListComp elt gens csc pos))[d]? = some g from hg]
  simp only [Option.elim, (hp g hg).2]
  rw [if_neg (by decide)]
  refine wpAny_bind (wpAny_askSetting (wpAny_ite ?_))
  split
  · exact wpAny_bind (wpAny_pure (wpAny_pure ⟨rfl, h0⟩))
  · refine wpAny_bind (wpAny_rule (wpAny_bind (wpAny_standAt (wpAny_bind (go h fun it' s' h' => ?_)))))
    obtain ⟨rfl, rfl⟩ := h'
    exact wpAny_pure ⟨rfl, h0⟩
end
end Mine
namespace Mine
set_option genSizeOf false
set_option genInjectivity false
noncomputable def DInv {W : Ws} (G : Fr W) (ρ : Loc) (σ : Sto) (acc : List PV) (D : Addr) (stk : List Pend) (as : Option Addr) (s : Shared) : Prop := G.XK D ∧ (∀ o, ¬ G.Kp D o ∧ ¬ G.KF D o) ∧ ∃ vs n, s.heap.get? D = some (listOb vs n) ∧ Inv G ρ σ (.row vs acc :: stk) as s
noncomputable def Ifs (W : Ws) (sc : Scope) (σ : Sto) (ρ : Loc) (es : List Expr) (b : Bool) : Prop := ∀ {F : Fr W} {stk : List Pend} {as : Option Addr} {s : Shared}, F.env.scope = sc → Inv F ρ σ stk as s →
  wpAny W.M F.A (forIn es true fun c r => if r = true then do let ok ← isTrue c F.env (eval c F.env); pure (ForInStep.yield ok) else pure (ForInStep.yield r)) (fun c s' => c = b ∧ Inv F ρ σ stk as s') NoE s
noncomputable def Gn (W : Ws) (sc : Scope) (σ : Sto) (ρ : Loc) (rest : List Comprehension) (elt : Expr) (a : List PV) : Prop :=
  ∀ {all : List Comprehension} {csc : Scope} {pos : Pos} {d : Nat} {D : Addr} {G : Fr W} {stk : List Pend} {as : Option Addr} {acc : List PV} {K : Shared → Prop} {s : Shared}, G.env.scope = sc → all.drop d = rest → DInv G ρ σ acc D stk as s → acc.length + a.length ≤ 1048576 →
    (∀ s', DInv G ρ σ (acc ++ a) D stk as s' → K s') → Inner W G.A elt all csc pos d D G.env K s
inductive TurnOk (W : Ws) (sc : Scope) (σ : Sto) (ρ : Loc) (g : Comprehension) (rest : List Comprehension) (elt : Expr) (p : PV) : List PV → Prop
  | yes {ρ₁ : Loc} {a : List PV} : Asg W true sc g.target p ρ ρ₁ → Ifs W sc σ ρ₁ g.ifs true → Gn W sc σ ρ₁ rest elt a → (∀ x r, ρ.lookup x = some r → ρ₁.lookup x = some r) → TurnOk W sc σ ρ g rest elt p a
  | no {ρ₁ : Loc} : Asg W true sc g.target p ρ ρ₁ → Ifs W sc σ ρ₁ g.ifs false → (∀ x r, ρ.lookup x = some r → ρ₁.lookup x = some r) → TurnOk W sc σ ρ g rest elt p []
inductive Turns (R : PV → List PV → Prop) : List PV → List PV → Prop
  | nil : Turns R [] []
  | cons {p : PV} {a its b : List PV} : R p a → Turns R its b → Turns R (p :: its) (a ++ b)
section
variable {W : Ws} {sc : Scope} {σ : Sto} {ρ ρ₁ : Loc} {es : List Expr} {b : Bool} {e elt : Expr} {p : PV} {a acc : List PV} {D : Addr} {stk : List Pend} {as : Option Addr} {s : Shared} {G : Fr W}
theorem Ifs.nil : Ifs W sc σ ρ [] true := fun _ I => by rw [List.forIn_nil]; exact wpAny_pure ⟨rfl, I⟩
theorem Ifs.one (h : Tst W sc σ ρ e b) : Ifs W sc σ ρ [e] b := fun hs I => by
  rw [List.forIn_cons, if_pos rfl]
  refine wpAny_bind (wpAny_bind (go (h hs I) fun c' s₁ h₁ => wpAny_pure ?_))
  dsimp only
  rw [List.forIn_nil]
  exact wpAny_pure h₁
theorem DInv.sub (I : DInv G ρ₁ σ acc D stk as s) (h : ∀ x r, ρ.lookup x = some r → ρ₁.lookup x = some r) : DInv G ρ σ acc D stk as s := ⟨I.1, I.2.1, I.2.2.elim fun vs y => ⟨vs, y.elim fun n z => ⟨n, z.1, z.2.sub h⟩⟩⟩
theorem Inv.keepD {vs : List Value} {n : Nat} (I : Inv G ρ σ stk as s) (hX : G.XK D) (e : s.heap.get? D = some (listOb vs n)) : ∃ h : Kps G fun a o => a = D ∧ o = listOb vs n, Inv (G.keep h) ρ σ stk as s :=
  have y := I.seq_ne (a := D) ⟨_, _, _, e, rfl⟩
  ⟨⟨fun o q => y.1 q.1.symm, fun _ x c e1 e2 o q => y.2.1 x c (.inl e1) e2 q.1, fun a o q => q.1 ▸ y.2.2.2⟩, I.keep _ fun a o q => ⟨by rw [q.1, q.2]; exact e, fun z => (I.asX a z).1 (q.1 ▸ hX)⟩⟩
theorem append_ok {v : Value} (h : DInv G ρ σ acc D (.one v (.val p) :: stk) as s) (hz : acc.length + 1 ≤ 1048576) :
    wpAny W.M G.A (call (.builtin "list.append") [.ref D, v]) (fun _ s' => DInv G ρ σ (acc ++ [p]) D stk as s') NoE s := by
  obtain ⟨hX, hK, vs, n, ho, I⟩ := h
  have hl : s.heap.IsList D vs.toArray := ⟨_, ho, rfl, n, rfl⟩
  have hlen : vs.toArray.size ≤ sizeLine := I.stk.1.le (Nat.le_trans (Nat.le_succ _) hz)
  have hlen' : (vs.toArray.push v).size ≤ sizeLine := by rw [Array.size_push, show vs.toArray.size = acc.length from I.stk.1.length]; exact Nat.le_trans hz (by decide)
  refine wpAny_call_entry slot_list_append hl.typeIs entry_list_append ?_ (args_list_append _ _)
  show wpAny _ _ (updateSeq D (·.push v) >>= fun _ => ret .none) _ _ s
  refine wpAny_bind (wpAny_updateSeq ho rfl (wpAny_pure ⟨.none, rfl, hX, hK, vs ++ [v], _, (Heap.get?_update_self _ ho rfl).trans (by simp [listOb, Obj.mapSeq]; rfl), ?_⟩) hlen (Nat.le_succ_of_le hlen'))
  have hs : Heap.SameBut D s.heap (s.heap.update D (Obj.mapSeq (·.push v))) := Heap.SameBut.update ..
  have y := I.seq_ne (a := D) ⟨_, _, _, ho, rfl⟩
  have hd : ¬ G.dat as D := fun q => q.1 hX
  have st : Sk (G.dat as) (G.dat as) s.heap (s.heap.update D (Obj.mapSeq (·.push v))) := fun a o xs m e d q => ⟨hs.extBut a o (fun z => hd (z ▸ q)) e, q⟩
  have ck : ∀ {c w}, s.heap.IsCell c w → Heap.IsCell (s.heap.update D (Obj.mapSeq (·.push v))) c w := fun {c w} q => q.elim fun o z => ⟨o, hs.extBut c o (fun t => by
    obtain rfl := Option.some.inj ((t ▸ z.1).symm.trans ho)
    cases z.2) z.1, z.2⟩
  have nk : ∀ {m}, s.heap.Ns G.env.locals m → Heap.Ns (s.heap.update D (Obj.mapSeq (·.push v))) G.env.locals m := fun y' => y'.elim fun o z => z.elim fun es z => z.elim fun ep z => ⟨o, es, ep, hs.extBut _ o (Ne.symm y.1) z.1, z.2⟩
  refine Inv.stk' (stk := .row vs acc :: .one v (.val p) :: stk) (Inv.chg (P := (· = D)) (X' := G.XK) (tk := s.toks) I (fun _ => .inl) (fun a o q _ e => hs.extBut a o q e) (W.O.tiW (· = D) _ _ (fun a o q e => .inl fun vs d => ?_) (fun a o q e => hs.extBut a o q e) I.glob.2) (fun a q => q ▸ ⟨(I.xk D hd).2, fun o => (hK o).1, fun z => (I.asX D z).1 hX⟩)
    (fun a q _ _ _ _ _ => by obtain rfl := q; exact ⟨hX, fun _ => ⟨_, _, _, Heap.get?_update_self _ ho rfl, rfl⟩⟩) (fun a ha q => (y.2.2.1 (q ▸ ha)).elim) (fun a o q z => ?_) (I.ns.elim fun m z => ⟨m, nk z⟩) (fun sk x r e => ?_) fun x c w _ _ z => ⟨w, ck z⟩) fun k => ⟨k.1.append (.one k.2.1), k.2.2⟩
  · obtain rfl := Option.some.inj ((q ▸ e).symm.trans ho)
    cases d
  · exact ((hK o).2 (q ▸ z)).elim
  · obtain ⟨w, z, rr⟩ := I.names x r e
    exact ⟨w, ⟨fun q => (z.1 q).elim fun m u => ⟨m, nk u.1, u.2⟩, fun q => (z.2 q).elim fun c u => ⟨c, u.1, ck u.2⟩⟩, rr.step sk fun a e => ⟨e, fun o eo => hs.extBut a o (fun t => (I.asX a e).1 (t ▸ hX)) eo⟩⟩
theorem Gn.last (h : Vl W sc σ ρ elt p) : Gn W sc σ ρ [] elt [p] := by
  intro all csc pos d D G stk as acc K s hs hdrop hI hz hK
  have hget : all[d]? = none := by
    have := congrArg (fun l : List Comprehension => l[0]?) hdrop
    simpa using this
  unfold Inner
  rw [hget]
  obtain ⟨hX, hK', vs, n, ho, I⟩ := hI
  obtain ⟨hk, I'⟩ := I.keepD hX ho
  refine go (h (F := G.keep hk) hs I') fun x s₅ J => go (append_ok ⟨hX, hK', vs, n, (J.kept ⟨rfl, rfl⟩).1, J.unkeep.stk' (stk' := .row vs acc :: .one x (.val p) :: stk) fun k => ⟨k.2.1, k.1, k.2.2⟩⟩ hz) fun _ s₆ => hK s₆
end
end Mine
namespace Mine
set_option genSizeOf false
set_option genInjectivity false
structure Wr {W : Ws} (F : Fr W) (as : Option Addr) (a : Addr) : Prop extends Away F as a where
  g : W.B.g.get? a = none
  K : ∀ o, ¬ F.Kp a o ∧ ¬ F.KF a o
section
variable {W : Ws} {F : Fr W} {ρ : Loc} {σ : Sto} {stk : List Pend} {as : Option Addr} {s : Shared} {h' : Heap} {tk i : Nat} {Ia : Addr} {tgt : Expr} {fp wr Z : List Addr} {items : List PV} {us : List Value} {l : List PV} {S : Nat → Heap → Prop} {X' : Addr → Prop} {a : Addr}
theorem Free.toWr (x : Free F as a) : Wr F as a := ⟨x.toAway, x.g, x.K⟩
theorem Look.at {env : Env} {h : Heap} {x : Str} {v : Value} (y : Look env h x v) (kL : ∀ o, h.get? env.locals = some o → h'.get? env.locals = some o) (kC : ∀ x c o, Celly env x → env.cells.lookup x = some c → h.get? c = some o → h'.get? c = some o) : Look env h' x v :=
  ⟨fun q => (y.1 q).elim fun m z => ⟨m, z.1.at kL, z.2⟩, fun q => (y.2 q).elim fun c z => ⟨c, z.1, z.2.elim fun o w => ⟨o, kC x c o q z.1 w.1, w.2⟩⟩⟩
theorem Inv.offs (I : Inv F ρ σ stk as s) {P : Addr → Prop} (hw : ∀ b, P b → Wr F as b) (hc : ∀ a o, P a → s.heap.get? a = some o → (∀ vs, o.data ≠ .fields vs) ∨ ∃ c, o.cls = .type c ∧ c ≠ "code") (hX : ∀ a, X' a → F.XK a)
    (hq : ∀ a, P a → ∀ o xs n, s.heap.get? a = some o → o.data = .seq xs n → F.XK a ∧ (X' a → IsSeq h' a)) (k : ∀ b o, ¬ P b → s.heap.get? b = some o → h'.get? b = some o) : Inv (F.hid X') ρ σ stk as { s with heap := h', toks := tk } :=
  have kL : ∀ o, s.heap.get? F.env.locals = some o → h'.get? F.env.locals = some o := fun o => k _ o fun q => (hw _ q).L rfl
  have kC : ∀ x c o, Celly F.env x → F.env.cells.lookup x = some c → s.heap.get? c = some o → h'.get? c = some o := fun x c o e1 e2 => k c o fun q => (hw _ q).C x c e1 e2 rfl
  I.chg (P := P) (fun a q => .inl (hX a q)) (fun a o q _ e => k a o q e) (W.O.tiW P _ _ hc (fun a o q e => k a o q e) I.glob.2) (fun a q => ⟨(hw a q).g, fun o => ((hw a q).K o).1, (hw a q).as⟩)
    hq (fun a ha q => ((hw a q).fr ha).elim) (fun a o q z => (((hw a q).K o).2 z).elim) (I.ns.elim fun m y => ⟨m, y.at kL⟩)
    (fun sk x r e => (I.names x r e).elim fun v y => ⟨v, y.1.at kL kC, y.2.step sk fun a e => ⟨e, fun o => k a o fun q => (hw a q).as e⟩⟩) fun x c v e1 e2 y => ⟨v, y.elim fun o z => ⟨o, kC x c o e1 e2 z.1, z.2⟩⟩
theorem Inv.wrX (I : Inv F ρ σ stk as s) (IT : Itr W F.A Ia tgt fp wr Z items us l S) (hS : S i s.heap) (hw : ∀ b ∈ wr, Wr F as b) (hZ : ∀ b ∈ Z, F.XK b) (hX : ∀ a, X' a → F.XK a) (hs : ∀ b ∈ wr, X' b → IsSeq h' b)
    (k : ∀ b o, b ∉ wr → s.heap.get? b = some o → h'.get? b = some o) : Inv (F.hid X') ρ σ stk as { s with heap := h', toks := tk } := by
  refine I.offs (P := (· ∈ wr)) hw (fun a o q e => ?_) hX (fun a q o xs n e d => ⟨?_, hs a q⟩) k
  · obtain ⟨o', c, e', ec, hc, _⟩ := IT.cls i _ hS a q
    exact .inr ⟨c, Option.some.inj (e'.symm.trans e) ▸ ec, hc⟩
  · obtain ⟨o', c, e', _, _, _, z⟩ := IT.cls i _ hS a q
    exact hZ a (z xs n (Option.some.inj (e.symm.trans e') ▸ d))
theorem Wr.hid (x : Wr F as a) : Wr (F.hid X') as a := ⟨⟨x.L, x.C, x.fr, x.T, x.as⟩, x.g, x.K⟩
theorem Inv.wrS (I : Inv F ρ σ stk as s) (IT : Itr W F.A Ia tgt fp wr Z items us l S) (hS : S i s.heap) {j : Nat} (hS' : S j h') (hw : ∀ b ∈ wr, Wr F as b) (hZ : ∀ b ∈ Z, F.XK b)
    (k : ∀ b o, b ∉ wr → s.heap.get? b = some o → h'.get? b = some o) : Inv F ρ σ stk as { s with heap := h', toks := tk } := by
  refine I.wrX (X' := F.XK) IT hS hw hZ (fun _ => id) (fun b hb q => Classical.byContradiction fun n => ?_) k
  exact n (Classical.byContradiction fun n => by
    have hz : b ∉ Z := fun z => n (IT.zs j _ hS' b z)
    obtain ⟨o, xs, m, e, d⟩ := (I.xk b fun z => z.1 q).1
    obtain ⟨o', c, e', _, _, _, z⟩ := IT.cls i _ hS b hb
    exact hz (z xs m (Option.some.inj (e.symm.trans e') ▸ d)))
end
end Mine
namespace Mine
set_option genSizeOf false
set_option genInjectivity false
noncomputable def Itm (W : Ws) (sc : Scope) (σ : Sto) (ρ : Loc) (tgt e : Expr) (items : List PV) : Prop := ∀ {F : Fr W} {stk : List Pend} {as : Option Addr} {s : Shared}, F.env.scope = sc → Inv F ρ σ stk as s →
  wpAny W.M F.A (eval e F.env) (fun x s₂ => wpAny W.M F.A (pyIter x) (Ready F tgt items ρ σ stk as) NoE s₂) NoE s
noncomputable def Pg (g : Comprehension) : Prop := (∀ env x, foldedSetIterable g.iter env x = pure x) ∧ g.is_async = 0
section
variable {W : Ws} {sc : Scope} {σ : Sto} {ρ : Loc} {g : Comprehension} {rest all : List Comprehension} {elt t it : Expr} {ifs : List Expr} {csc : Scope} {pos : Pos} {d : Nat} {D Ia : Addr} {G : Fr W} {stk : List Pend} {as : Option Addr} {acc a items its : List PV} {p : PV} {v : Value} {K : Shared → Prop} {s : Shared}
  {fp wr Z : List Addr} {us : List Value} {l : List PV} {S : Nat → Heap → Prop}
theorem drop_get (h : all.drop d = g :: rest) : all[d]? = some g ∧ all.drop (d + 1) = rest := ⟨by rw [← List.head?_drop, h]; rfl, by rw [← List.tail_drop, h]; rfl⟩
theorem plain_of (h : all.drop d = rest) (hp : ∀ g ∈ rest, Pg g) : Plain all d := fun g e => hp g (by rw [← List.head?_drop, h] at e; exact List.mem_of_mem_head? e)
theorem turn_ok (hs : G.env.scope = sc) (hd : all.drop (d + 1) = rest) (h : TurnOk W sc σ ρ g rest elt p a) (hI : DInv G ρ σ acc D (.one v (.val p) :: stk) as s) (hz : acc.length + a.length ≤ 1048576)
    (hK : ∀ s', DInv G ρ σ (acc ++ a) D stk as s' → K s') : Turn W G.A elt all csc pos d g D G.env v K s := by
  obtain ⟨hX, hN, vs, n, ho, I⟩ := hI
  obtain ⟨hk, I⟩ := (I.stk' (stk' := .one v (.val p) :: .row vs acc :: stk) fun k => ⟨k.2.1, k.1, k.2.2⟩).keepD hX ho
  cases h with
  | yes ha hi hg hsub =>
    refine go (ha (F := G.keep hk) hs (fun _ => rfl) I) fun _ s₃ J => go (hi (F := G.keep hk) hs J) fun c s₄ h₄ => ?_
    obtain ⟨rfl, J⟩ := h₄
    exact hg hs hd ⟨hX, hN, vs, n, (J.kept ⟨rfl, rfl⟩).1, J.unkeep⟩ hz fun s' x => hK s' (x.sub hsub)
  | no ha hi hsub =>
    refine go (ha (F := G.keep hk) hs (fun _ => rfl) I) fun _ s₃ J => go (hi (F := G.keep hk) hs J) fun c s₄ h₄ => ?_
    obtain ⟨rfl, J⟩ := h₄
    exact hK s₄ (by rw [List.append_nil]; exact DInv.sub ⟨hX, hN, vs, n, (J.kept ⟨rfl, rfl⟩).1, J.unkeep⟩ hsub)
theorem Inv.keepFp (I : Inv G ρ σ stk as s) (hf : ∀ b ∈ fp, Away G as b) : ∃ h : Kps G fun a o => a ∈ fp ∧ s.heap.get? a = some o, Inv (G.keep h) ρ σ stk as s :=
  ⟨⟨fun o q => (hf _ q.1).L rfl, fun _ x c e1 e2 o q => (hf _ q.1).C x c (.inl e1) e2 rfl, fun a o q => (hf a q.1).T⟩, I.keep _ fun a o q => ⟨q.2, (hf a q.1).as⟩⟩
theorem comp_loop (hs : G.env.scope = sc) (hd : all.drop d = g :: rest) (hp : ∀ g' ∈ g :: rest, Pg g') (IT : Itr W G.A Ia g.target fp wr Z items us l S) (hw : ∀ b ∈ wr, Wr G as b) (hf : ∀ b ∈ fp, Away G as b) (hZ : ∀ b ∈ Z, G.XK b) (hD : D ∉ fp) {tot : List PV} (hz : tot.length ≤ 1048576)
    (hK : ∀ s' h' tk, DInv G ρ σ tot D (.row us l :: stk) as s' → S items.length s'.heap → (∀ b o, b ∉ wr → s'.heap.get? b = some o → h'.get? b = some o) → K { s' with heap := h', toks := tk })
    (h : Turns (TurnOk W sc σ ρ g rest elt) its a) : ∀ {i : Nat} {acc : List PV} {s : Shared}, items.drop i = its → i ≤ items.length → S i s.heap → DInv G ρ σ acc D (.row us l :: stk) as s → acc ++ a = tot →
      codeAny W.M G.A (.compLoop (.ListComp elt all csc pos) d (.ref Ia) (.ref D) G.env) (fun r s' => r = .ok .next ∧ K s') s := by
  have hp1 := plain_of hd hp
  have hp2 := plain_of (drop_get hd).2 fun g' q => hp g' (List.mem_cons_of_mem _ q)
  induction h with
  | nil =>
    intro i acc s hi hle hS I e
    obtain rfl := Nat.le_antisymm hle (List.drop_eq_nil_iff.mp hi)
    rw [List.append_nil] at e
    subst e
    refine comp_step (drop_get hd).1 hp1 hp2 (go (IT.done s (fun s' => K s') hS fun h' tk k => hK s h' tk I hS k) fun r s₁ h => ?_)
    obtain ⟨rfl, h⟩ := h
    exact ⟨rfl, h⟩
  | @cons p b its c ht _ ih =>
    intro i acc s hi hle hS I e
    have hip : items[i]? = some p := by rw [← List.head?_drop, hi]; rfl
    obtain ⟨hX, hN, vs, n, ho, J⟩ := I
    refine comp_step (drop_get hd).1 hp1 hp2 (go (IT.step i p s (G.dat as) (fun v s₂ => Turn W G.A elt all csc pos d g D G.env v (codeAny W.M G.A (.compLoop (.ListComp elt all csc pos) d (.ref Ia) (.ref D) G.env) (fun r s' => r = .ok .next ∧ K s')) s₂)
      hip hS J.stk.2.1 (fun a => J.fresh) (fun b hb q => q.1 (hZ b hb)) fun v h' tk hv hS' k => ?_) fun r s₁ h => ?_)
    · have J' := J.wrS IT hS hS' hw hZ k (tk := tk)
      obtain ⟨hf', J'⟩ := J'.keepFp hf
      refine turn_ok (G := G.keep hf') hs (drop_get hd).2 ht ⟨hX, fun o => ⟨fun q => q.elim (hN o).1 fun q => hD q.1, (hN o).2⟩, vs, n, k D _ (fun q => hD (IT.sub D q)) ho, J'.stk' fun x => ⟨x.1, hv, x.2⟩⟩ ?_ fun s' x => ?_
      · refine Nat.le_trans ?_ hz
        rw [← e, List.length_append, List.length_append, ← Nat.add_assoc]
        exact Nat.le_add_right _ _
      · obtain ⟨_, _, vs', n', ho', x⟩ := x
        exact ih (by rw [← List.tail_drop, hi]; rfl) (List.getElem?_eq_some_iff.mp hip).1 (IT.frame _ _ _ hS' fun b hb o q => (x.kept ⟨hb, q⟩).1) ⟨hX, hN, vs', n', ho', x.unkeep⟩ (by rw [List.append_assoc]; exact e)
    · obtain ⟨v, rfl, h⟩ := h
      exact h
theorem Gn.more (hp : ∀ g' ∈ (⟨t, it, ifs, 0⟩ : Comprehension) :: rest, Pg g') (h1 : Itm W sc σ ρ t it items) (h2 : Turns (TurnOk W sc σ ρ ⟨t, it, ifs, 0⟩ rest elt) items a) : Gn W sc σ ρ (⟨t, it, ifs, 0⟩ :: rest) elt a := by
  intro all csc pos d D G stk as acc K s hs hd hI hz hK
  unfold Inner
  rw [(drop_get hd).1]
  obtain ⟨hX, hN, vs, n, ho, I⟩ := hI
  obtain ⟨hk, I⟩ := I.keepD hX ho
  refine go (h1 (F := G.keep hk) hs I) fun x s₅ h₅ => go h₅ fun it' s₆ h₆ => ?_
  cases h₆ with
  | @mk Ia fp wr Z us l S _ J IT hS hw hf =>
    have hk' : s₆.heap.get? D = some (listOb vs n) := J.kp D _ (.inr ⟨rfl, rfl⟩)
    have J : Inv (G.hid fun a => G.XK a ∨ a ∈ Z) ρ σ (.row us l :: .row vs acc :: stk) as s₆ := (Inv.unkeep (F := G.hid fun a => G.XK a ∨ a ∈ Z) (h := ⟨hk.L, hk.C, hk.T⟩) J)
    have hD : D ∉ fp := fun q => (hf D q).2 hX
    have hw' : ∀ b ∈ wr, Wr (G.hid fun a => G.XK a ∨ a ∈ Z) as b := fun b hb => have y := hw b hb; ⟨⟨y.L, y.C, y.fr, y.T, y.as⟩, y.g, fun o => ⟨fun q => (y.K o).1 (.inl q), (y.K o).2⟩⟩
    refine compStart_step (drop_get hd).1 (plain_of hd hp) (comp_loop (G := G.hid fun a => G.XK a ∨ a ∈ Z) hs hd hp IT hw' (fun b hb => have y := (hf b hb).1; ⟨y.L, y.C, y.fr, y.T, y.as⟩) (fun b => .inr) hD (List.length_append ▸ hz) (fun s' h' tk x hS' k => hK _ ?_) h2 (i := 0) rfl (Nat.zero_le _) hS
      ⟨.inl hX, hN, vs, n, hk', J.stk' fun x => ⟨x.2.1, x.1, x.2.2⟩⟩ rfl) (IT.self 0 s₆ _ hS ⟨rfl, rfl⟩)
    obtain ⟨_, _, vs', n', ho', x⟩ := x
    exact ⟨hX, hN, vs', n', k D _ (fun q => hD (IT.sub D q)) ho', ((Inv.wrX (F := G.hid fun a => G.XK a ∨ a ∈ Z) x IT hS' hw' (fun b => .inr) (X' := G.XK) (fun a => .inl) (fun b hb q => ((hw b hb).X q).elim) k)).stk' fun x => ⟨x.1, x.2.2⟩⟩
end
end Mine
namespace Mine
set_option genSizeOf false
set_option genInjectivity false
theorem Ns.slots {h h' : Heap} {L : Addr} {m : Str → Option Value} (x : h.Ns L m) (k : ∀ o, h.get? L = some o → ∃ sl, h'.get? L = some { o with slots := sl }) : h'.Ns L m := by
  obtain ⟨o, es, ep, e, y⟩ := x
  obtain ⟨sl, e'⟩ := k o e
  exact ⟨_, es, ep, e', y⟩
section
variable {W : Ws} {F : Fr W} {csc : Scope} {ρ ρ' : Loc} {σ : Sto} {stk : List Pend} {as : Option Addr} {s s' : Shared} {C D : Addr} {h : Heap}
theorem Inv.LT (I : Inv F ρ σ stk as s) : ¬ W.B.T F.env.locals := I.ns.elim fun m y => (Ns.dict y).elim fun o z => z.elim fun es z => z.elim fun n z => I.glob.noT W.O z.1 fun vs q => by rw [z.2] at q; cases q
noncomputable def Fr.comp (F : Fr W) (I : Inv F ρ σ stk as s) (x : Wr F as C) (csc : Scope) (hc : compQ F.env.scope csc = true) : Fr W := { F with
  env := compEnvC csc (cloGo F.env csc.names []) C F.env
  ro := true
  Kp := fun a o => F.Kp a o ∨ (a = F.env.locals ∨ ∃ x, Celly F.env x ∧ F.env.cells.lookup x = some a) ∧ s.heap.get? a = some o
  kind := by
    unfold compQ at hc
    simp only [Bool.and_eq_true] at hc
    exact eq_of_beq hc.1.1
  newL := x.g
  cndup := fun y z c e1 e2 h1 h2 => F.cndup y z c ((compQ_look hc I h1).symm.trans e1) ((compQ_look hc I h2).symm.trans e2) (compQ_cell hc h1).2 (compQ_cell hc h2).2
  kpL := fun o => ⟨fun q => q.elim (x.K o).1 fun q => q.1.elim x.L fun q => q.elim fun y q => x.C y C q.1 q.2 rfl, (x.K o).2⟩
  kpC := fun e => Bool.noConfusion e
  kpF := fun a o q => q.elim (F.kpF a o) fun q => q.1.elim (fun q => q ▸ I.LT) fun q => q.elim fun y q => by
    obtain ⟨c, v, e, hc, _⟩ := I.cex y q.1
    exact Option.some.inj (q.2.symm.trans e) ▸ cellT W.O I.glob hc }
theorem Inv.enterC (I : Inv F ρ σ stk as s) (x : Wr F as C) (hc : compQ F.env.scope csc = true) {m : Str → Option Value} (hn : s.heap.Ns C m) : Inv (F.comp I x csc hc) (outerP csc ρ) σ stk as s :=
  { I with
    kp := fun a o q => q.elim (I.kp a o) fun q => q.2
    ns := ⟨m, hn⟩
    names := fun y r e => (I.names y r (outerP_look e).1).elim fun v z => ⟨v, ⟨fun q => absurd (compQ_local hc q) (outerP_look e).2, fun q => (z.1.2 (compQ_cell hc q).2).elim fun c w => ⟨c, (compQ_look hc I q).trans w.1, w.2⟩⟩, z.2⟩
    cex := fun y q => (I.cex y (compQ_cell hc q).2).elim fun c z => z.elim fun v z => ⟨c, v, (compQ_look hc I q).trans z.1, z.2⟩
    asX := fun a e => ⟨(I.asX a e).1, fun o q => q.elim ((I.asX a e).2 o) fun q => have z := I.seq_ne (I.xk a fun z => z.2 e).1; q.1.elim z.1 fun q => q.elim fun y q => z.2.1 y a q.1 q.2 rfl⟩ }
theorem Inv.leaveC {I : Inv F ρ σ stk as s} {x : Wr F as C} {hc : compQ F.env.scope csc = true} {stk' : List Pend} (J : Inv (F.comp I x csc hc) ρ' σ stk' as s') (nm : ∀ y r, ρ.lookup y = some r → ∃ v, Look F.env s.heap y v ∧ RRel as (F.dat as) s'.heap v r) : Inv F ρ σ stk' as s' :=
  have kL := fun o e => J.kp F.env.locals o (.inr ⟨.inl rfl, e⟩)
  have kC := fun y c o (q : Celly F.env y) (e : F.env.cells.lookup y = some c) w => J.kp c o (.inr ⟨.inr ⟨y, q, e⟩, w⟩)
  { J with
    kp := fun a o q => J.kp a o (.inl q)
    ns := I.ns.elim fun m y => ⟨m, y.at kL⟩
    names := fun y r e => (nm y r e).elim fun v z => ⟨v, z.1.at kL kC, z.2⟩
    cex := fun y q => (I.cex y q).elim fun c z => z.elim fun v z => ⟨c, v, z.1, z.2.1.elim fun o w => ⟨o, kC y c o q z.1 w.1, w.2⟩, z.2.2⟩
    asX := fun a e => ⟨(J.asX a e).1, fun o q => (J.asX a e).2 o (.inl q)⟩ }
theorem Stk.app {ok : Addr → Prop} {P st : List Pend} : Stk as ok h (P ++ st) ↔ Stk as ok h P ∧ Stk as ok h st := by
  induction P with
  | nil => exact ⟨fun k => ⟨⟨⟩, k⟩, fun k => k.2⟩
  | cons e t ih => cases e <;> exact (and_congr_right fun _ => ih).trans and_assoc.symm
theorem Inv.park (I : Inv F ρ σ stk as s) : ∃ P, Stk as (F.dat as) s.heap P ∧ ∀ y r, ρ.lookup y = some r → ∃ v, Look F.env s.heap y v ∧ ∀ {as ok h}, Stk as ok h P → RRel as ok h v r := by
  suffices h : ∀ ks : List Str, ∃ P, Stk as (F.dat as) s.heap P ∧ ∀ y ∈ ks, ∀ r, ρ.lookup y = some r → ∃ v, Look F.env s.heap y v ∧ ∀ {as ok h}, Stk as ok h P → RRel as ok h v r from
    (h (ρ.map (·.1))).elim fun P z => ⟨P, z.1, fun y r e => z.2 y (List.mem_map_of_mem (f := (·.1)) (mem_of_look e)) r e⟩
  intro ks
  induction ks with
  | nil => exact ⟨[], ⟨⟩, fun _ q => nomatch q⟩
  | cons x ks ih =>
    obtain ⟨P, h1, h2⟩ := ih
    cases e : ρ.lookup x with
    | none => exact ⟨P, h1, fun y q r e' => (List.mem_cons.mp q).elim (fun q => by rw [q, e] at e'; cases e') fun q => h2 y q r e'⟩
    | some r =>
      obtain ⟨v, z, rr⟩ := I.names x r e
      refine ⟨.one v r :: P, ⟨rr, h1⟩, fun y q r' e' => (List.mem_cons.mp q).elim (fun q => ?_) fun q => (h2 y q r' e').elim fun u w => ⟨u, w.1, fun k => w.2 k.2⟩⟩
      subst q
      exact ⟨v, z, fun k => Option.some.inj (e.symm.trans e') ▸ k.1⟩
end
end Mine
namespace Mine
set_option genSizeOf false
set_option genInjectivity false
section
variable {W : Ws} {F : Fr W} {sc csc : Scope} {ρ : Loc} {σ : Sto} {stk : List Pend} {as : Option Addr} {s : Shared} {a D C : Addr} {t it elt : Expr} {ifs : List Expr} {rest : List Comprehension} {items l : List PV} {pos : Pos}
theorem Wr.comp {I : Inv F ρ σ stk as s} {y : Wr F as C} {hc : compQ F.env.scope csc = true} (x : Wr F as a) (hC : a ≠ C) : Wr (F.comp I y csc hc) as a :=
  ⟨⟨hC, fun z c q e => x.C z c (compQ_cell hc q).2 ((compQ_look hc I q).symm.trans e), x.fr, x.T, x.as⟩, x.g, fun o => ⟨fun q => q.elim (x.K o).1 fun q => q.1.elim x.L fun q => q.elim fun z q => x.C z a q.1 q.2 rfl, (x.K o).2⟩⟩
theorem Away.comp {I : Inv F ρ σ stk as s} {y : Wr F as C} {hc : compQ F.env.scope csc = true} (x : Away F as a) (hC : a ≠ C) : Away (F.comp I y csc hc) as a :=
  ⟨hC, fun z c q e => x.C z c (compQ_cell hc q).2 ((compQ_look hc I q).symm.trans e), x.fr, x.T, x.as⟩
theorem compQ_names (hc : compQ sc csc = true) : csc.kind = .function ∧ (∀ x ∈ csc.names, x.2 ≠ .cell) ∧ ∀ x ∈ csc.names, x.2 = .local → csc.names.lookup x.1 = some .local := by
  unfold compQ at hc
  simp only [Bool.and_eq_true, List.all_eq_true] at hc
  exact ⟨eq_of_beq hc.1.1, fun x hx => bne_iff_ne.mp (hc.1.2 x hx).1.1, fun x hx e => by
    have := (hc.1.2 x hx).2
    rw [e] at this
    exact eq_of_beq this⟩
theorem Inv.shut (I : Inv F ρ σ stk as s) (x : Wr F as C) {m : Str → Option Value} (hm : s.heap.Ns C m) {h' : Heap} (hs : Heap.SameBut C s.heap h') : Inv F ρ σ stk as { s with heap := h' } := by
  have nd : ∀ {o}, s.heap.get? C = some o → ∃ es n, o.data = .dict es n := fun e => (Ns.dict hm).elim fun o' u => u.elim fun es u => u.elim fun n u => ⟨es, n, Option.some.inj (u.1.symm.trans e) ▸ u.2⟩
  refine Inv.offs (F := F) (tk := s.toks) (h' := h') (X' := F.XK) (P := (· = C)) I (fun b q => q ▸ x) (fun a o q e => .inl fun vs d => ?_) (fun _ => id) (fun a q o xs n e d => ?_) fun b o q => hs.extBut b o q
  · obtain ⟨es, n, d'⟩ := nd (q ▸ e)
    rw [d] at d'; cases d'
  · obtain ⟨es, n, d'⟩ := nd (q ▸ e)
    rw [d] at d'; cases d'
theorem comp_core (hc : compQ sc csc = true) (hp : ∀ g' ∈ (⟨t, it, ifs, 0⟩ : Comprehension) :: rest, Pg g') (h1 : Itm W sc σ ρ t it items) (h2 : Turns (TurnOk W (relabelP csc sc) σ (outerP csc ρ) ⟨t, it, ifs, 0⟩ rest elt) items l) (hz : l.length ≤ 1048576) {use : Option (Value → Sem Unit)} {Q : Value → Shared → Prop}
    {F : Fr W} {stk : List Pend} {as : Option Addr} {s : Shared} (hs : F.env.scope = sc) (I : Inv F ρ σ stk as s) (hK : ∀ v C m s', s'.heap.Ns C m → Wr F as C → Inv F ρ σ (.one v (.val (.lst l)) :: stk) as s' → compPost W.M F.A NoE use Q v C (.ok .next) s') :
    wpAny W.M F.A (comprehension (.ListComp elt (⟨t, it, ifs, 0⟩ :: rest) csc pos) csc F.env (firstIterPos (⟨t, it, ifs, 0⟩ :: rest) pos) (newList []) false (eval it F.env) use) Q NoE s := by
  subst hs
  obtain ⟨n1, n2, n3⟩ := compQ_names hc
  refine wpAny_comprehension_free rfl (fun x => (hp _ List.mem_cons_self).1 F.env x) (compQ_clo hc I) n1 n3 (go (h1 rfl I) fun x s₁ h₁ => go h₁ fun it' s₂ h₂ => ?_)
  cases h₂ with
  | @mk Ia fp wr Z us l' S _ J IT hS hw hf =>
    refine wpAny_newObj_type (wpAny_newFunctionEnv n2 (fun _ q => nomatch q) (fun h₁ hns hsb => ?_) n1)
    have k : ∀ a o, s₂.heap.get? a = some o → h₁.get? a = some o := fun a o e => hsb.extBut a o (Nat.ne_of_lt (Nat.lt_of_lt_of_eq (Nat.lt_succ_of_lt (Heap.lt_size e)) (Heap.size_push ..).symm)) (Heap.get?_push_of_some _ (Heap.get?_push_of_some _ e))
    have lD : s₂.heap.objs.size ≠ (s₂.heap.push { cls := .type "list", data := .seq ([] : List Value).toArray }).objs.size := Nat.ne_of_lt (Nat.lt_of_lt_of_eq (Nat.lt_succ_self _) (Heap.size_push ..).symm)
    have hDo : h₁.get? s₂.heap.objs.size = some (listOb [] 0) := hsb.extBut _ _ lD (Heap.get?_push_of_some _ (Heap.get?_push_size _ rfl))
    have hfD := J.free (get_new (Nat.le_refl s₂.heap.objs.size))
    have hC0 := get_new (h := s₂.heap) (b := (s₂.heap.push { cls := .type "list", data := .seq ([] : List Value).toArray }).objs.size) (Nat.le_of_lt (Nat.lt_of_lt_of_eq (Nat.lt_succ_self _) (Heap.size_push ..).symm))
    have hfC := J.free hC0
    generalize (s₂.heap.push { cls := .type "list", data := .seq ([] : List Value).toArray }).objs.size = C at *
    generalize hD : s₂.heap.objs.size = D at *
    have K₁ := J.growX (X' := fun a => (F.XK a ∨ a ∈ Z) ∨ a = D) (fun a q => q.elim .inl fun q => .inr ⟨q ▸ get_new (Nat.le_of_eq hD), q ▸ ⟨_, _, _, hDo, rfl⟩⟩) (grow_all (tk := s₂.toks) k)
    have K₀ : Inv F ρ σ stk as _ := (Inv.unhid (F := F) K₁ fun a q => .inl (.inl q)).stk' fun k => k.2
    obtain ⟨P, hP, hN⟩ := K₁.park
    have K₃ := K₁.stk' (stk' := .row us l' :: (P ++ stk)) fun k => ⟨k.1, Stk.app.mpr ⟨hP, k.2⟩⟩
    have fC : Wr F as C := ⟨⟨hfC.L, hfC.C, hfC.fr, hfC.T, hfC.as⟩, hfC.g, hfC.K⟩
    have hne : ∀ b ∈ fp, ∃ o, s₂.heap.get? b = some o := IT.ex 0 _ hS
    have nC : ∀ b ∈ fp, b ≠ C := fun b hb q => (hne b hb).elim fun o e => by rw [q, hC0] at e; cases e
    have nD : D ∉ fp := fun q => (hne D q).elim fun o e => by rw [get_new (Nat.le_of_eq hD)] at e; cases e
    have wD : Wr ((F.hid fun a => (F.XK a ∨ a ∈ Z) ∨ a = D).comp K₃ fC.hid csc hc) as D := Wr.comp (Wr.hid (F := F) ⟨⟨hfD.L, hfD.C, hfD.fr, hfD.T, hfD.as⟩, hfD.g, hfD.K⟩) lD
    have hw' : ∀ b ∈ wr, Wr ((F.hid fun a => (F.XK a ∨ a ∈ Z) ∨ a = D).comp K₃ fC.hid csc hc) as b := fun b hb => Wr.comp (hw b hb).toWr.hid (nC b (IT.sub b hb))
    refine codeAny_mono (compStart_step (R := fun r s' => r = .ok .next ∧ ∃ m, s'.heap.Ns C m ∧ Inv F ρ σ (.one (.ref D) (.val (.lst l)) :: stk) as s') rfl (plain_of (d := 0) rfl hp) (comp_loop (K := fun s' => ∃ m, s'.heap.Ns C m ∧ Inv F ρ σ (.one (.ref D) (.val (.lst l)) :: stk) as s') (G := (F.hid fun a => (F.XK a ∨ a ∈ Z) ∨ a = D).comp K₃ fC.hid csc hc) rfl rfl hp IT hw'
      (fun b hb => have y := (hf b hb).1; Away.comp ⟨y.L, y.C, y.fr, y.T, y.as⟩ (nC b hb)) (fun b hb => .inl (.inr hb)) nD (tot := l) hz (fun s' h' tk x hS' k' => ?_) h2 (i := 0) rfl (Nat.zero_le _) (IT.frame _ _ _ hS fun b _ => k b) ⟨.inr rfl, wD.K, [], 0, hDo, (K₃.enterC fC.hid hc hns).stk' fun k => ⟨.nil, k⟩⟩ rfl) (IT.self 0 _ _ (IT.frame _ _ _ hS fun b _ => k b) ⟨rfl, rfl⟩)) fun r s' q => ?_
    · obtain ⟨_, _, vs', n', ho', x⟩ := x
      have y := Inv.wrX x IT hS' hw' (fun b hb => .inl (.inr hb)) (X' := F.XK) (fun a q => .inl (.inl q)) (fun b hb q => ((hw b hb).X q).elim) k' (tk := tk)
      have z := Inv.leaveC (F := F) (I := K₀) (x := fC) (hc := hc) y fun y' r e => (hN y' r e).elim fun v z => ⟨v, z.1, z.2 (Stk.app.mp y.stk.2.2).1⟩
      exact y.ns.elim fun m hm => ⟨m, hm, z.stk' fun k => ⟨.lst ⟨fun q => hfD.X (.inl q), hfD.as⟩ ⟨_, k' D _ (fun q => nD (IT.sub D q)) ho', rfl, n', rfl⟩ k.1, (Stk.app.mp k.2.2).2⟩⟩
    · obtain ⟨rfl, m, hm, q⟩ := q
      exact hK _ _ m s' hm fC q
theorem Ev.comp (hc : compQ sc csc = true) (hp : ∀ g' ∈ (⟨t, it, ifs, 0⟩ : Comprehension) :: rest, Pg g') (h1 : Itm W sc σ ρ t it items) (h2 : Turns (TurnOk W (relabelP csc sc) σ (outerP csc ρ) ⟨t, it, ifs, 0⟩ rest elt) items l) (hz : l.length ≤ 1048576) :
    Vl W sc σ ρ (.ListComp elt (⟨t, it, ifs, 0⟩ :: rest) csc pos) (.lst l) := fun hs I => by
  rw [eval_ListComp]
  exact comp_core hc hp h1 h2 hz hs I fun v C m s' hm x J => ⟨m, hm, fun h' hs => J.shut x hm hs⟩
end
end Mine
namespace Mine
set_option genSizeOf false
set_option genInjectivity false
noncomputable def isCl : Code → Bool
  | .builtin "claim.caller" _ => true
  | _ => false
noncomputable def wpX (c : Bool) {α : Type} (M : Model) (A : Around) (t : Sem α) (Q : α → Shared → Prop) (E : Value → Shared → Prop) (s : Shared) : Prop :=
  ∀ Γ p, Γ.In A → (c = true → (Γ.code :: Γ.below.map (·.1)).any isCl = true) → Sem.wp M Γ t (fun a _ s' => Q a s') (fun e _ s' => E e s') p s
noncomputable def codeX (c : Bool) (M : Model) (A : Around) (k : Code) (R : Result → Shared → Prop) (s : Shared) : Prop :=
  ∀ Γ p, Γ.code = k → Γ.Below A → (c = true → (Γ.below.map (·.1)).any isCl = true) → wpCode M Γ R p s
section
variable {c : Bool} {α β : Type} {M : Model} {A : Around} {E : Value → Shared → Prop} {s : Shared} {env : Env}
theorem wpX.of {t : Sem α} {Q : α → Shared → Prop} (h : wpAny M A t Q E s) : wpX c M A t Q E s := fun Γ p hΓ _ => h Γ p hΓ
theorem codeX.of {k : Code} {R : Result → Shared → Prop} (h : codeAny M A k R s) : codeX c M A k R s := fun Γ p hc hΓ _ => h Γ p hc hΓ
theorem wpX.any {t : Sem α} {Q : α → Shared → Prop} (h : wpX false M A t Q E s) : wpAny M A t Q E s := fun Γ p hΓ => h Γ p hΓ nofun
theorem codeX.any {k : Code} {R : Result → Shared → Prop} (h : codeX false M A k R s) : codeAny M A k R s := fun Γ p hc hΓ => h Γ p hc hΓ nofun
theorem wpX_pure {a : α} {Q : α → Shared → Prop} (h : Q a s) : wpX c M A (pure a) Q E s := .of (wpAny_pure h)
theorem wpX_mono {t : Sem α} {Q Q' : α → Shared → Prop} {E' : Value → Shared → Prop} (h : wpX c M A t Q E s) (hQ : ∀ a s, Q a s → Q' a s) (hE : ∀ e s, E e s → E' e s) : wpX c M A t Q' E' s :=
  fun Γ p hΓ hC => Sem.wp_mono M Γ t (fun a _ s => hQ a s) (fun e _ s => hE e s) p s (h Γ p hΓ hC)
theorem goX {t : Sem α} {Q Q' : α → Shared → Prop} (h : wpX c M A t Q NoE s) (hQ : ∀ a s, Q a s → Q' a s) : wpX c M A t Q' E s := wpX_mono h hQ fun _ _ q => q.elim
theorem wpX_bind {m : Sem α} {f : α → Sem β} {Q : β → Shared → Prop} (h : wpX c M A m (fun a s' => wpX c M A (f a) Q E s') E s) : wpX c M A (m >>= f) Q E s := fun Γ p hΓ hC => by
  rw [Sem.wp_bind']
  exact Sem.wp_mono M Γ m (fun a p' s' h' => h' Γ p' hΓ hC) (fun _ _ _ h' => h') p s (h Γ p hΓ hC)
theorem wpX_then {m : Sem α} {f : α → Sem β} {Q : β → Shared → Prop} (h : wpAny M A m (fun a s' => wpX c M A (f a) Q E s') E s) : wpX c M A (m >>= f) Q E s := wpX_bind (.of h)
theorem wpX_onRaise {m : Sem α} {k : Value → Sem Unit} {Q : α → Shared → Prop} (h : wpX c M A m Q (fun e s' => wpX c M A (k e) (fun _ s'' => E e s'') E s') s) : wpX c M A (m.onRaise k) Q E s := fun Γ p hΓ hC => by
  rw [Sem.wp_onRaise]
  exact Sem.wp_mono M Γ m (fun _ _ _ h' => h') (fun e p' s' h' => h' Γ p' hΓ hC) p s (h Γ p hΓ hC)
theorem wpX_attempt {m : Sem α} {Q : Except Value α → Shared → Prop} (h : wpX c M A m (fun a => Q (.ok a)) (fun e => Q (.error e)) s) : wpX c M A m.attempt Q E s := fun Γ p hΓ hC => by rw [Sem.wp_attempt]; exact h Γ p hΓ hC
theorem wpX_keep {vs : List Value} {m : Sem α} {Q : α → Shared → Prop} (h : wpX c M A m Q E s) : wpX c M A (m.keep vs) Q E s := fun Γ p hΓ hC => by rw [Sem.wp_keep]; exact h Γ p hΓ hC
theorem wpX_stand {f : Unit → Sem β} {pos : Pos} {Q : β → Shared → Prop} (h : wpX c M A (f ()) Q E s) : wpX c M A (standAt pos >>= f) Q E s := wpX_then (wpAny_standAt h)
theorem codeX_mono {k : Code} {R R' : Result → Shared → Prop} (h : codeX c M A k R s) (hR : ∀ r s, R r s → R' r s) : codeX c M A k R' s := fun Γ p hc hΓ hC => wpCode_mono hR (h Γ p hc hΓ hC)
theorem wpX_run {k : Code} {h : Option Value} {Q : Flow → Shared → Prop} (hc : codeX c M (A.mark h) k (fun r s' => match r with | .ok f => Q f s' | .error e => E e s') s) (hnb : h ≠ some byPass := by intro x; cases x) : wpX c M A (run k h) Q E s :=
  fun Γ p hΓ hC => by rw [Sem.wp_run]; exact hc _ p rfl (hΓ.enter k h p hnb) hC
theorem wpX_call {f : Value} {pos : List Value} {kw : List (Str × Value)} {Q : Value → Shared → Prop} (hc : codeX c M A (.call f ⟨pos, kw⟩) (fun r s' => match r with | .ok (.ret v) => Q v s' | .ok _ => False | .error e => E e s') s) : wpX c M A (call f pos kw) Q E s :=
  fun Γ p hΓ hC => by
    show Sem.wp M Γ (runValue _) _ _ p s
    rw [Sem.wp_runValue]; exact hc _ p rfl (hΓ.enter _ none p nofun) hC
theorem codeX_of_tree {k : Code} {R : Result → Shared → Prop}
    (h : wpX c M (A.under k) (M.den k) (fun fin s' => match fin with | .done f => R (.ok f) s' | .again k' => k'.quiet = true ∧ codeX c M A k' R s') (fun e s' => R (.error e) s') s) : codeX c M A k R s := fun Γ p hc hΓ hC => by
  rw [wpCode_iff_wp, hc]
  refine Sem.wp_mono M Γ _ (fun fin p' s' h' => ?_) (fun _ _ _ h' => h') p s (h Γ p (hc ▸ hΓ.in) fun e => by rw [List.any_cons, hC e, Bool.or_true])
  cases fin with
  | done f => exact h'
  | again c' => exact ⟨h'.1, h'.2 (Γ.goto c') p' rfl (hΓ.goto c') hC⟩
theorem wpX_refusal {own : List String} {e : Value} {Q : Unit → Shared → Prop} (h : Q () s) : wpX true M A (markTheRefusal own e) Q E s := by
  unfold markTheRefusal
  refine wpX_bind fun Γ p _ hC => ?_
  show wpX true M A (if pythonCodeMadeTheCall own (List.map (·.1) ((Γ.code, p) :: Γ.below)) = true then _ else _) Q E s
  have e : pythonCodeMadeTheCall own (List.map (·.1) ((Γ.code, p) :: Γ.below)) = false := by
    show ((!(List.any (List.map (·.1) ((Γ.code, p) :: Γ.below)) isCl)) && _ && _) = false
    rw [show List.any (List.map (·.1) ((Γ.code, p) :: Γ.below)) isCl = true from hC rfl]
    rfl
  rw [e, if_neg Bool.false_ne_true]
  exact wpX_pure h
theorem callWith_X {pos : Pos} {a : Addr} {o : Obj} {fd : FuncData} {args : List (Bool × Sem Value)} {Q : Value → Shared → Prop} (hp : args.any (·.1) = false)
    (h : wpAny M A (evalArgs (.ref a) true args []) (fun x s₁ => (s₁.heap.get? a = some o ∧ o.data = .func fd) ∧ wpX c M A (call (.ref a) x.pos x.kw) Q E s₁) E s) : wpX c M A (callWith pos (.ref a) [] args []) Q E s := by
  unfold callWith
  refine wpX_then (wpAny_holding (wpAny_mono h (fun x s₁ h₁ => wpX_stand ?_) fun _ _ x => x))
  have tail : ∀ {t : Sem Value}, wpX c M A t Q E s₁ → wpX c M A (t >>= fun r => holding [r] point >>= fun _ => pure r) Q E s₁ :=
    fun ht => wpX_bind (wpX_mono ht (fun r s₂ hr => .of (wpAny_bind (wpAny_holding (wpAny_point (wpAny_pure hr))))) fun _ _ x => x)
  simp only [hp, List.any_nil, Bool.or_false]
  refine wpX_then (m := keeperOf (.ref a)) ?_
  unfold keeperOf
  refine wpAny_bind (wpAny_load h₁.1.1 ?_)
  rw [h₁.1.2]
  refine wpAny_pure ?_
  dsimp only
  split
  · exact tail h₁.2
  · exact tail (by unfold callMarked; exact wpX_keep h₁.2)
theorem evalCall_X {x : Str} {xp pos : Pos} {args : List Expr} {Q : Value → Shared → Prop} (h : wpAny M A (eval (.Name x xp) env) (fun f s₁ => wpX c M A (callWith pos f [] (backTo pos (starEach args env)) []) Q E s₁) E s) :
    wpX c M A (eval (.Call (.Name x xp) args [] pos) env) Q E s := by
  show wpX c M A (do callWith pos (← eval (.Name x xp) env) [] (backTo pos (starEach args env)) (backToKw pos (keywordEach [] env))) Q E s
  exact wpX_then h
theorem assignName_X {x : Str} {xp pos : Pos} {value : Expr} {Q : Flow → Shared → Prop} (h : wpX c M A (eval value env) (fun v s₁ => wpAny M A (storeName env x v) (fun _ => Q .next) E s₁) E s)
    (hs : swapsWith value (some (.Name x xp)) pos.line env = pure false) : wpX c M A (exec (.Assign [.Name x xp] value pos) env) Q E s := by
  rw [exec_Assign_Name env x xp value pos hs]
  exact wpX_stand (wpX_bind (wpX_mono h (fun v s₁ h₁ => .of (wpAny_bind (wpAny_standAt (wpAny_bind (wpAny_bindName (wpAny_mono h₁ (fun _ _ q => wpAny_pure q) fun _ _ x => x)))))) fun _ _ x => x))
theorem swap_no {e : Expr} {ts : List Expr} {kk : Nat} {tp : Pos} {l : Nat} : swapsWithSole [.Tuple ts kk tp] e l env = pure false := by cases e <;> rfl
theorem assignSwap_X {elts : List Expr} {k : Nat} {tpos pos : Pos} {value : Expr} {names : List Str} {Q : Flow → Shared → Prop}
    (h : wpX c M A (eval value env) (fun v s₁ => wpAny M A (unpackItems v names.length none) (fun items s₂ => wpAny M A (assignInOrder (names.reverse.map fun n => bindName env n) items.reverse) (fun _ => Q .next) E s₂) E s₁) E s)
    (hw : swappedStores [.Tuple elts k tpos] value env = pure (some names)) : wpX c M A (exec (.Assign [.Tuple elts k tpos] value pos) env) Q E s := by
  rw [exec_Assign]
  refine wpX_stand ?_
  rw [swap_no]
  refine wpX_bind (wpX_pure ?_)
  rw [if_neg (by decide)]
  refine wpX_bind (wpX_mono h (fun v s₁ h₁ => ?_) fun _ _ x => x)
  rw [hw]
  refine wpX_bind (wpX_pure ?_)
  show wpX c M A (do rule "assign.swapped-stores"; let items ← unpackItems v names.length none; assignInOrder (names.reverse.map fun n => bindName env n) items.reverse; pure .next) Q E s₁
  exact .of (wpAny_bind (wpAny_rule (wpAny_bind (wpAny_mono h₁ (fun items s₂ h₂ => wpAny_bind (wpAny_mono h₂ (fun _ _ q => wpAny_pure q) fun _ _ x => x)) fun _ _ x => x))))
theorem if_X {t : Expr} {a b : List Stmt} {pos : Pos} {Q : Flow → Shared → Prop} (h : wpAny M A (isTrue t env (eval t env)) (fun z s₁ => if z then wpX c M A (execs a env) Q E s₁ else wpX c M A (execs b env) Q E s₁) E s) :
    wpX c M A (exec (.If t a b pos) env) Q E s := by
  rw [exec_If]
  refine wpX_stand (wpX_then (wpAny_mono h (fun c s₁ h₁ => ?_) fun _ _ x => x))
  cases c <;> exact h₁
theorem execs_X {st : Stmt} {rest : List Stmt} {Q : Flow → Shared → Prop} (h : wpX c M A (exec st env) (fun f s' => match f with | .next => wpX c M A (execs rest env) Q E s' | f => Q f s') E s) : wpX c M A (execs (st :: rest) env) Q E s := by
  rw [execs_cons]
  refine wpX_bind (wpX_mono h (fun f s' h' => ?_) fun _ _ x => x)
  cases f <;> first | exact h' | exact wpX_pure h'
theorem for_X {target iter : Expr} {body orelse : List Stmt} {pos : Pos} {Q : Flow → Shared → Prop}
    (h : wpAny M A (eval iter env) (fun x s₁ => wpAny M A (pyIter x) (fun it s₂ => codeX c M A (.forLoop target it body orelse env) (fun r s' => match r with | .ok f => Q f s' | .error e => cameBackBy M A env E e s') s₂) E s₁) E s)
    (hs : ∀ x, foldedSetIterable iter env x = pure x) : wpX c M A (exec (.For target iter body orelse pos) env) Q E s := by
  rw [exec_For]
  refine wpX_stand (wpX_then (wpAny_mono h (fun x s₁ h₁ => ?_) fun _ _ x => x))
  rw [hs x]
  refine wpX_bind (wpX_pure (wpX_stand (wpX_then (wpAny_holding (wpAny_mono h₁ (fun it s₂ h₂ => ?_) fun _ _ x => x)))))
  unfold runOwn
  exact wpX_onRaise (wpX_mono (wpX_run (E := fun e s' => cameBackBy M A env E e s') h₂) (fun _ _ q => q) fun _ _ q => .of q)
theorem try_X {body : List Stmt} {h₀ : ExceptHandler} {hs : List ExceptHandler} {pos : Pos} {Q : Flow → Shared → Prop}
    (h : wpX c M A (execs body env) (fun f s₁ => Q f s₁)
      (fun e s₁ => wpAny M A (noteFrame e env) (fun _ s₂ => wpAny M A (setFlight e none) (fun _ s₃ => wpAny M A (handleBy e env (h₀ :: hs)) Q E s₃) E s₂) E s₁) s) :
    wpX c M A (exec (.Try body (h₀ :: hs) [] [] pos) env) Q E s := by
  rw [arm_exec_Try]
  refine wpX_stand ?_
  unfold tryStmt
  simp only [List.isEmpty_nil, if_true, List.isEmpty_cons, Bool.false_and, Bool.false_eq_true, if_false]
  refine wpX_bind (wpX_attempt (wpX_mono h (fun f s₁ h₁ => ?_) fun e s₁ h₁ => ?_))
  · cases f <;> first | exact .of (wpAny_execs_nil h₁) | exact wpX_pure h₁
  · exact .of (wpAny_bind (wpAny_mono h₁ (fun _ _ h₂ => wpAny_bind h₂) fun _ _ x => x))
end
section
variable {c : Bool} {prog : Program} {w : World} {A : Around} {R : Result → Shared → Prop} {s : Shared}
theorem forStep_X {target : Expr} {it : Value} {body : List Stmt} {env : Env}
    (h : wpAny (model prog w) A (pyNext it) (fun r s₁ => match r with
      | none => R (.ok .next) s₁
      | some v => wpAny (model prog w) A (letOwnedTupleGo target it v) (fun _ s₂ => wpAny (model prog w) A (assign target env v) (fun _ s₃ =>
          wpX c (model prog w) A (execs body env) (fun f s₄ => f = .next ∧ codeX c (model prog w) A (.forLoop target it body [] env) R s₄) NoE s₃) NoE s₂) NoE s₁) NoE s) :
    codeX c (model prog w) A (.forLoop target it body [] env) R s := by
  refine codeX_of_tree ?_
  rw [Around.under_of_weight (A := A) (c := .forLoop target it body [] env) rfl]
  show wpX c _ A ((forTurn target it body [] env).onRaise (fun x => do noteFrame x env; theTreesLotGoes x)) _ _ s
  refine wpX_onRaise (goX (E := fun e s' => wpX c (model prog w) A (do noteFrame e env; theTreesLotGoes e) (fun _ s'' => R (.error e) s'') (fun e s' => R (.error e) s') s') ?_ fun _ _ q => q)
  simp only [forTurn]
  refine wpX_stand (wpX_then (wpAny_onRaise (wpAny_mono h (fun r s₁ h₁ => ?_) fun _ _ x => x.elim)))
  cases r with
  | none =>
    refine wpX_pure ⟨rfl, .of (codeAny_of_tree ?_)⟩
    rw [Around.under_of_weight (A := A) (c := .block [] env) rfl]
    show wpAny _ A ((execs [] env >>= fun f => pure (Fin.done f)).onRaise (fun x => do noteFrame x env; theTreesLotGoes x)) _ _ s₁
    exact wpAny_noted (wpAny_bind (wpAny_execs_nil (wpAny_pure h₁)))
  | some v =>
    refine wpX_then (wpAny_mono h₁ (fun _ s₂ h₂ => wpX_then (wpAny_mono h₂ (fun _ s₃ h₃ => wpX_bind (wpX_mono h₃ (fun f s₄ h₄ => ?_) fun _ _ x => x)) fun _ _ x => x)) fun _ _ x => x)
    obtain ⟨rfl, h₄⟩ := h₄
    exact wpX_pure ⟨rfl, h₄⟩
theorem call_X {a : Addr} {args : Args} {o : Obj} {fd : FuncData} {body : List Stmt} (hroom : A.depth < recursionLimit) (ho : s.heap.get? a = some o) (hd : o.data = .func fd) (hco : fd.scope.isCoroutine = false) (hgen : fd.scope.isGenerator = false)
    (hbody : fd.body = .stmts body) (hcd : s.heap.CodeRec fd.code fd.qualname)
    (h : wpAny (model prog w) A.in1 (bindArgs fd args) (fun binds s₁ =>
      wpAny (model prog w) A.in1 (newFunctionEnv fd.scope fd.globals fd.closure binds (fd.qualname ++ ".<locals>.") (some a) fd.code none fd.builtins)
        (fun env s₂ => s₂.heap.NoLimit ∧ wpX c (model prog w) (A.deeper env) (execs body env) (fun f s' => R (.ok (.ret (match f with | .ret v => v | _ => .none))) s') NoE s₂) (fun e s' => R (.error e) s') s₁) (fun e s' => R (.error e) s') s) :
    codeX c (model prog w) A (.call (.ref a) args) R s := by
  refine codeX_of_tree ?_
  show wpX c _ A.in1 (callAny (.ref a) args) _ _ s
  simp only [callAny]
  refine wpX_then (wpAny_load ho ?_)
  obtain ⟨cd, oc, vs, tq, hc, hoc, hdc, hq⟩ := hcd
  simp only [hd, callFunction, hco, hgen, hbody, hc]
  rw [hc] at h
  refine wpX_then (m := field (.ref cd) 1) (wpAny_field hoc hdc hq (wpX_then (wpAny_pure ?_)))
  refine wpX_then (wpAny_mono h (fun binds s₁ h₁ => wpX_then (wpAny_mono h₁ (fun env s₂ h₂ => wpX_then (wpAny_enterFrame h₂.1 hroom (wpX_pure ⟨rfl, ?_⟩))) fun _ _ h' => h')) fun _ _ h' => h')
  refine codeX_of_tree ?_
  show wpX c _ (A.deeper env) (do point; match ← (execs body env).onRaise (leaving env) with | .ret v => ret v | _ => ret .none) _ _ s₂
  refine wpX_then (wpAny_point (wpX_bind (wpX_onRaise (wpX_mono h₂.2 (fun f s' h' => ?_) fun _ _ h' => h'.elim))))
  cases f <;> exact wpX_pure h'
end
end Mine
namespace Mine
set_option genSizeOf false
set_option genInjectivity false
noncomputable def GrowS (B : Bs) (Fs : List Addr) (s s' : Shared) : Prop :=
  ∃ h tk, s' = { s with heap := h, toks := tk } ∧ (∀ a o, a ∉ Fs → ¬ B.T a → s.heap.get? a = some o → h.get? a = some o) ∧ (∀ a ∈ Fs, ∀ o, s.heap.get? a = some o → ∃ sl, h.get? a = some { o with slots := sl }) ∧ (B.TI s.heap → B.TI h)
theorem GrowS.grow {B : Bs} {L : Addr} {s s' : Shared} (x : GrowS B [] s s') (O : B.Ok) (h : ¬ B.T L) : Grow B L s s' := x.elim fun h' x => x.elim fun tk x => ⟨h', tk, x.1, fun a o _ => x.2.1 a o List.not_mem_nil, fun m y => y.at fun o => x.2.1 L o List.not_mem_nil h, x.2.2.2⟩
structure Fr.Cl {W : Ws} (F : Fr W) : Prop where
  frames : F.A.frames = some F.outer
  stat : FrStat F.outer
  kp : ∀ a o, F.Kp a o → a ∉ framesOf F.outer
  self : F.env.frame = some F.env.locals
  top : ∃ t, F.outer = F.env :: t
inductive Fl where
  | next
  | ret (r : RV)
noncomputable def Calm : List Pend → Prop
  | [] => True
  | .row _ _ :: t => Calm t
  | _ => False
noncomputable def Dn {W : Ws} (F : Fr W) (fl : Fl) (ρ : Loc) (σ : Sto) (stk : List Pend) (as : Option Addr) (f : Flow) (s : Shared) : Prop := match fl with
  | .next => f = .next ∧ Inv F ρ σ stk as s
  | .ret r => ∃ v, f = .ret v ∧ Inv F ρ σ (.one v r :: stk) as s
noncomputable def dEnv (sc : Scope) : Env := { scope := sc, locals := 0, globals := 0, cells := [], qual := ⟨#[]⟩, func := none, code := .none, frame := none, builtins := 0 }
section
variable (c : Bool) (W : Ws) (sc : Scope)
noncomputable def Ex (s : Stmt) (ρ : Loc) (σ : Sto) (fl : Fl) (ρ' : Loc) (σ' : Sto) : Prop :=
  ∀ {F : Fr W} {stk : List Pend} {as : Option Addr} {s₀ : Shared}, F.env.scope = sc → F.ro = false → (c = true → F.Cl) → Calm stk → Inv F ρ σ stk as s₀ → wpX c W.M F.A (exec s F.env) (Dn F fl ρ' σ' stk as) NoE s₀
noncomputable def Exs (ss : List Stmt) (ρ : Loc) (σ : Sto) (fl : Fl) (ρ' : Loc) (σ' : Sto) : Prop :=
  ∀ {F : Fr W} {stk : List Pend} {as : Option Addr} {s₀ : Shared}, F.env.scope = sc → F.ro = false → (c = true → F.Cl) → Calm stk → Inv F ρ σ stk as s₀ → wpX c W.M F.A (execs ss F.env) (Dn F fl ρ' σ' stk as) NoE s₀
noncomputable def EvX (e : Expr) (σ : Sto) (ρ : Loc) (r : RV) : Prop :=
  ∀ {F : Fr W} {stk : List Pend} {as : Option Addr} {s₀ : Shared}, F.env.scope = sc → (c = true → F.Cl) → Inv F ρ σ stk as s₀ → wpX c W.M F.A (eval e F.env) (fun v s' => Inv F ρ σ (.one v r :: stk) as s') NoE s₀
end
noncomputable def stoQ (sc : Scope) (x : Str) : Bool := match sc.names.lookup x with | some .local => true | some .cell => true | _ => false
section
variable {c : Bool} {W : Ws} {F : Fr W} {sc : Scope} {σ σ' σ₁ : Sto} {ρ ρ' ρ₁ : Loc} {stk : List Pend} {as : Option Addr} {s₀ : Shared} {e t : Expr} {es ts : List Expr} {p q xp : Pos} {a b v : PV} {ps l l' : List PV} {x : Str} {u : Value} {r : RV} {s : Stmt} {ss s1 s2 : List Stmt} {fl : Fl} {A : Around} {E : Value → Shared → Prop}
theorem Inv.put (I : Inv F ρ σ (.one u r :: stk) as s₀) (hx : stoQ F.env.scope x = true) (hro : F.ro = false) : wpAny W.M A (storeName F.env x u) (fun _ s' => Inv F (setP x r ρ) σ stk as s') E s₀ := by
  unfold stoQ at hx
  split at hx
  · rename_i h; exact I.store h
  · rename_i h; exact I.storeC hro h
  · cases hx
theorem swapsDep {t : Option Expr} {n : Nat} {z : Bool} {env : Env} (h : swapsWith e t n (dEnv sc) = pure z) (hs : env.scope = sc) : swapsWith e t n env = pure z := by subst hs; exact h
theorem storesDep {t : List Expr} {z : Option (List Str)} {env : Env} (h : swappedStores t e (dEnv sc) = pure z) (hs : env.scope = sc) : swappedStores t e env = pure z := by subst hs; exact h
theorem EvX.of (h : Ev W sc σ ρ e r) : EvX c W sc e σ ρ r := fun hs _ I => .of (h hs I)
theorem Exs.nil : Exs c W sc [] ρ σ .next ρ σ := fun _ _ _ _ I => .of (wpAny_execs_nil ⟨rfl, I⟩)
theorem Exs.cons (h1 : Ex c W sc s ρ σ .next ρ₁ σ₁) (h2 : Exs c W sc ss ρ₁ σ₁ fl ρ' σ') : Exs c W sc (s :: ss) ρ σ fl ρ' σ' := fun hs hr hc hk I =>
  execs_X (goX (h1 hs hr hc hk I) fun f s₁ d => d.1 ▸ h2 hs hr hc hk d.2)
theorem Exs.ret (h1 : Ex c W sc s ρ σ (.ret r) ρ' σ') : Exs c W sc (s :: ss) ρ σ (.ret r) ρ' σ' := fun hs hr hc hk I =>
  execs_X (goX (h1 hs hr hc hk I) fun f s₁ d => d.elim fun v d => d.1 ▸ ⟨v, rfl, d.2⟩)
theorem Ex.ret (h : Ev W sc σ ρ e r) : Ex c W sc (.Return (some e) p) ρ σ (.ret r) ρ σ := fun hs _ _ _ I => .of (wpAny_Return_some (go (h hs I) fun v s₁ I => ⟨v, rfl, I⟩))
theorem Ex.ret0 : Ex c W sc (.Return none p) ρ σ (.ret (.val .none)) ρ σ := fun hs _ _ _ I => .of (wpAny_Return_none ⟨_, rfl, I.push .none⟩)
theorem Ex.asgX (hx : stoQ sc x = true) (h : EvX c W sc e σ ρ r) (hsw : swapsWith e (some (.Name x xp)) p.line (dEnv sc) = pure false) : Ex c W sc (.Assign [.Name x xp] e p) ρ σ .next (setP x r ρ) σ := fun hs hr hc hk I =>
  assignName_X (goX (h hs hc I) fun u s₁ I => go (I.put (hs ▸ hx) hr) fun _ s₂ I => ⟨rfl, I⟩) (swapsDep hsw hs)
theorem Ex.asg (hx : stoQ sc x = true) (h : Ev W sc σ ρ e r) (hsw : swapsWith e (some (.Name x xp)) p.line (dEnv sc) = pure false) : Ex c W sc (.Assign [.Name x xp] e p) ρ σ .next (setP x r ρ) σ := Ex.asgX hx (EvX.of h) hsw
theorem Ex.iteT (h1 : Tst W sc σ ρ t true) (h2 : Exs c W sc s1 ρ σ fl ρ' σ') : Ex c W sc (.If t s1 s2 p) ρ σ fl ρ' σ' := fun hs hr hc hk I =>
  if_X (go (h1 hs I) fun z s₁ k => by obtain ⟨rfl, I⟩ := k; exact h2 hs hr hc hk I)
theorem Ex.iteF (h1 : Tst W sc σ ρ t false) (h2 : Exs c W sc s2 ρ σ fl ρ' σ') : Ex c W sc (.If t s1 s2 p) ρ σ fl ρ' σ' := fun hs hr hc hk I =>
  if_X (go (h1 hs I) fun z s₁ k => by obtain ⟨rfl, I⟩ := k; exact h2 hs hr hc hk I)
theorem Ex.aug {op : Operator} (hx : stoQ sc x = true) (h1 : locQ sc x = true) (h1' : ρ.lookup x = some (.val a)) (h2 : Rd W sc σ ρ e b) (h3 : Op2 W (inplaceOp op) a b v) : Ex c W sc (.AugAssign (.Name x xp) op e p) ρ σ .next (setP x (.val v) ρ) σ := fun hs hr _ _ I =>
  .of (wpAny_AugAssign_Name (I.loadN (hs ▸ h1) h1' fun u ru => go (h2 hs (I.stk' (stk' := .one u (.rd a) :: _) fun k => ⟨.inl ru, k⟩)) fun _ _ I => go (h3.use I) fun _ _ I => go (I.put (hs ▸ hx) hr) fun _ _ I => ⟨rfl, I⟩))
noncomputable def setsP : List Str → List PV → Loc → Loc
  | x :: xs, p :: ps, ρ => setsP xs ps (setP x (.val p) ρ)
  | _, _, ρ => ρ
theorem Inv.puts (hro : F.ro = false) {xs : List Str} : ∀ {l : List PV} {ρ : Loc} {us : List Value} {s : Shared}, xs.all (stoQ F.env.scope) = true → xs.length = l.length → Inv F ρ σ (.row us l :: stk) as s →
    wpAny W.M A (assignInOrder (xs.map fun n => bindName F.env n) us) (fun _ s' => Inv F (setsP xs l ρ) σ stk as s') E s := by
  induction xs with
  | nil =>
    intro l ρ us s _ e I
    cases l with
    | cons => cases e
    | nil =>
      obtain rfl := I.stk.1.nil'
      exact wpAny_assignInOrder_none (I.stk' fun k => k.2)
  | cons x xs ih =>
    intro l ρ us s h e I
    cases l with
    | nil => cases e
    | cons q l =>
      obtain ⟨u, us, rfl, h1, h2⟩ := I.stk.1.cons'
      have h := Bool.and_eq_true_iff.mp h
      exact wpAny_assignInOrder_more (wpAny_bindName (go ((I.stk' (stk' := .one u (.val q) :: .row us l :: stk) fun k => ⟨h1, h2, k.2⟩).put h.1 hro) fun _ _ I => ih h.2 (Nat.succ.inj e) I))
theorem Inv.parts (I : Inv F ρ σ (.one u (.val (.tup l)) :: stk) as s₀) {Q : List Value → Shared → Prop} (h : ∀ us s', Inv F ρ σ (.row us l :: stk) as s' → Q us s') : wpAny W.M F.A (unpackItems u l.length none) Q E s₀ := by
  obtain ⟨a, vs, rfl, _, ht, r⟩ := Rel.tup' I.stk.1
  rw [← r.length]
  exact wpAny_unpackItems_tuple F.room.handled ht fun h' hx => h _ _ ((I.stk' (stk' := .row vs l :: stk) fun k => ⟨r, k.2⟩).grow (grow_all (tk := s₀.toks) fun b o eb => hx b o (Nat.ne_of_lt (Heap.lt_size eb)) eb))
theorem Ex.tupS {k : Nat} {tp : Pos} {xs : List Str} (h : EvX c W sc e σ ρ (.val (.tup l))) (hw : swappedStores [.Tuple ts k tp] e (dEnv sc) = pure (some xs)) (hx : xs.reverse.all (stoQ sc) = true) (hl : xs.length = l.length) : Ex c W sc (.Assign [.Tuple ts k tp] e p) ρ σ .next (setsP xs.reverse l.reverse ρ) σ := fun {F stk as s} hs hr hc _ I =>
  assignSwap_X (goX (h hs hc I) fun u s₁ I => hl ▸ I.parts fun us s₂ I => go ((I.stk' (stk' := .row us.reverse l.reverse :: stk) fun k => ⟨k.1.reverse, k.2⟩).puts hr (hs ▸ hx) (by rw [List.length_reverse, List.length_reverse, hl])) fun _ _ I => ⟨rfl, I⟩) (storesDep hw hs)
theorem Ex.tup {k : Nat} {tp : Pos} (h : Vl W sc σ ρ e v) (hw : swappedStores [.Tuple ts k tp] e (dEnv sc) = pure none) (ha : Asg W false sc (.Tuple ts k tp) v ρ ρ₁) : Ex c W sc (.Assign [.Tuple ts k tp] e p) ρ σ .next ρ₁ σ := fun hs hr _ _ I =>
  .of (Assign_Tuple (go (h hs I) fun _ _ I => go (ha hs (fun q => hr ▸ q) I) fun _ _ I => ⟨rfl, I⟩) swap_no (storesDep hw hs))
end
end Mine
namespace Mine
set_option genSizeOf false
set_option genInjectivity false
noncomputable def noRd (ρ : Loc) : Bool := ρ.all fun p => match p.2 with | .rd _ => false | _ => true
section
variable {c : Bool} {W : Ws} {F : Fr W} {sc : Scope} {σ : Sto} {ρ ρ₁ ρ₂ : Loc} {stk : List Pend} {as : Option Addr} {s : Shared} {a : Addr} {vs vs' : List Value} {n n' tk : Nat} {l l' ps : List PV} {h' : Heap} {A : Around} {E : Value → Shared → Prop} {e : Expr} {es : List Expr} {x m : Str} {xp ap cp p : Pos} {fl : Fl} {ss : List Stmt}
theorem Calm.step {ok ok' : Addr → Prop} {h : Heap} {as' : Option Addr} (k : Sk ok ok' h h') {stk : List Pend} (hc : Calm stk) (x : Stk as ok h stk) : Stk as' ok' h' stk := by
  induction stk with
  | nil => exact ⟨⟩
  | cons e t ih => cases e with
    | row => exact ⟨x.1.step k, ih hc x.2⟩
    | _ => exact hc.elim
theorem RRel.turn {ok ok' : Addr → Prop} {h : Heap} {v : Value} {r : RV} (k : Sk ok ok' h h') (hr : ∀ p, r ≠ .rd p) (x : RRel as ok h v r) : RRel as ok' h' v r := by
  cases r with
  | val p => exact Rel.step k x
  | own => exact x
  | rd p => exact (hr p rfl).elim
theorem noRd_look (h : noRd ρ = true) {r : RV} (e : ρ.lookup x = some r) (p : PV) : r ≠ .rd p := fun q => by
  have := List.all_eq_true.mp h _ (mem_of_look e)
  rw [q] at this; cases this
theorem Inv.setOwn (I : Inv F ρ (some l) stk (some a) s) (hc : Calm stk) (hr : noRd ρ = true) (ho : h'.get? a = some (listOb vs' n')) (k : ∀ b o, b ≠ a → ¬ W.B.T b → s.heap.get? b = some o → h'.get? b = some o) (hT : W.B.TI h') (r : Rels (F.dat (some a)) s.heap vs' l') : Inv F ρ (some l') stk (some a) { s with heap := h', toks := tk } := by
  obtain ⟨x1, x2⟩ := I.xk a fun q => q.2 rfl
  obtain ⟨y1, y2, y3, y4⟩ := I.seq_ne x1
  have sk : Sk (F.dat (some a)) (F.dat (some a)) s.heap h' := fun b o xs m e d q => ⟨k b o (fun z => q.2 (z ▸ rfl)) (I.seqT e d) e, q⟩
  have kL : ∀ o, s.heap.get? F.env.locals = some o → h'.get? F.env.locals = some o := fun o => k _ o (Ne.symm y1) I.LT
  have kC : ∀ x c o, Celly F.env x → F.env.cells.lookup x = some c → s.heap.get? c = some o → h'.get? c = some o := fun x c o e1 e2 => k c o (y2 x c e1 e2) ((I.cex x e1).elim fun c' z => z.elim fun v z => Option.some.inj (z.1.symm.trans e2) ▸ cellT W.O I.glob z.2.1)
  refine { I with
    rest := I.rest.step _ _
    glob := ⟨fun b o e => k b o (fun z => by rw [z, x2] at e; cases e) (W.O.noT b o e) (I.glob.1 b o e), hT⟩
    fs := fun b hb => ⟨(I.fs b hb).1.elim fun o z => z.elim fun es z => z.elim fun n z => ⟨o, es, n, k b o (fun q => y3 (q ▸ hb)) (I.glob.noT W.O z.1 fun vs q => by rw [z.2] at q; cases q) z.1, z.2⟩, (I.fs b hb).2⟩
    kf := fun b o q => (I.kf b o q).elim fun sl e => ⟨sl, k b _ (fun z => ?_) (F.kfT b o q).1 e⟩
    kp := fun b o q => k b o (fun z => (I.asX a rfl).2 o (z ▸ q)) (F.kpF b o q) (I.kp b o q)
    xk := fun b q => ⟨?_, (I.xk b q).2⟩
    ns := I.ns.elim fun m y => ⟨m, y.at kL⟩
    names := fun x r e => (I.names x r e).elim fun v y => ⟨v, y.1.at kL kC, y.2.turn sk (noRd_look hr e)⟩
    cex := fun x q => (I.cex x q).elim fun c z => z.elim fun v z => ⟨c, v, z.1, z.2.1.elim fun o w => ⟨o, kC x c o q z.1 w.1, w.2⟩, z.2.2⟩
    own := ⟨nofun, fun l₁ e => ⟨a, vs', n', rfl, ho, Option.some.inj e ▸ r.step sk⟩⟩
    stk := hc.step sk I.stk }
  · obtain ⟨a', vs, n, e1, e2, _⟩ := I.own.2 l rfl
    obtain rfl := Option.some.inj e1
    obtain ⟨_, es, m, d⟩ := F.kfT _ o q
    have d' := congrArg Obj.data (Option.some.inj ((z ▸ e).symm.trans e2))
    rw [show Obj.data { o with slots := sl } = o.data from rfl, d] at d'; cases d'
  · by_cases z : b = a
    · exact z ▸ ⟨_, _, _, ho, rfl⟩
    · exact (I.xk b q).1.elim fun o w => w.elim fun xs w => w.elim fun m w => ⟨o, xs, m, k b o z (I.seqT w.1 w.2) w.1, w.2⟩
theorem Inv.upd (I : Inv F ρ (some l) stk (some a) s) (hc : Calm stk) (hr : noRd ρ = true) (hl : l.length ≤ 1048576) {f : Array Value → Array Value} {g : List Value → List Value} (hf : ∀ vs : List Value, f vs.toArray = (g vs).toArray) (hr' : ∀ vs, Rels (F.dat (some a)) s.heap vs l → Rels (F.dat (some a)) s.heap (g vs) l') (hl' : l'.length ≤ 1048576) :
    wpAny W.M A (updateSeq a f) (fun _ s' => Inv F ρ (some l') stk (some a) s') E s := by
  obtain ⟨a', vs, n, e1, e2, r⟩ := I.own.2 l rfl
  obtain rfl := Option.some.inj e1
  have r' := hr' vs r
  obtain ⟨n', e3⟩ : ∃ n', Obj.mapSeq f (listOb vs n) = listOb (g vs) n' := ⟨_, congrArg (fun x => ({ cls := .type "list", data := .seq x _ } : Obj)) (hf vs)⟩
  have hs : Heap.SameBut a s.heap (s.heap.update a (Obj.mapSeq f)) := Heap.SameBut.update ..
  exact wpAny_updateSeq e2 rfl (I.setOwn (tk := s.toks) hc hr ((Heap.get?_update_self _ e2 (by rw [e3]; rfl)).trans (congrArg some e3)) (fun b o q _ => hs.extBut b o q) (W.O.tiW (· = a) _ _ (fun b o q e => .inl fun vs d => by
    obtain rfl := Option.some.inj ((q ▸ e).symm.trans e2)
    cases d) (fun b o q => hs.extBut b o q) I.glob.2) r') (r.le hl) (by rw [hf]; exact Nat.le_succ_of_le (r'.le hl'))
noncomputable def Mut (W : Ws) (m : Str) (l ps l' : List PV) : Prop := ∃ id, Slot "list" m id ∧ typeOf (.builtin id) = pure (.type "method_descriptor") ∧ ∀ {F : Fr W} {ρ : Loc} {stk : List Pend} {a : Addr} {s : Shared} {vs : List Value}, Calm stk → noRd ρ = true → Inv F ρ (some l) (.row vs ps :: stk) (some a) s →
  wpAny W.M F.A (call (.builtin id) (.ref a :: vs) []) (fun v s' => v = .none ∧ Inv F ρ (some l') stk (some a) s') NoE s
theorem Inv.ownIs (I : Inv F ρ (some l) stk (some a) s) : ∃ vs n, s.heap.get? a = some (listOb vs n) ∧ Rels (F.dat (some a)) s.heap vs l := (I.own.2 l rfl).elim fun a' x => x.elim fun vs x => x.elim fun n x => ⟨vs, n, Option.some.inj x.1 ▸ x.2⟩
theorem mut_append {q : PV} (h : l.length < 1048576) : Mut W (Str.ofString "append") l [q] (l ++ [q]) := ⟨_, PySem.F.slot_list_append, PySem.F.type_list_append, fun {F ρ stk a s vs} hc hr I => by
  obtain ⟨u, _, rfl, r1, r2⟩ := I.stk.1.cons'
  obtain rfl := r2.nil'
  obtain ⟨ws, n, e, _⟩ := I.ownIs
  refine wpAny_call_entry PySem.F.slot_list_append (T := "list") ⟨_, e, rfl⟩ PySem.F.entry_list_append ?_ (PySem.F.args_list_append_2 _ _)
  show wpAny _ _ (updateSeq a (·.push u) >>= fun _ => ret .none) _ _ s
  exact wpAny_bind (go (Inv.upd (I.stk' fun k => k.2) hc hr (Nat.le_of_lt h) (f := (·.push u)) (g := (· ++ [u])) (fun vs => List.push_toArray ..) (fun vs r => r.append (.one r1)) (by rw [List.length_append]; exact h)) fun _ s' J => wpAny_pure ⟨.none, rfl, rfl, J⟩)⟩
theorem mut_reverse (h : l.length ≤ 1048576) : Mut W (Str.ofString "reverse") l [] l.reverse := ⟨_, PySem.F.slot_list_reverse, PySem.F.type_list_reverse, fun {F ρ stk a s vs} hc hr I => by
  obtain rfl := I.stk.1.nil'
  obtain ⟨ws, n, e, _⟩ := I.ownIs
  refine wpAny_call_entry PySem.F.slot_list_reverse (T := "list") ⟨_, e, rfl⟩ PySem.F.entry_list_reverse ?_ (PySem.F.args_list_reverse_1 _)
  show wpAny _ _ (updateSeq a (·.reverse) >>= fun _ => ret .none) _ _ s
  exact wpAny_bind (go (Inv.upd (I.stk' fun k => k.2) hc hr h (f := (·.reverse)) (g := (·.reverse)) (fun vs => List.reverse_toArray ..) (fun vs r => r.reverse) (by rw [List.length_reverse]; exact h)) fun _ s' J => wpAny_pure ⟨.none, rfl, rfl, J⟩)⟩
end
end Mine
namespace Mine
set_option genSizeOf false
set_option genInjectivity false
noncomputable def Bd (c : Bool) (W : Ws) (sc : Scope) (ss : List Stmt) (ρ : Loc) (r : RV) (σ' : Sto) : Prop :=
  ∀ {F : Fr W} {s₀ : Shared}, F.env.scope = sc → F.ro = false → (c = true → F.Cl) → Inv F ρ none [] none s₀ → wpX c W.M F.A (execs ss F.env) (fun f s => ∃ v as ρ', f = .ret v ∧ Inv F ρ' σ' [.one v r] as s) NoE s₀
section
variable {c : Bool} {W : Ws} {F : Fr W} {sc csc : Scope} {σ σ' : Sto} {ρ ρ₁ ρ₂ ρ' : Loc} {stk : List Pend} {as : Option Addr} {s : Shared} {a : Addr} {vs vs' : List Value} {n n' tk : Nat} {l l' ps q items : List PV} {h' : Heap} {A : Around} {E : Value → Shared → Prop} {e t it elt : Expr} {es ifs : List Expr} {x m : Str} {xp ap cp p : Pos} {fl : Fl} {ss body : List Stmt} {st : Stmt} {r : RV} {s' : Shared} {rest : List Comprehension} {b v : PV}
theorem mut_extend (h : l.length + q.length ≤ 1048576) : Mut W (Str.ofString "extend") l [.tup q] (l ++ q) := ⟨_, PySem.F.slot_list_extend, PySem.F.type_list_extend, fun {F ρ stk a s vs} hc hr I => by
  obtain ⟨u, _, rfl, r1, r2⟩ := I.stk.1.cons'
  obtain rfl := r2.nil'
  obtain ⟨b, us, rfl, _, ⟨ob, e1, e2, k1, e3⟩, rq⟩ := r1.tup'
  obtain ⟨ws, n, e, rw⟩ := I.ownIs
  have hz : ws.length + us.length ≤ 1048576 := by rw [rw.length, rq.length]; exact h
  refine wpAny_call_entry PySem.F.slot_list_extend (T := "list") ⟨_, e, rfl⟩ PySem.F.entry_list_extend ?_ (PySem.F.args_list_extend_2 _ _)
  show wpAny _ _ (Builtin.List.listExtendWith (.ref a) (.ref b) .none) _ _ s
  unfold Builtin.List.listExtendWith
  refine wpAny_bind (wpAny_typeOf (s := s) (v := .ref b) (T := "tuple") (show s.TypeIs (.ref b) "tuple" from ⟨ob, e1, e2⟩) ?_)
  rw [if_pos (by simp)]
  refine wpAny_bind (wpAny_bind (wpAny_seqItems e1 e3 (wpAny_pure (wpAny_bind (wpAny_bind (wpAny_seqItems e rfl (wpAny_pure ?_)))))))
  rw [if_neg (extend_door (by have : 1048576 ≤ sizeLine := by decide
                              simp; (first | lia | omega)))]
  show wpAny _ _ (updateSeq a (· ++ us.toArray) >>= fun _ => ret .none) _ _ s
  exact wpAny_bind (go (Inv.upd (I.stk' fun k => k.2) hc hr (Nat.le_trans (Nat.le_add_right _ _) h) (f := (· ++ us.toArray)) (g := (· ++ us)) (fun vs => List.append_toArray ..) (fun vs r => r.append rq) (by rw [List.length_append]; exact h)) fun _ s' J => wpAny_pure ⟨.none, rfl, rfl, J⟩)⟩
theorem Ex.turn (hl : (ap.endLine == cp.line) = true) (hlen : es.length < 29) (h1 : locQ sc x = true) (h1' : ρ.lookup x = some .own) (hr : noRd ρ = true) (h2 : Evs W sc (some l) ρ es ps) (h3 : Mut W m l ps l') : Ex c W sc (.Expr (.Call (.Attribute (.Name x xp) m ap) es [] cp) p) ρ (some l) .next ρ (some l') := fun {F stk as s} hs hro hc hk I => by
  obtain ⟨id, g5, g6, g7⟩ := h3
  refine .of (wpAny_Expr (wpAny_Call_method rfl (few h2.pl hlen _ _) hl PySem.F.plainAttrs_list g5 g6 (I.load (hs ▸ h1) h1' fun ov ro => ?_)) (by simp [interactive, F.kind]) rfl)
  obtain ⟨a, rfl, rfl⟩ := ro
  obtain ⟨ws, n, e, _⟩ := I.ownIs
  refine ⟨⟨_, e, rfl⟩, fun b q => ⟨_, Value.ref.inj q ▸ e, rfl⟩, Calls.callWith_builtin (h2.pl _ cp) (evalArgs_any (h2.pl _ cp) (go (h2.wp cp hs I) fun vs s₂ I => go (g7 hk hr I) fun v s₃ d => ?_))⟩
  obtain ⟨rfl, J⟩ := d
  exact ⟨rfl, J⟩
theorem Bd.cons (h1 : Ex c W sc st ρ none .next ρ₁ none) (h2 : Bd c W sc ss ρ₁ r σ') : Bd c W sc (st :: ss) ρ r σ' := fun hs hr hc I => execs_X (goX (h1 (stk := []) hs hr hc trivial I) fun f s d => d.1 ▸ h2 hs hr hc d.2)
theorem Bd.last (h : Exs c W sc ss ρ none (.ret r) ρ' σ') : Bd c W sc ss ρ r σ' := fun hs hr hc I => goX (h (stk := []) hs hr hc trivial I) fun f s d => d.elim fun v d => ⟨v, none, _, d⟩
theorem Inv.newOwn (I : Inv F ρ none stk none s) (e : s.heap.get? a = none) (G : Grow W.B F.env.locals s s') (ho : s'.heap.get? a = some (listOb vs n)) (r : Rels (fun _ => False) s'.heap vs l) : Inv F ρ (some l) (.one (.ref a) .own :: stk) (some a) s' :=
  have f := I.free e
  have J := I.growX (X' := fun b => F.XK b ∨ b = a) (fun b q => q.elim .inl fun q => .inr ⟨q ▸ e, q ▸ ⟨_, _, _, ho, rfl⟩⟩) G
  have k : Sk ((F.hid fun b => F.XK b ∨ b = a).dat none) (F.dat (some a)) s'.heap s'.heap := .weak fun b q => ⟨fun z => q.1 (.inl z), fun z => q.1 (.inr (Option.some.inj z).symm)⟩
  { J with
    xk := fun b q => J.xk b fun z => q ⟨fun w => z.1 (.inl w), fun w => z.1 (.inr (Option.some.inj w).symm)⟩
    names := fun x r e => (J.names x r e).elim fun v y => ⟨v, y.1, y.2.step k fun _ (q : (none : Option Addr) = some _) => nomatch q⟩
    asX := fun b q => Option.some.inj q ▸ ⟨f.X, fun o => (f.K o).1⟩
    own := ⟨nofun, fun l₁ q => ⟨a, vs, n, rfl, ho, Option.some.inj q ▸ r.weak fun _ => False.elim⟩⟩
    stk := ⟨⟨a, rfl, rfl⟩, J.stk.step k fun _ (q : (none : Option Addr) = some _) => nomatch q⟩ }
noncomputable def New (W : Ws) (sc : Scope) (e : Expr) (ρ : Loc) (l : List PV) : Prop := ∀ {F : Fr W} {s : Shared}, F.env.scope = sc → Inv F ρ none [] none s → wpAny W.M F.A (eval e F.env) (fun v s' => ∃ a, Inv F ρ (some l) [.one v .own] (some a) s') NoE s
theorem Bd.new (hx : stoQ sc x = true) (h : New W sc e ρ l) (hsw : swapsWith e (some (.Name x xp)) p.line (dEnv sc) = pure false) (h2 : Exs c W sc ss (setP x .own ρ) (some l) (.ret r) ρ' σ') : Bd c W sc (.Assign [.Name x xp] e p :: ss) ρ r σ' := fun hs hr hc I =>
  execs_X (.of (wpAny_Assign_Name (go (h hs I) fun v s₁ d => d.elim fun a I => go (I.put (hs ▸ hx) hr) fun _ s₂ I => (goX (h2 (stk := []) hs hr hc trivial I) fun f s d => d.elim fun v d => ⟨v, _, _, d⟩ : wpX c W.M _ _ _ NoE s₂)) (swapsDep hsw hs)))
theorem New.nil {lp : Pos} : New W sc (.List [] lp) ρ [] := fun {F s} hs I =>
  wpAny_List (wpAny_items_nil ⟨Nat.zero_le _, _, I.newOwn (get_new (Nat.le_refl _)) (grow_all (tk := s.toks) fun _ _ e => Heap.get?_push_of_some _ e) (n := 0) (vs := []) (Heap.get?_push_size _ rfl) .nil⟩)
end
end Mine
namespace Mine
set_option genSizeOf false
set_option genInjectivity false
section
variable {prog : Program} {w : World} {A : Around}
theorem draw_walk {I : Addr} {fp wr : List Addr} {xs : Array Value} {St : Nat → Heap → Prop} (W : Walks prog w A I fp wr xs.size (fun j v => xs[j]? = some v) St) : ∀ (vs : List Value) (i : Nat) (s : Shared) (Q : List Value → Shared → Prop), St i s.heap → xs.toList.drop i = vs →
    (∀ h' tk, St (i + vs.length) h' → (∀ b o, b ∉ wr → s.heap.get? b = some o → h'.get? b = some o) → Q vs { s with heap := h', toks := tk }) → wpAny (model prog w) A (draw (.ref I) vs.length) Q NoE s
  | [], i, s, Q, hst, _, hQ => wpAny_pure (hQ s.heap s.toks hst fun _ _ _ e => e)
  | u :: vs, i, s, Q, hst, e, hQ => by
    have h1 : xs[i]? = some u := by rw [← Array.getElem?_toList, ← List.head?_drop, e]; rfl
    show wpAny _ _ (pyNext (.ref I) >>= _) Q NoE s
    refine wpAny_bind (W.item i s _ _ (Array.getElem?_eq_some_iff.mp h1).1 hst fun v h₁ tk₁ hv hst₁ k₁ => ?_)
    obtain rfl := Option.some.inj (hv.symm.trans h1)
    refine wpAny_bind (wpAny_holding (draw_walk W vs (i + 1) _ _ hst₁ (by rw [← List.tail_drop, e]; rfl) fun h₂ tk₂ hst₂ k₂ => wpAny_pure ?_))
    exact hQ h₂ tk₂ (Nat.succ_add_eq_add_succ i vs.length ▸ hst₂) fun b o hb e => k₂ b o hb (k₁ b o hb e)
end
section
variable {c : Bool} {W : Ws} {F : Fr W} {sc csc : Scope} {σ σ' σ₁ : Sto} {ρ ρ₁ ρ₂ ρ' : Loc} {stk : List Pend} {as : Option Addr} {s : Shared} {a : Addr} {l l' ps items its : List PV} {E : Value → Shared → Prop} {e t it elt : Expr} {ts es ifs : List Expr} {x : Str} {xp cp p q : Pos} {ss body : List Stmt} {rest : List Comprehension} {ro : Bool} {u : Value} {b v : PV}
  {Ia : Addr} {fp wr Z : List Addr} {us : List Value} {S : Nat → Heap → Prop}
theorem Inv.partsL (I : Inv F ρ σ (.one u (.val (.lst l)) :: stk) as s) {Q : List Value → Shared → Prop} (h : ∀ us s', Inv F ρ σ (.row us l :: stk) as s' → Q us s') : wpAny W.M F.A (unpackItems u l.length none) Q NoE s := by
  obtain ⟨a, vs, rfl, _, hl, J⟩ := Inv.one_row I
  rw [← J.stk.1.length]
  have hne : a ≠ s.heap.objs.size := neA (.inl (hl.elim fun o y => lt_sizeN y.1))
  have w := Walks.list (prog := W.prog) (w := W.w) F.room.handled s.heap.objs.size a hne vs.toArray
  unfold unpackItems notIterableAtAll
  refine wpAny_bind (wpAny_bind (wpAny_specialOf hl.typeIs PySem.slot_list_iter.lookup (wpAny_pure ?_)))
  rw [if_neg (by decide)]
  refine wpAny_bind (wpAny_holding (wpAny_pyIter_list hl (wpAny_bind (wpAny_holding (draw_walk w vs 0 _ _ ⟨⟨_, Heap.get?_push_size _ rfl, rfl, rfl⟩, hl.at fun o e => Heap.get?_push_of_some _ e⟩ rfl fun h₂ tk₂ hst k2 => ?_)))))
  rw [if_neg (by simp)]
  rw [Nat.zero_add] at hst
  refine wpAny_bind (wpAny_holding (w.done _ _ _ hst fun h₃ tk₃ k3 => ?_))
  rw [if_neg (by decide)]
  exact wpAny_pure (h _ _ (J.grow (grow_all (tk := tk₃) fun b o e => have hb := fun q => Nat.ne_of_lt (Heap.lt_size e) (List.mem_singleton.mp q); k3 b o hb (k2 b o hb (Heap.get?_push_of_some _ e)))))
theorem Asg.tupL {k : Nat} (h : Asgs W ro sc ts l ρ ρ₁) : Asg W ro sc (.Tuple ts k p) (.lst l) ρ ρ₁ := fun {F σ stk as s u} hs hr I => by
  rw [arm_assign_Tuple]
  refine wpAny_bind (wpAny_standAt ?_)
  unfold unpack
  rw [h.pl, h.len]
  exact wpAny_bind (wpAny_holding (Inv.partsL I fun us s' J => h.wp hs hr J))
theorem Ex.asgComp (hx : stoQ sc x = true) (hsw : swapsWith (.ListComp elt (⟨t, it, ifs, 0⟩ :: rest) csc cp) (some (.Name x xp)) p.line (dEnv sc) = pure true) (hc : compQ sc csc = true) (hp : ∀ g' ∈ (⟨t, it, ifs, 0⟩ : Comprehension) :: rest, Pg g') (h1 : Itm W sc σ ρ t it items)
    (h2 : Turns (TurnOk W (relabelP csc sc) σ (outerP csc ρ) ⟨t, it, ifs, 0⟩ rest elt) items l) (hz : l.length ≤ 1048576) : Ex c W sc (.Assign [.Name x xp] (.ListComp elt (⟨t, it, ifs, 0⟩ :: rest) csc cp) p) ρ σ .next (setP x (.val (.lst l)) ρ) σ := fun {F stk as s} hs hr _ _ I => .of (by
  rw [exec_Assign_Name_used _ _ _ _ (swapsDep hsw hs)]
  refine wpAny_bind (wpAny_standAt (wpAny_bind ?_))
  show wpAny _ F.A (do let _ ← comprehension (.ListComp elt (⟨t, it, ifs, 0⟩ :: rest) csc cp) csc F.env _ (newList []) false (eval it F.env) (some (assign (.Name x xp) F.env))) _ _ s
  refine wpAny_bind (wpAny_mono (comp_core (use := some (assign (.Name x xp) F.env)) (Q := fun _ s' => Inv F (setP x (.val (.lst l)) ρ) σ stk as s') hc hp h1 h2 hz hs I fun v C m s' hm y J => ?_) (fun _ s' q => wpAny_pure (wpAny_pure ⟨rfl, q⟩)) fun _ _ q => q)
  have hk : Kps F fun a o => a = C ∧ s'.heap.get? a = some o := ⟨fun o q => y.L q.1.symm, fun _ x c e1 e2 o q => y.C x c (.inl e1) e2 q.1, fun a o q => q.1 ▸ y.T⟩
  refine wpAny_assign_Name (go ((J.keep hk fun a o q => ⟨q.2, q.1 ▸ y.as⟩).put (F := F.keep hk) (hs ▸ hx) hr) fun _ s₂ J => ?_)
  have hm' : s₂.heap.Ns C m := hm.at fun o e => (J.kept ⟨rfl, e⟩).1
  exact ⟨m, hm', fun h' hs => J.unkeep.shut y hm' hs⟩)
end
end Mine
namespace Mine
set_option genSizeOf false
set_option genInjectivity false
inductive Loop (c : Bool) (W : Ws) (sc : Scope) (t : Expr) (body : List Stmt) : List PV → Loc → Sto → Loc → Sto → Prop
  | nil {ρ : Loc} {σ : Sto} : Loop c W sc t body [] ρ σ ρ σ
  | cons {p : PV} {its : List PV} {ρ ρ₁ ρ₂ ρ' : Loc} {σ σ₂ σ' : Sto} : Asg W false sc t p ρ ρ₁ → Exs c W sc body ρ₁ σ .next ρ₂ σ₂ → Loop c W sc t body its ρ₂ σ₂ ρ' σ' → Loop c W sc t body (p :: its) ρ σ ρ' σ'
inductive While (W : Ws) (sc : Scope) (t : Expr) (body : List Stmt) : Nat → Loc → Sto → Loc → Sto → Prop
  | done {ρ : Loc} {σ : Sto} : Tst W sc σ ρ t false → While W sc t body 0 ρ σ ρ σ
  | turn {n : Nat} {ρ ρ₁ ρ' : Loc} {σ σ₁ σ' : Sto} : Tst W sc σ ρ t true → Exs false W sc body ρ σ .next ρ₁ σ₁ → While W sc t body n ρ₁ σ₁ ρ' σ' → While W sc t body (n + 1) ρ σ ρ' σ'
section
variable {c : Bool} {W : Ws} {G : Fr W} {sc : Scope} {σ σ' : Sto} {ρ ρ' : Loc} {stk : List Pend} {as : Option Addr} {s : Shared} {l items its : List PV} {t it : Expr} {body : List Stmt} {p : Pos} {Ia : Addr} {fp wr Z : List Addr} {us : List Value} {S : Nat → Heap → Prop} {K : Shared → Prop}
theorem for_loop (hs : G.env.scope = sc) (hro : G.ro = false) (hc : c = true → G.Cl) (hk : Calm stk) (IT : Itr W G.A Ia t fp wr Z items us l S) (hw : ∀ b ∈ wr, Wr G as b) (hf : ∀ b ∈ fp, Away G as b) (hZ : ∀ b ∈ Z, G.XK b)
    (hK : ∀ s' h' tk, Inv G ρ' σ' (.row us l :: stk) as s' → S items.length s'.heap → (∀ b o, b ∉ wr → s'.heap.get? b = some o → h'.get? b = some o) → K { s' with heap := h', toks := tk })
    (h : Loop c W sc t body its ρ σ ρ' σ') : ∀ {i : Nat} {s : Shared}, items.drop i = its → i ≤ items.length → S i s.heap → Inv G ρ σ (.row us l :: stk) as s →
      codeX c W.M G.A (.forLoop t (.ref Ia) body [] G.env) (fun r s' => r = .ok .next ∧ K s') s := by
  induction h with
  | nil =>
    intro i s hi hle hS I
    obtain rfl := Nat.le_antisymm hle (List.drop_eq_nil_iff.mp hi)
    refine forStep_X (go (IT.done s (fun s' => K s') hS fun h' tk k => hK s h' tk I hS k) fun r s₁ h => ?_)
    obtain ⟨rfl, h⟩ := h
    exact ⟨rfl, h⟩
  | @cons q its ρ ρ₁ ρ₂ ρ' σ σ₂ σ' ha hb _ ih =>
    intro i s hi hle hS I
    have hip : items[i]? = some q := by rw [← List.head?_drop, hi]; rfl
    refine forStep_X (go (IT.step i q s (G.dat as) (fun v s₂ => wpAny W.M G.A (assign t G.env v) (fun _ s₃ => wpX c W.M G.A (execs body G.env) (fun f s₄ => f = .next ∧ codeX c W.M G.A (.forLoop t (.ref Ia) body [] G.env) (fun r s' => r = .ok .next ∧ K s') s₄) NoE s₃) NoE s₂)
      hip hS I.stk.1 (fun a => I.fresh) (fun b hb q => q.1 (hZ b hb)) fun v h' tk hv hS' k => ?_) fun r s₁ h => ?_)
    · obtain ⟨hf', J⟩ := (I.wrS IT hS hS' hw hZ k (tk := tk)).keepFp hf
      exact go (ha (F := G.keep hf') hs (fun q => hro ▸ q) (J.stk' fun x => ⟨hv, x⟩)) fun _ s₃ J => goX (hb (F := G.keep hf') hs hro (fun e => have x := hc e; ⟨x.frames, x.stat, fun a o q => q.elim (x.kp a o) fun q => (hf a q.1).fr, x.self, x.top⟩) (show Calm (.row us l :: stk) from hk) J) fun f s₄ d =>
        ⟨d.1, ih hK (by rw [← List.tail_drop, hi]; rfl) (List.getElem?_eq_some_iff.mp hip).1 (IT.frame _ _ _ hS' fun b hb o q => (d.2.kept ⟨hb, q⟩).1) d.2.unkeep⟩
    · obtain ⟨v, rfl, h⟩ := h
      exact h
theorem Ex.for_ (h1 : Itm W sc σ ρ t it items) (hp : ∀ env x, foldedSetIterable it env x = pure x) (h2 : Loop c W sc t body items ρ σ ρ' σ') : Ex c W sc (.For t it body [] p) ρ σ .next ρ' σ' := fun {F stk as s} hs hr hc hk I =>
  for_X (go (h1 hs I) fun x s₁ h₁ => go h₁ fun it' s₂ h₂ => by
    cases h₂ with
    | @mk Ia fp wr Z us l S _ J IT hS hw hf =>
      refine codeX_mono (for_loop (G := F.hid fun a => F.XK a ∨ a ∈ Z) (K := fun s' => Inv F ρ' σ' stk as s') hs hr (fun e => have x := hc e; ⟨x.frames, x.stat, x.kp, x.self, x.top⟩) hk IT (fun b hb => (hw b hb).toWr.hid) (fun b hb => have y := (hf b hb).1; ⟨y.L, y.C, y.fr, y.T, y.as⟩) (fun b => .inr) (fun s' h' tk x hS' k => ?_) h2 (i := 0) rfl (Nat.zero_le _) hS J) fun r s' q => ?_
      · exact (Inv.wrX (F := F.hid fun a => F.XK a ∨ a ∈ Z) x IT hS' (fun b hb => (hw b hb).toWr.hid) (fun b => .inr) (X' := F.XK) (fun a => .inl) (fun b hb q => ((hw b hb).X q).elim) k).stk' fun x => x.2
      · obtain ⟨rfl, q⟩ := q
        exact ⟨rfl, q⟩) (hp _)
theorem Ex.while_ {n : Nat} (h : While W sc t body n ρ σ ρ' σ') : Ex false W sc (.While t body [] p) ρ σ .next ρ' σ' := fun {F stk as s} hs hr hc hk I => .of (by
  refine wpAny_While (codeAny_whileLoop (fun m s' => ∃ ρ₁ σ₁, While W sc t body m ρ₁ σ₁ ρ' σ' ∧ Inv F ρ₁ σ₁ stk as s') ?_ n ⟨ρ, σ, h, I⟩)
  rintro m s₁ ⟨ρ₁, σ₁, h1, I₁⟩
  cases h1 with
  | done ht =>
    refine go (ht hs I₁) fun z s₂ d => ?_
    obtain ⟨rfl, J⟩ := d
    exact wpAny_execs_nil ⟨rfl, J⟩
  | turn ht hb hr' =>
    refine go (ht hs I₁) fun z s₂ d => ?_
    obtain ⟨rfl, J⟩ := d
    refine go (wpX.any (hb hs hr hc hk J)) fun f s₃ d => ?_
    obtain ⟨rfl, J⟩ := d
    exact ⟨_, Nat.lt_succ_self _, _, _, hr', J⟩)
end
end Mine
namespace Mine
set_option genSizeOf false
set_option genInjectivity false
theorem Room.less {k j : Nat} {A : Around} (r : Room j A) (h : k ≤ j) : Room k A := ⟨r.handled, Nat.le_trans (Nat.add_le_add_left h _) r.depth, Nat.le_trans (Nat.add_le_add_left (Nat.mul_le_mul_left 50 h) _) r.units⟩
structure Ent (W : Ws) (A : Around) (outer : List Env) (env : Env) (s s₁ : Shared) : Prop where
  room : Room W.k A
  glob : Glob W.B s.heap
  fs : ∀ a ∈ framesOf outer, IsDict s.heap a ∧ W.B.g.get? a = none
  kind : env.scope.kind = .function
  gl : env.globals = mainGlobals
  bu : env.builtins = builtinsNs
  self : env.frame = some env.locals
  new : s.heap.get? env.locals = none
  form : ∃ h tk, s₁ = { s with heap := h, toks := tk }
  keep : ∀ b o, s.heap.get? b = some o → s₁.heap.get? b = some o
  ns : ∃ m, s₁.heap.Ns env.locals m
  cex : ∀ x, Celly env x → ∃ c v, env.cells.lookup x = some c ∧ s₁.heap.IsCell c v ∧ W.B.g.get? c = none
  cndup : ∀ x y c, env.cells.lookup x = some c → env.cells.lookup y = some c → Celly env x → Celly env y → x = y
  cnew : ∀ x c, env.kindOf x = some .cell → env.cells.lookup x = some c → s.heap.get? c = none
section
variable {W : Ws} {A : Around} {outer : List Env} {env : Env} {s s₁ s' : Shared} {as₀ as : Option Addr} {σ₀ σ : Sto} {ρ : Loc} {ok out : Addr → Prop} {r : RV} {p : PV} {v : Value} {a : Addr} {l : List PV} {vs : List Value}
theorem Glob.new {B : Bs} {h : Heap} (G : Glob B h) {a : Addr} (e : h.get? a = none) : B.g.get? a = none := by
  cases q : B.g.get? a with
  | none => rfl
  | some o => rw [G.1 a o q] at e; cases e
noncomputable def Fr.fn (E : Ent W A outer env s s₁) (as₀ : Option Addr) (ok out : Addr → Prop) : Fr W where
  A := A
  env := env
  ro := false
  outer := env :: outer
  Kp a o := s.heap.get? a = some o ∧ a ∉ framesOf outer ∧ ¬ W.B.T a ∧ as₀ ≠ some a
  KF a o := s.heap.get? a = some o ∧ a ∈ framesOf outer
  XK a := IsSeq s.heap a ∧ W.B.g.get? a = none ∧ ¬ ok a ∧ ¬ out a ∧ as₀ ≠ some a
  s₀ := s
  room := E.room
  kind := E.kind
  gl := E.gl
  bu := E.bu
  newL := E.glob.new E.new
  cndup := E.cndup
  kpL o := ⟨fun q => (by rw [E.new] at q; cases q.1), fun q => by rw [E.new] at q; cases q.1⟩
  kpC _ x c e1 e2 o := have z := E.cnew x c e1 e2; ⟨fun q => (by rw [z] at q; cases q.1), fun q => by rw [z] at q; cases q.1⟩
  kpF _ _ q := q.2.2.1
  kfT a o q := (E.fs a q.2).1.elim fun o' z => z.elim fun es z => z.elim fun n z => have e := Option.some.inj (z.1.symm.trans q.1); ⟨E.glob.noT W.O q.1 fun vs d => (by rw [← e, z.2] at d; cases d), es, n, e ▸ z.2⟩
theorem Inv.fn (E : Ent W A outer env s s₁) (hx : ∀ a, as₀ = some a → IsSeq s.heap a ∧ W.B.g.get? a = none) (hn : ∀ x r, ρ.lookup x = some r → ∃ v, Look env s₁.heap x v ∧ RRel as₀ ((Fr.fn E as₀ ok out).dat as₀) s₁.heap v r) (ho : OwnOk ((Fr.fn E as₀ ok out).dat as₀) s₁.heap σ₀ as₀) : Inv (Fr.fn E as₀ ok out) ρ σ₀ [] as₀ s₁ where
  rest := E.form
  glob := ⟨fun b o e => E.keep b o (E.glob.1 b o e), W.O.tiW (fun _ => False) _ _ (fun _ _ q => q.elim) (fun a o _ e => E.keep a o e) E.glob.2⟩
  fs a ha := by
    have ha : a ∈ framesOf (env :: outer) := ha
    unfold framesOf at ha
    rw [List.filterMap_cons, E.self] at ha
    rcases List.mem_cons.mp ha with rfl | ha
    · exact ⟨E.ns.elim fun m y => Ns.dict y, E.glob.new E.new⟩
    · exact ⟨(E.fs a ha).1.elim fun o z => z.elim fun es z => z.elim fun n z => ⟨o, es, n, E.keep a o z.1, z.2⟩, (E.fs a ha).2⟩
  kf a o q := ⟨o.slots, E.keep a o q.1⟩
  kp a o q := E.keep a o q.1
  xk a q := by
    have z : IsSeq s.heap a ∧ W.B.g.get? a = none := by
      by_cases h : as₀ = some a
      · exact hx a h
      · have := Classical.byContradiction fun z => q ⟨z, h⟩
        exact ⟨this.1, this.2.1⟩
    exact ⟨z.1.elim fun o w => w.elim fun xs w => w.elim fun n w => ⟨o, xs, n, E.keep a o w.1, w.2⟩, z.2⟩
  ns := E.ns
  names := hn
  cex := E.cex
  asX a e := ⟨fun q => q.2.2.2.2 e, fun o q => q.2.2.2 e⟩
  own := ho
  stk := ⟨⟩
noncomputable abbrev Bk (W : Ws) (ok : Addr → Prop) (s : Shared) (a : Addr) : Prop := ok a ∨ s.heap.get? a = none ∨ W.B.g.get? a ≠ none
theorem Inv.frames (E : Ent W A outer env s s₁) {stk : List Pend} (J : Inv (Fr.fn E as₀ ok out) ρ σ stk as s') (has : as₀ = none) : GrowS W.B (framesOf outer) s s' := by
  obtain ⟨h, tk, rfl⟩ := J.rest
  exact ⟨h, tk, rfl, fun a o q1 q2 e => J.kp a o ⟨e, q1, q2, by rw [has]; exact nofun⟩, fun a q o e => J.kf a o ⟨e, q⟩, fun _ => J.glob.2⟩
theorem Inv.stayed (E : Ent W A outer env s s₁) {stk : List Pend} (J : Inv (Fr.fn E none ok out) ρ σ stk as s') {o o' : Obj} {xs : Array Value} {n : Nat} (e : s'.heap.get? a = some o) (d : o.data = .seq xs n) (e' : s.heap.get? a = some o') : (Fr.fn E none ok out).Kp a o := by
  by_cases h1 : a ∈ framesOf outer
  · obtain ⟨sl, z⟩ := J.kf a o' ⟨e', h1⟩
    obtain ⟨o2, es, m, w, d'⟩ := (E.fs a h1).1
    obtain rfl := Option.some.inj (w.symm.trans e')
    obtain rfl := Option.some.inj (z.symm.trans e)
    rw [show Obj.data { o2 with slots := sl } = o2.data from rfl, d'] at d; cases d
  · have q : (Fr.fn E none ok out).Kp a o' := ⟨e', h1, J.glob.noT W.O e fun vs q => (by rw [d] at q; cases q), nofun⟩
    exact Option.some.inj ((J.kp a o' q).symm.trans e) ▸ q
theorem Inv.back (E : Ent W A outer env s s₁) {stk : List Pend} (J : Inv (Fr.fn E none ok out) ρ σ stk as s') {o : Obj} {xs : Array Value} {n : Nat} (e : s'.heap.get? a = some o) (d : o.data = .seq xs n) (q : (Fr.fn E none ok out).dat as a) : Bk W ok s a ∨ (out a ∧ s.heap.get? a = some o) := by
  cases e' : s.heap.get? a with
  | none => exact .inl (.inr (.inl e'))
  | some o' =>
    have z := (J.stayed E e d e').1
    rw [e'] at z
    by_cases g : W.B.g.get? a = none
    · exact Classical.byContradiction fun w => q.1 ⟨⟨o, xs, n, e'.trans z, d⟩, g, fun t => w (.inl (.inl t)), fun t => w (.inr ⟨t, z⟩), nofun⟩
    · exact .inl (.inr (.inr g))
noncomputable def scal : PV → Bool
  | .tup _ => false
  | .lst _ => false
  | _ => true
noncomputable def flat : PV → Bool
  | .tup l => l.all scal
  | .lst _ => false
  | _ => true
theorem Rel.scal {ok' : Addr → Prop} {h h' : Heap} (x : Rel ok h v p) (e : scal p = true) : Rel ok' h' v p := by
  cases x <;> first | exact Bool.noConfusion e | constructor
theorem Rels.scal {ok' : Addr → Prop} {h h' : Heap} (x : Rels ok h vs l) : l.all scal = true → Rels ok' h' vs l :=
  x.ind (P := fun vs l => l.all Mine.scal = true → Rels ok' h' vs l) (fun _ => .nil) fun a _ c e => have e := Bool.and_eq_true_iff.mp e; .cons (a.scal e.1) (c e.2)
theorem Rel.flat {ok' : Addr → Prop} {h : Heap} (k : ∀ a xs, h.IsTuple a xs → ok a → ok' a) (x : Rel ok h v p) (e : flat p = true) : Rel ok' h v p := by
  cases p with
  | tup l => obtain ⟨a, vs, rfl, q, ht, r⟩ := x.tup'; exact .tup (k a _ ht q) ht (r.scal e)
  | lst l => cases e
  | _ => exact x.scal rfl
theorem Rels.flat {ok' : Addr → Prop} {h : Heap} (k : ∀ a xs, h.IsTuple a xs → ok a → ok' a) (x : Rels ok h vs l) : l.all flat = true → Rels ok' h vs l :=
  x.ind (P := fun vs l => l.all Mine.flat = true → Rels ok' h vs l) (fun _ => .nil) fun a _ c e => have e := Bool.and_eq_true_iff.mp e; .cons (a.flat k e.1) (c e.2)
noncomputable def Hands (r : RV) (σ : Sto) (p : PV) : Prop := r = .val p ∨ ∃ l, r = .own ∧ σ = some l ∧ p = .lst l
theorem Inv.handed (E : Ent W A outer env s s₁) {stk : List Pend} (J : Inv (Fr.fn E none ok out) ρ σ (.one v r :: stk) as s') (hr : Hands r σ p) (hb : (∀ a, ¬ out a) ∨ ((∀ a, out a → ∃ xs, s.heap.IsList a xs) ∧ ((r = .val p ∧ flat p = true) ∨ ∃ l, p = .lst l ∧ l.all flat = true ∧ r = .own))) : Rel (Bk W ok s) s'.heap v p := by
  have kt : (∀ a, out a → ∃ xs, s.heap.IsList a xs) → ∀ a xs, s'.heap.IsTuple a xs → (Fr.fn E none ok out).dat as a → Bk W ok s a := fun hl a xs ht q => by
    obtain ⟨o, e, ec, n, d⟩ := ht
    rcases J.back E e d q with z | ⟨z, e'⟩
    · exact z
    · obtain ⟨ys, o', e2, ec', _⟩ := hl a z
      obtain rfl := Option.some.inj (e'.symm.trans e2)
      rw [ec] at ec'
      exact absurd (Value.type.inj ec') (by decide)
  have sk : (∀ a, ¬ out a) → Sk ((Fr.fn E none ok out).dat as) (Bk W ok s) s'.heap s'.heap := fun hn a o xs n e d q => ⟨e, (J.back E e d q).elim id fun z => (hn a z.1).elim⟩
  rcases hr with rfl | ⟨l, rfl, rfl, rfl⟩
  · rcases hb with hb | ⟨h1, ⟨_, h2⟩ | ⟨_, _, _, h2⟩⟩
    · exact Rel.step (sk hb) J.stk.1
    · exact Rel.flat (kt h1) J.stk.1 h2
    · cases h2
  · obtain ⟨a, e1, rfl⟩ := J.stk.1
    obtain ⟨a', vs, n, e2, e3, rr⟩ := J.own.2 l rfl
    obtain rfl := Option.some.inj (e1.symm.trans e2)
    have hn : s.heap.get? a = none := by
      cases e' : s.heap.get? a with
      | none => rfl
      | some o' => exact ((J.asX a e1).2 _ (J.stayed E e3 rfl e')).elim
    refine .lst (.inr (.inl hn)) ⟨_, e3, rfl, n, rfl⟩ ?_
    rcases hb with hb | ⟨h1, ⟨h2, _⟩ | ⟨l', h2, h3, _⟩⟩
    · exact rr.step (sk hb)
    · cases h2
    · injection h2 with h2
      subst h2
      exact rr.flat (kt h1) h3
end
end Mine
namespace Mine
set_option genSizeOf false
set_option genInjectivity false
section
variable {kd : Str → Option NameKind} {ok : Addr → Prop} {h : Heap}
theorem bind_out : ∀ {names : List Str} {vals : List Value} {m cm : Str → Option Value} {x : Str}, x ∉ names → bindL kd (names.zip vals) m x = m x ∧ bindC kd (names.zip vals) cm x = cm x
  | [], _, _, _, _, _ => ⟨rfl, rfl⟩
  | _ :: _, [], _, _, _, _ => ⟨rfl, rfl⟩
  | n :: ns, v :: vs, m, cm, x, hx => by
    have hx := fun q => hx (List.mem_cons.mpr q)
    rw [List.zip_cons_cons, bindL, bindC, (bind_out (cm := cm) fun q => hx (.inr q)).1, (bind_out (m := m) fun q => hx (.inr q)).2]
    exact ⟨by split <;> first | rfl | exact if_neg fun q => hx (.inl q), by split <;> first | rfl | exact if_neg fun q => hx (.inl q)⟩
theorem bind_in {ps : List PV} {vals : List Value} (hr : Rels ok h vals ps) : ∀ {names : List Str} {m cm : Str → Option Value} {x : Str} {r : RV}, names.Nodup → (names.zip (ps.map RV.val)).lookup x = some r →
    ∃ v p, r = .val p ∧ Rel ok h v p ∧ (kd x = some .local → bindL kd (names.zip vals) m x = some v) ∧ (kd x ≠ some .local → bindC kd (names.zip vals) cm x = some v) :=
  hr.ind (P := fun vals ps => ∀ {names : List Str} {m cm : Str → Option Value} {x : Str} {r : RV}, names.Nodup → (names.zip (ps.map RV.val)).lookup x = some r →
    ∃ v p, r = .val p ∧ Rel ok h v p ∧ (kd x = some .local → bindL kd (names.zip vals) m x = some v) ∧ (kd x ≠ some .local → bindC kd (names.zip vals) cm x = some v))
  (fun {names _ _ _ _} _ e => by rw [List.map_nil, List.zip_nil_right] at e; cases e) fun {v vs p l} a _ ih {names m cm x r} hn e => by
    cases names with
    | nil => cases e
    | cons n ns =>
      rw [List.map_cons, List.zip_cons_cons, List.lookup_cons] at e
      rw [List.zip_cons_cons, bindL, bindC]
      have hn := List.nodup_cons.mp hn
      cases hx : x == n with
      | true =>
        rw [hx] at e
        obtain rfl := Option.some.inj e
        obtain rfl := eq_of_beq hx
        refine ⟨v, p, rfl, a, fun k => ?_, fun k => ?_⟩
        · rw [(bind_out (cm := cm) hn.1).1, if_pos k, if_pos rfl]
        · rw [(bind_out (m := m) hn.1).2, if_neg k, if_pos rfl]
      | false => rw [hx] at e; exact ih hn.2 e
theorem cells_some : ∀ {names : List (Str × NameKind)} {n : Nat} {acc : List (Str × Addr)} {x : Str}, ((x, NameKind.cell) ∈ names ∨ ∃ c, acc.lookup x = some c) → ∃ c, (cellsFrom n names acc).lookup x = some c
  | [], n, acc, x, hx => hx.resolve_left List.not_mem_nil
  | (y, kind) :: r, n, acc, x, hx => by
    unfold cellsFrom
    split
    · refine cells_some (hx.elim (fun q => (List.mem_cons.mp q).elim (fun q => .inr ?_) .inl) fun q => .inr ?_)
      · obtain ⟨rfl, _⟩ := Prod.mk.inj q
        exact ⟨n, by rw [List.lookup_cons, beq_self_eq_true]⟩
      · rw [List.lookup_cons]
        cases x == y
        · exact q
        · exact ⟨n, rfl⟩
    · rename_i hk
      refine cells_some (hx.imp (fun q => (List.mem_cons.mp q).resolve_left fun q => ?_) id)
      obtain ⟨_, rfl⟩ := Prod.mk.inj q
      exact hk (beq_self_eq_true _)
end
structure FnOk (B : Bs) (a : Addr) (fd : FuncData) (names : List Str) (body : List Stmt) : Prop where
  obj : ∃ o, B.g.get? a = some o ∧ o.data = .func fd
  hbody : fd.body = .stmts body
  clo : fd.closure = []
  gl : fd.globals = mainGlobals
  bu : fd.builtins = builtinsNs
  code : ∀ h, Glob B h → h.CodeRec fd.code fd.qualname
  co : fd.scope.isCoroutine = false
  gen : fd.scope.isGenerator = false
  kind : fd.scope.kind = .function
  nofree : ∀ x ∈ fd.scope.names, x.2 ≠ .free
  nodup : names.Nodup
  kinds : ∀ x ∈ names, fd.scope.names.lookup x = some .local ∨ fd.scope.names.lookup x = some .cell
section
variable {c : Bool} {W : Ws} {A : Around} {outer : List Env} {s s₁ : Shared} {a : Addr} {fd : FuncData} {names : List Str} {body : List Stmt} {vals : List Value} {ps : List PV} {ok out : Addr → Prop}
theorem FnOk.ent (f : FnOk W.B a fd names body) (R : Room W.k A) (G : Glob W.B s.heap) (hfs : ∀ a ∈ framesOf outer, IsDict s.heap a ∧ W.B.g.get? a = none)
    (x : InCallC s (callEnvC fd s.heap.objs.size a).locals (bindL (callEnvC fd s.heap.objs.size a).kindOf (names.zip vals) fun _ => none) (callEnvC fd s.heap.objs.size a).cells (bindC (callEnvC fd s.heap.objs.size a).kindOf (names.zip vals) fun _ => none) s₁) :
    Ent W A outer (callEnvC fd s.heap.objs.size a) s s₁ where
  room := R
  glob := G
  fs := hfs
  kind := f.kind
  gl := f.gl
  bu := f.bu
  self := rfl
  new := get_new (Nat.le_refl _)
  form := x.toInCall.same
  keep := x.toInCall.keep
  ns := ⟨_, x.toInCall.ns⟩
  cex y e := by
    rcases e with e | e
    · obtain ⟨c, hc⟩ := cells_some (n := s.heap.objs.size + 1) (acc := []) (.inl (mem_of_look (e : fd.scope.names.lookup y = some .cell)))
      exact ⟨c, _, hc, x.cell y c hc, G.new (get_new (Nat.le_of_lt (x.above y c (mem_of_look hc))))⟩
    · exact (f.nofree _ (mem_of_look (e : fd.scope.names.lookup y = some .free)) rfl).elim
  cndup y z c e1 e2 _ _ := name_of_addr x.apart (mem_of_look e1) (mem_of_look e2)
  cnew y c _ e := get_new (Nat.le_of_lt (x.above y c (mem_of_look e)))
theorem FnOk.look (f : FnOk W.B a fd names body) (x : InCallC s (callEnvC fd s.heap.objs.size a).locals (bindL (callEnvC fd s.heap.objs.size a).kindOf (names.zip vals) fun _ => none) (callEnvC fd s.heap.objs.size a).cells (bindC (callEnvC fd s.heap.objs.size a).kindOf (names.zip vals) fun _ => none) s₁)
    (r : Rels ok s₁.heap vals ps) {y : Str} {q : RV} (e : (names.zip (ps.map RV.val)).lookup y = some q) : ∃ v, Look (callEnvC fd s.heap.objs.size a) s₁.heap y v ∧ RRel none ok s₁.heap v q := by
  obtain ⟨v, p, rfl, rv, h1, h2⟩ := bind_in (kd := (callEnvC fd s.heap.objs.size a).kindOf) (m := fun _ => none) (cm := fun _ => none) r f.nodup e
  refine ⟨v, ⟨fun k => ⟨_, x.toInCall.ns, h1 k⟩, fun k => ?_⟩, rv⟩
  rcases k with k | k
  · obtain ⟨c, hc⟩ := cells_some (n := s.heap.objs.size + 1) (acc := []) (.inl (mem_of_look (k : fd.scope.names.lookup y = some .cell)))
    exact ⟨c, hc, h2 (by rw [k]; nofun) ▸ x.cell y c hc⟩
  · exact (f.nofree _ (mem_of_look (k : fd.scope.names.lookup y = some .free)) rfl).elim
end
end Mine
namespace Mine
set_option genSizeOf false
set_option genInjectivity false
noncomputable def Spc (c : Bool) (W : Ws) (n : Addr) (ps : List PV) (r : PV) : Prop :=
  ∀ {A : Around} {outer : List Env} {s : Shared} {vs : List Value} {ok : Addr → Prop}, Room W.k A → (c = true → A.frames = some outer ∧ FrStat outer) → Glob W.B s.heap → (∀ a ∈ framesOf outer, IsDict s.heap a ∧ W.B.g.get? a = none) → Rels0 ok s.heap vs ps →
    codeX c W.M A (.call (.ref n) ⟨vs, []⟩) (fun res s' => ∃ v, res = .ok (.ret v) ∧ Rel (Bk W ok s) s'.heap v r ∧ GrowS W.B (framesOf outer) s s') s
noncomputable def isLst : PV → Bool
  | .lst _ => true
  | _ => false
noncomputable def backQ (ps : List PV) (r : RV) (p : PV) : Bool := (ps.all fun q => !isLst q) || (match r with | .val _ => flat p | _ => match p with | .lst l => l.all flat | _ => false)
section
variable {ok out : Addr → Prop} {h : Heap} {vs : List Value} {ps : List PV}
theorem Rels0.ind {P : List Value → List PV → Prop} (h0 : P [] []) (hc : ∀ {v vs p l}, Rel0 ok h v p → Rels0 ok h vs l → P vs l → P (v :: vs) (p :: l)) (r : Rels0 ok h vs ps) : P vs ps := Rels0.rec h0 hc r
theorem Rels0.length (r : Rels0 ok h vs ps) : vs.length = ps.length := r.ind (P := fun vs ps => vs.length = ps.length) rfl fun _ _ e => congrArg (· + 1) e
theorem Rels0.tight (r : Rels0 ok h vs ps) : (ps.all fun q => !isLst q) = true → Rels ok h vs ps :=
  r.ind (P := fun vs ps => (ps.all fun q => !isLst q) = true → Rels ok h vs ps) (fun _ => .nil) fun {v vs p l} a _ c e => have e := Bool.and_eq_true_iff.mp e; .cons (by cases p <;> first | exact Bool.noConfusion e.1 | exact a) (c e.2)
theorem Rels0.loose (r : Rels0 ok h vs ps) (k : ∀ a, ok a → out a) (k2 : ∀ a xs, h.IsList a xs → out a) : Rels out h vs ps :=
  r.ind (P := fun vs ps => Rels out h vs ps) .nil fun {v vs p l} a _ c => .cons (by
    cases p with
    | lst l => obtain ⟨b, us, rfl, hl, q⟩ := a; exact .lst (k2 b _ hl) hl (q.weak k)
    | _ => exact Rel.weak a k) c
end
section
variable {c : Bool} {W : Ws} {A : Around} {outer : List Env} {s s₁ : Shared} {a n : Addr} {fd : FuncData} {names : List Str} {body : List Stmt} {vals dv : List Value} {ps dps : List PV} {p : PV} {r : RV} {σ' : Sto}
theorem outs_ok {ok : Addr → Prop} {vs : List Value} (hr : Rels0 ok s.heap vs ps) (hk : backQ ps r p = true) (hh : Hands r σ' p) : ∃ out : Addr → Prop, Rels (fun a => ok a ∨ out a) s.heap vs ps ∧ ((∀ a, ¬ out a) ∨ ((∀ a, out a → ∃ xs, s.heap.IsList a xs) ∧ ((r = .val p ∧ flat p = true) ∨ ∃ l, p = .lst l ∧ l.all flat = true ∧ r = .own))) := by
  rcases Bool.or_eq_true_iff.mp hk with h | h
  · exact ⟨fun _ => False, (hr.tight h).weak fun _ => .inl, .inl fun _ => id⟩
  · refine ⟨fun a => ∃ xs, s.heap.IsList a xs, hr.loose (fun _ => .inl) fun a xs q => .inr ⟨xs, q⟩, .inr ⟨fun _ => id, ?_⟩⟩
    rcases hh with rfl | ⟨l, rfl, _, rfl⟩
    · exact .inl ⟨rfl, h⟩
    · exact .inr ⟨l, rfl, h, rfl⟩
theorem FnOk.spcE (f : FnOk W.B a fd names body) (hdv : Rels (fun _ => False) W.B.g dv dps)
    (hbind : ∀ {A : Around} {s : Shared} {vals : List Value} {Q : List (Str × Value) → Shared → Prop} {E : Value → Shared → Prop}, Glob W.B s.heap → vals.length = ps.length → Q (names.zip (vals ++ dv)) s → wpAny W.M A (bindArgs fd ⟨vals, []⟩) Q E s)
    (hb : ∀ {F : Fr W} {s₀ : Shared} (L : Addr), F.env = callEnvC fd L a → F.ro = false → (c = true → F.Cl) → Inv F (names.zip ((ps ++ dps).map RV.val)) none [] none s₀ → wpX c W.M F.A (execs body F.env) (fun f s => ∃ v as ρ', f = .ret v ∧ Inv F ρ' σ' [.one v r] as s) NoE s₀) (hh : Hands r σ' p) (hk : backQ ps r p = true) : Spc c { W with k := W.k + 1 } a ps p := by
  intro A outer s vs ok R hA G hfs hr
  obtain ⟨ob, hob, hd⟩ := f.obj
  obtain ⟨out, h1, h2⟩ := outs_ok hr hk hh
  refine call_X (Nat.lt_of_le_of_lt (Nat.le_trans (Nat.le_add_right _ _) R.depth) (by decide)) (G.1 _ _ hob) hd f.co f.gen f.hbody (f.code _ G) (hbind G hr.length ?_)
  rw [f.clo]
  refine wpAny_newFunctionEnv_cells f.kind (fun x hx => (f.kinds x.1 (List.of_mem_zip hx).1).imp id fun q => ⟨q, (cells_some (.inl (mem_of_look q))).elim fun c e => by rw [e]; rfl⟩) fun env he s₁ x => ?_
  obtain rfl : env = callEnvC fd s.heap.objs.size a := he
  have E := f.ent (outer := outer) (R.deeper (callEnvC fd s.heap.objs.size a)) G hfs x
  refine ⟨W.O.nolim.keeps fun b o e => x.toInCall.keep b o (G.1 b o e), ?_⟩
  have rall : Rels ((Fr.fn E none ok out).dat none) s₁.heap (vs ++ dv) (ps ++ dps) := (h1.append (hdv.step fun _ _ _ _ e _ q => q.elim)).step fun a o _ _ e _ q => ⟨x.toInCall.keep a o e, ⟨fun z => q.elim z.2.2.1 z.2.2.2.1, nofun⟩⟩
  refine goX (hb (F := Fr.fn E none ok out) _ rfl rfl (fun e => ⟨?_, fun e' he => ?_, fun b o q z => ?_, rfl, _, rfl⟩) (Inv.fn E nofun (fun y q e => f.look x rall e) ⟨fun _ => rfl, nofun⟩)) fun fl s' d => ?_
  · show A.frames.map _ = _
    rw [(hA e).1]; rfl
  · rcases List.mem_cons.mp he with rfl | he
    · exact ⟨by show fd.scope.kind ≠ _; rw [f.kind]; decide, _, rfl⟩
    · exact (hA e).2 e' he
  · rcases List.mem_cons.mp z with rfl | z
    · exact absurd q.1 (by rw [get_new (Nat.le_refl _)]; nofun)
    · exact q.2.1 z
  · obtain ⟨v, as, ρ', rfl, J⟩ := d
    exact ⟨v, rfl, Inv.handed (W := W) E J hh h2, Inv.frames (W := W) E J rfl⟩
theorem FnOk.spc (f : FnOk W.B a fd names body) (hdv : Rels (fun _ => False) W.B.g dv dps)
    (hbind : ∀ {A : Around} {s : Shared} {vals : List Value} {Q : List (Str × Value) → Shared → Prop} {E : Value → Shared → Prop}, Glob W.B s.heap → vals.length = ps.length → Q (names.zip (vals ++ dv)) s → wpAny W.M A (bindArgs fd ⟨vals, []⟩) Q E s)
    (hb : Bd c W fd.scope body (names.zip ((ps ++ dps).map RV.val)) r σ') (hh : Hands r σ' p) (hk : backQ ps r p = true) : Spc c { W with k := W.k + 1 } a ps p :=
  f.spcE hdv hbind (fun _ he => hb (he ▸ rfl)) hh hk
theorem Spc.up {k : Nat} (h : Spc c W n ps p) (hk : W.k ≤ k) : Spc c { W with k := k } n ps p := fun R => h (R.less hk)
theorem Inv.growS {F : Fr W} {ρ : Loc} {σ : Sto} {stk : List Pend} {as : Option Addr} {s' : Shared} (I : Inv F ρ σ stk as s) (hF : F.Cl) (G : GrowS W.B (framesOf F.outer) s s') : Inv F ρ σ stk as s' := by
  obtain ⟨h, tk, rfl, k1, k2, t⟩ := G
  have nf : ∀ {a o}, s.heap.get? a = some o → (∀ es n, o.data ≠ .dict es n) → a ∉ framesOf F.outer := fun e d q => (I.fs _ q).1.ne e d rfl
  have kd : ∀ a ∈ framesOf F.outer, IsDict h a := fun a q => (I.fs a q).1.elim fun o z => z.elim fun es z => z.elim fun n z => (k2 a q o z.1).elim fun sl w => ⟨_, es, n, w, z.2⟩
  have kL : ∀ o, s.heap.get? F.env.locals = some o → ∃ sl, h.get? F.env.locals = some { o with slots := sl } := fun o e => (Classical.em (F.env.locals ∈ framesOf F.outer)).elim (fun q => k2 _ q o e) fun q => ⟨o.slots, k1 _ o q I.LT e⟩
  have kC : ∀ {c v}, s.heap.IsCell c v → h.IsCell c v := fun x => x.elim fun o y => ⟨o, k1 _ o (nf y.1 fun es n q => by rw [y.2] at q; cases q) (cellT W.O I.glob x) y.1, y.2⟩
  refine I.chg (P := (· ∈ framesOf F.outer)) (X' := F.XK) (fun _ => .inl) (fun a o => k1 a o) (t I.glob.2) (fun a q => ⟨(I.fs a q).2, fun o z => hF.kp a o z q, fun z => ?_⟩) (fun a q o xs n e d => (nf e (fun es n q => by rw [d] at q; cases q) q).elim) (fun a q _ => kd a q) (fun a o q z => ?_)
    (I.ns.elim fun m y => ⟨m, Ns.slots y kL⟩) (fun sk x r e => ?_) fun x c v _ _ y => ⟨v, kC y⟩
  · exact (I.xk a fun w => w.2 z).1.elim fun o w => w.elim fun xs w => w.elim fun n w => nf w.1 (fun es n q => by rw [w.2] at q; cases q) q
  · obtain ⟨sl, e⟩ := I.kf a o z
    obtain ⟨sl', e'⟩ := k2 a q _ e
    exact ⟨sl', e'⟩
  · obtain ⟨v, y, rr⟩ := I.names x r e
    exact ⟨v, ⟨fun q => (y.1 q).elim fun m z => ⟨m, Ns.slots z.1 kL, z.2⟩, fun q => (y.2 q).elim fun c z => ⟨c, z.1, kC z.2⟩⟩, rr.step sk fun a e => ⟨e, fun o eo => (I.xk a fun w => w.2 e).1.elim fun o' w => w.elim fun xs w => w.elim fun n w => k1 a o (nf w.1 fun es n q => by rw [w.2] at q; cases q) (I.seqT w.1 w.2) eo⟩⟩
end
section
variable {c : Bool} {W : Ws} {sc : Scope} {σ : Sto} {ρ : Loc} {es : List Expr} {ps : List PV} {v : PV} {x : Str} {xp pos : Pos} {n : Addr}
theorem Inv.outS {F : Fr W} {stk : List Pend} {as : Option Addr} {s s' : Shared} {u : Value} (I : Inv F ρ σ stk as s) (J : Inv F ρ σ stk as s') (h : Rel (Bk W (F.dat as) s) s'.heap u v) : Inv F ρ σ (.one u (.val v) :: stk) as s' :=
  { J with stk := ⟨h.weak fun a q => q.elim id fun q => q.elim I.fresh fun q => Classical.byContradiction fun z => q (I.xk a z).2, J.stk⟩ }
theorem EvX.call (hx : gloQ sc x = true) (hg : GlobV W x (.obj n)) (hf : ∃ o fd, W.B.g.get? n = some o ∧ o.data = .func fd) (h : Ars W sc σ ρ es ps) (hc : Spc c W n ps v) : EvX c W sc (.Call (.Name x xp) es [] pos) σ ρ (.val v) := fun {F stk as s} hs hF I =>
  evalCall_X (I.loadG (hs ▸ hx) hg fun fv rf => by
    obtain rfl := Rel.obj' (rf (ok := fun _ => True))
    obtain ⟨o, fd, ho, hd⟩ := hf
    refine callWith_X (o := o) (fd := fd) (h.pl _ pos) (evalArgs_any (h.pl _ pos) (go (h.wp pos hs I) fun vs s₂ I => ⟨⟨I.glob.1 _ _ ho, hd⟩, wpX_call ?_⟩))
    have I' := I.stk' (stk' := stk) fun k => k.2
    cases c with
    | false =>
      refine codeX_mono (hc (outer := []) F.room nofun I.glob nofun I.stk.1.rd0) fun res s₃ q => ?_
      obtain ⟨u, rfl, rv, G⟩ := q
      exact I'.outS (I'.grow (G.grow W.O I.LT)) rv
    | true =>
      refine codeX_mono (hc (outer := F.outer) F.room (fun _ => ⟨(hF rfl).frames, (hF rfl).stat⟩) I.glob I.fs I.stk.1.rd0) fun res s₃ q => ?_
      obtain ⟨u, rfl, rv, G⟩ := q
      exact I'.outS (I'.growS (hF rfl) G) rv)
theorem Ev.callF (hx : gloQ sc x = true) (hg : GlobV W x (.obj n)) (hf : ∃ o fd, W.B.g.get? n = some o ∧ o.data = .func fd) (h : Ars W sc σ ρ es ps) (hc : Spc false W n ps v) : Vl W sc σ ρ (.Call (.Name x xp) es [] pos) v := fun hs I => (EvX.call hx hg hf h hc hs nofun I).any
end
end Mine
namespace Mine
set_option genSizeOf false
set_option genInjectivity false
structure Vc {α : Type} (J : α → Prop) where
  val : α
  ob : Bool
  ok : ob = true → J val
noncomputable abbrev Vc.no {α : Type} {J : α → Prop} (a : α) : Vc J := ⟨a, false, nofun⟩
theorem Vc.use {α : Type} {J : α → Prop} (x : Vc J) {a : α} (h : x.val = a) (h2 : x.ob = true) : J a := h ▸ x.ok h2
noncomputable def small (i : Int) : Bool := decide (i.natAbs < 2 ^ 64)
section
variable {W : Ws} {f : Value → Value → Sem Value} {g : Value → Sem Value} {i j : Int} {x y : Str} {p q r : PV} {b d : Array UInt8} {l m : List PV} {A : Around} {L : Addr} {s : Shared} {ok : Addr → Prop} {v u : Value}
theorem growT {tk : Nat} : Grow W.B L s { s with toks := tk } := ⟨s.heap, tk, rfl, fun _ _ _ _ e => e, fun _ y => y, id⟩
theorem outV {tk : Nat} (h : ∀ {ok h}, Rel ok h v r) : Out W ok L s r v { s with toks := tk } := ⟨h, growT⟩
theorem op2I (h : ∀ {A : Around} {s : Shared} {t u : Tok} {Q : Value → Shared → Prop}, (∀ v tk, (∀ {ok h}, Rel ok h v r) → Q v { s with toks := tk }) → wpAny W.M A (f (.int i t) (.int j u)) Q NoE s) : Op2 W f (.int i) (.int j) r := fun C ra rb => by
  obtain ⟨t, rfl⟩ := Rel.int' ra
  obtain ⟨u, rfl⟩ := Rel.int' rb
  exact h fun v tk hv => outV hv
theorem op1I (h : ∀ {A : Around} {s : Shared} {t : Tok} {Q : Value → Shared → Prop}, (∀ v tk, (∀ {ok h}, Rel ok h v r) → Q v { s with toks := tk }) → wpAny W.M A (g (.int i t)) Q NoE s) : Op1 W g (.int i) r := fun C ra => by
  obtain ⟨t, rfl⟩ := Rel.int' ra
  exact h fun v tk hv => outV hv
theorem small_mul (h : small i = true) : IntMulOk i j := IntMulOk.of_left (intBits_le (of_decide_eq_true h))
theorem pow_ok (h : (decide (0 ≤ j) && decide (j ≤ 1000) && small i) = true) : 0 ≤ j ∧ j ≤ 1000000 ∧ i.natAbs < 2 ^ 64 :=
  have h := Bool.and_eq_true_iff.mp h
  have k := Bool.and_eq_true_iff.mp h.1
  ⟨of_decide_eq_true k.1, Int.le_trans (of_decide_eq_true k.2) (by decide), of_decide_eq_true h.2⟩
theorem nz (h : (!decide (j = 0)) = true) : j ≠ 0 := of_decide_eq_false (Bool.not_eq_true' _ ▸ h)
variable (W i j) in
noncomputable def binII (op : Operator) : Vc (Op2 W (binaryOp op) (.int i) (.int j)) := match op with
  | .Add => ⟨.int (i + j), true, fun _ => op2I fun h => P.add_int (h _ _ (.int _ _))⟩
  | .Sub => ⟨.int (i - j), true, fun _ => op2I fun h => P.sub_int (h _ _ (.int _ _))⟩
  | .Mult => ⟨.int (i * j), small i, fun k => op2I fun h => P.mul_int (h _ _ (.int _ _)) (small_mul k)⟩
  | .FloorDiv => ⟨.int (i.fdiv j), !decide (j = 0) && decide (j.natAbs < 2 ^ 30), fun k => op2I fun h => floordiv_int (nz (Bool.and_eq_true_iff.mp k).1) (h _ _ (.int _ _)) (.inl (PyProof.noPylong_small (of_decide_eq_true (Bool.and_eq_true_iff.mp k).2)))⟩
  | .Mod => ⟨.int (i.fmod j), !decide (j = 0), fun k => op2I fun h => mod_int' (nz k) (h _ _ (.int _ _))⟩
  | .Pow => ⟨.int (i ^ j.toNat), decide (0 ≤ j) && decide (j ≤ 1000) && small i, fun k => op2I fun h => pow_int_small (pow_ok k).1 (pow_ok k).2.1 (pow_ok k).2.2 (h _ _ (.int _ _))⟩
  | .LShift => ⟨.int (i * 2 ^ j.toNat), decide (0 ≤ j) && decide (j ≤ 1000) && small i, fun k => op2I fun h => lshift_int_small (pow_ok k).1 (pow_ok k).2.1 (pow_ok k).2.2 (h _ _ (.int _ _))⟩
  | .RShift => ⟨.int (i.fdiv (2 ^ j.toNat)), decide (0 ≤ j), fun k => op2I fun h => rshift_int (of_decide_eq_true k) (h _ _ (.int _ _))⟩
  | .BitXor => ⟨.int (Builtin.bitXor i j), true, fun _ => op2I fun h => xor_int (h _ _ (.int _ _))⟩
  | _ => .no .none
variable (W i j) in
noncomputable def inpII (op : Operator) : Vc (Op2 W (inplaceOp op) (.int i) (.int j)) := match op with
  | .Add => ⟨.int (i + j), true, fun _ => op2I fun h => P.iadd_int (h _ _ (.int _ _))⟩
  | .Sub => ⟨.int (i - j), true, fun _ => op2I fun h => P.isub_int (h _ _ (.int _ _))⟩
  | .Mult => ⟨.int (i * j), small i, fun k => op2I fun h => P.imul_int (h _ _ (.int _ _)) (small_mul k)⟩
  | .Mod => ⟨.int (i.fmod j), !decide (j = 0), fun k => op2I fun h => imod_int (nz k) (h _ _ (.int _ _))⟩
  | _ => .no .none
theorem op_addS (h : decide (x.length + y.length ≤ 1048576) = true) : Op2 W (binaryOp .Add) (.str x) (.str y) (.str (x ++ y)) := fun C ra rb => by
  obtain ⟨t, rfl⟩ := Rel.str' ra
  obtain ⟨u, rfl⟩ := Rel.str' rb
  exact PyProof.Rows.add_str (fun t' tk => outV (.str _ _)) (Nat.le_trans (of_decide_eq_true h) (by decide))
theorem op_mulS (h : (decide (x.length ≤ 16) && decide (0 ≤ j) && decide (j ≤ 1000)) = true) : Op2 W (binaryOp .Mult) (.str x) (.int j) (.str (Txt.mul x j)) := fun C ra rb => by
  obtain ⟨t, rfl⟩ := Rel.str' ra
  obtain ⟨u, rfl⟩ := Rel.int' rb
  have h := Bool.and_eq_true_iff.mp h
  have k := Bool.and_eq_true_iff.mp h.1
  exact PySem.W.KXi.mul rfl (of_decide_eq_true k.1) (Int.le_trans (by decide) (of_decide_eq_true k.2)) (Int.le_trans (of_decide_eq_true h.2) (by decide)) fun t' k _ _ => outV (.str _ _)
theorem op_addB (h : decide (b.size + d.size ≤ 1048576) = true) : Op2 W (binaryOp .Add) (.bytes b) (.bytes d) (.bytes (b ++ d)) := fun C ra rb => by
  obtain ⟨t, rfl⟩ := Rel.bytes' ra
  obtain ⟨u, rfl⟩ := Rel.bytes' rb
  exact PySem.W.KBy.add_bytes (Nat.le_trans (of_decide_eq_true h) (by decide)) fun t' k => outV (.bytes _ _)
theorem op_mulB {c : UInt8} (h : (decide (-1000 ≤ j) && decide (j ≤ 1000)) = true) : Op2 W (binaryOp .Mult) (.bytes #[c]) (.int j) (.bytes (List.replicate j.toNat [c]).flatten.toArray) := fun C ra rb => by
  obtain ⟨t, rfl⟩ := Rel.bytes' ra
  obtain ⟨u, rfl⟩ := Rel.int' rb
  have h := Bool.and_eq_true_iff.mp h
  exact PySem.W.bytes_mul_any (b := [c]) nofun (Int.le_trans (by decide) (of_decide_eq_true h.1)) (Int.le_trans (of_decide_eq_true h.2) (by decide)) (Nat.le_of_ble_eq_true rfl) fun t' k => outV (.bytes _ _)
end
end Mine
namespace Mine
set_option genSizeOf false
set_option genInjectivity false
noncomputable def toPy (p : PV) : PyData := PV.rec (motive_1 := fun _ => PyData) (motive_2 := fun _ => List PyData) (.int 0) (fun _ => .int 0) (fun i => .int i) (fun x => .str x) (fun _ => .int 0) (fun _ l => .tuple l) (fun _ l => .list l) (fun _ => .int 0) (fun _ => .int 0) (fun _ => .int 0) [] (fun _ _ a b => a :: b) p
noncomputable def pyOk (p : PV) : Bool := PV.rec (motive_1 := fun _ => Bool) (motive_2 := fun _ => Bool) false (fun _ => false) (fun i => true) (fun x => PyData.strOk x) (fun _ => false) (fun _ l => l) (fun _ l => l) (fun _ => false) (fun _ => false) (fun _ => false) true (fun _ _ a b => a && b) p
noncomputable def toPys (l : List PV) : List PyData := PV.rec_1 (motive_1 := fun _ => PyData) (motive_2 := fun _ => List PyData) (.int 0) (fun _ => .int 0) (fun i => .int i) (fun x => .str x) (fun _ => .int 0) (fun _ l => .tuple l) (fun _ l => .list l) (fun _ => .int 0) (fun _ => .int 0) (fun _ => .int 0) [] (fun _ _ a b => a :: b) l
noncomputable def pyOks (l : List PV) : Bool := PV.rec_1 (motive_1 := fun _ => Bool) (motive_2 := fun _ => Bool) false (fun _ => false) (fun i => true) (fun x => PyData.strOk x) (fun _ => false) (fun _ l => l) (fun _ l => l) (fun _ => false) (fun _ => false) (fun _ => false) true (fun _ _ a b => a && b) l
theorem toPys_map : ∀ l, toPys l = l.map toPy := fun l => by
  induction l with
  | nil => rfl
  | cons p l ih => exact congrArg (toPy p :: ·) ih
theorem pyOks_all : ∀ l, pyOks l = l.all pyOk := fun l => by
  induction l with
  | nil => rfl
  | cons p l ih => exact congrArg (pyOk p && ·) ih
section
variable {ok : Addr → Prop} {h : Heap} {v u : Value} {p q r : PV} {vs : List Value} {l m : List PV}
theorem Rel.reads (x : Rel ok h v p) : pyOk p = true → (∃ as, Reads h v (toPy p) as) ∧ (toPy p).canLay0 = true :=
  Rel.rec (motive_1 := fun v p _ => pyOk p = true → (∃ as, Reads h v (toPy p) as) ∧ (toPy p).canLay0 = true) (motive_2 := fun vs l _ => pyOks l = true → (∃ as, ReadsAll h vs (toPys l) as) ∧ PyData.canLayAll0 (toPys l) = true)
    nofun (fun _ => nofun) (fun i t _ => ⟨⟨_, .int i t⟩, rfl⟩) (fun x t e => ⟨⟨_, .str x t⟩, e⟩) (fun _ _ => nofun) (fun _ ht _ ih e => (ih e).1.elim fun as r => ht.elim fun o y => y.2.2.elim fun n d => ⟨⟨_, .tuple y.1 y.2.1 d r⟩, (ih e).2⟩) (fun _ ht _ ih e => (ih e).1.elim fun as r => ht.elim fun o y => y.2.2.elim fun n d => ⟨⟨_, .list y.1 y.2.1 d r⟩, (ih e).2⟩)
    (fun _ => nofun) (fun _ => nofun) (fun _ => nofun) (fun _ => ⟨⟨_, .nil⟩, rfl⟩) (fun _ _ ih1 ih2 e => have e := Bool.and_eq_true_iff.mp e; (ih1 e.1).1.elim fun as r1 => (ih2 e.2).1.elim fun bs r2 => ⟨⟨_, .cons r1 r2⟩, Bool.and_eq_true_iff.mpr ⟨(ih1 e.1).2, (ih2 e.2).2⟩⟩) x
end
section
variable {W : Ws} {A : Around} {L : Addr} {s s' : Shared} {ok : Addr → Prop} {v u : Value} {p q r : PV} {vs : List Value} {l m : List PV} {i j : Int} {x y : Str} {b d : Array UInt8} {op : CmpOp} {z : Bool} {a : Addr} {h' : Heap} {tk : Nat}
theorem unitsLt {k : Nat} (R : Room k A) {n : Nat} (h : n ≤ 100) : A.units + n < cLine := Nat.lt_of_le_of_lt (Nat.add_le_add (Nat.le_trans (Nat.le_add_right _ _) R.units) h) (by decide)
theorem outSame (h : ∀ {ok h}, Rel ok h v r) : Out W ok L s r v s := ⟨h, s.heap, s.toks, rfl, fun _ _ _ _ e => e, fun _ y => y, id⟩
theorem op_eq (h : (pyOk p && pyOk q && decide (min (toPy p).depth (toPy q).depth ≤ 50)) = true) : Op2 W (compareOp .Eq) p q (.bool ((toPy p).eqv (toPy q))) := fun C ra rb => by
  have h := Bool.and_eq_true_iff.mp h
  have k := Bool.and_eq_true_iff.mp h.1
  obtain ⟨⟨as, r1⟩, c1⟩ := ra.all.reads k.1
  obtain ⟨⟨bs, r2⟩, c2⟩ := rb.all.reads k.2
  exact SeqAt.compareEq_reads r1 r2 c1 c2 (unitsLt C.room (Nat.le_trans (of_decide_eq_true h.2) (by decide))) (outSame (.bool _))
theorem op_ne (h : (pyOk p && pyOk q && decide (min (toPy p).depth (toPy q).depth ≤ 50)) = true) : Op2 W (compareOp .NotEq) p q (.bool (!(toPy p).eqv (toPy q))) := fun C ra rb => by
  have h := Bool.and_eq_true_iff.mp h
  have k := Bool.and_eq_true_iff.mp h.1
  obtain ⟨⟨as, r1⟩, c1⟩ := ra.all.reads k.1
  obtain ⟨⟨bs, r2⟩, c2⟩ := rb.all.reads k.2
  exact SeqAt.compareNe_reads r1 r2 c1 c2 (unitsLt C.room (Nat.le_trans (of_decide_eq_true h.2) (by decide))) (outSame (.bool _))
theorem op_notIn (h : (pyOk p && pyOks l && decide ((toPy p).depth ≤ 50)) = true) : Op2 W (compareOp .NotIn) p (.lst l) (.bool (!(toPys l).any fun y => y.eqv (toPy p))) := fun C ra rb => by
  have h := Bool.and_eq_true_iff.mp h
  have k := Bool.and_eq_true_iff.mp h.1
  obtain ⟨⟨as, r1⟩, c1⟩ := ra.all.reads k.1
  obtain ⟨⟨bs, r2⟩, c2⟩ := rb.all.reads (p := .lst l) k.2
  exact SeqAt.notIn_list_reads r2 r1 c2 c1 (Nat.add_assoc .. ▸ unitsLt C.room (Nat.le_trans (Nat.add_le_add_left (Nat.le_trans (Nat.min_le_right _ _) (of_decide_eq_true h.2)) 1) (by decide))) (outSame (.bool _))
theorem op_eqB : Op2 W (compareOp .Eq) (.bytes b) (.bytes d) (.bool (b.toList == d.toList)) := fun C ra rb => by
  obtain ⟨t, rfl⟩ := Rel.bytes' ra
  obtain ⟨u, rfl⟩ := Rel.bytes' rb
  exact PySem.W.eq_bytes (outSame (.bool _))
theorem op_neB : Op2 W (compareOp .NotEq) (.bytes b) (.bytes d) (.bool (!(b.toList == d.toList))) := fun C ra rb => by
  obtain ⟨t, rfl⟩ := Rel.bytes' ra
  obtain ⟨u, rfl⟩ := Rel.bytes' rb
  exact PySem.W.ne_bytes (outSame (.bool _))
theorem op_notInS : Op2 W (compareOp .NotIn) (.str x) (.str y) (.bool (!(!(Builtin.Str.occurrences y x 0 y.length 1).isEmpty))) := fun C ra rb => by
  obtain ⟨t, rfl⟩ := Rel.str' ra
  obtain ⟨u, rfl⟩ := Rel.str' rb
  exact PyProof.Rows.notIn_str (outSame (.bool _))
theorem op_isNotT {m n : String} : Op2 W (compareOp .IsNot) (.ty m) (.ty n) (.bool (!(Value.type m == Value.type n))) := fun C ra rb => by
  obtain rfl := Rel.ty' ra
  obtain rfl := Rel.ty' rb
  exact wpAny_bind (m := isSame (Value.type _) (Value.type _)) (wpAny_pure (wpAny_pure (outSame (.bool _))))
theorem op_isNone : Op2 W (compareOp .Is) .none .none (.bool true) := fun C ra rb => by
  obtain rfl := Rel.none' ra
  obtain rfl := Rel.none' rb
  exact is_none (outSame (.bool _))
theorem op_isNoneL : Op2 W (compareOp .Is) (.lst l) .none (.bool false) := fun C ra rb => by
  obtain ⟨a, vs, rfl, _⟩ := ra
  obtain rfl := Rel.none' rb
  exact is_none (outSame (.bool _))
theorem op2B {f : Value → Value → Sem Value} (h : ∀ {A : Around} {s : Shared} {t u : Tok} {Q : Value → Shared → Prop}, Q (.bool z) s → wpAny W.M A (f (.int i t) (.int j u)) Q NoE s) : Op2 W f (.int i) (.int j) (.bool z) := fun C ra rb => by
  obtain ⟨t, rfl⟩ := Rel.int' ra
  obtain ⟨u, rfl⟩ := Rel.int' rb
  exact h (outSame (.bool _))
variable (W i j) in
noncomputable def cmpII (op : CmpOp) : Vc (Op2 W (compareOp op) (.int i) (.int j)) := match op with
  | .Lt => ⟨.bool (decide (i < j)), true, fun _ => op2B fun h => PyProof.Rows.lt_int h⟩
  | .LtE => ⟨.bool (decide (i ≤ j)), true, fun _ => op2B fun h => PyProof.Rows.le_int h⟩
  | .Gt => ⟨.bool (decide (i > j)), true, fun _ => op2B fun h => PyProof.Rows.gt_int h⟩
  | .GtE => ⟨.bool (decide (i ≥ j)), true, fun _ => op2B fun h => PyProof.Rows.ge_int h⟩
  | .Eq => ⟨_, _, op_eq⟩
  | .NotEq => ⟨_, _, op_ne⟩
  | _ => .no .none
variable (W i) in
noncomputable def unI (op : UnaryOp) : Vc (Op1 W (unaryOp op) (.int i)) := match op with
  | .USub => ⟨.int (-i), true, fun _ => op1I fun h => PyProof.Rows.neg_int (h _ _ (.int _ _))⟩
  | .Invert => ⟨.int (Builtin.bitNot i), true, fun _ => op1I fun h => PyProof.Rows.invert_int (h _ _ (.int _ _))⟩
  | _ => .no .none
end
end Mine
namespace Mine
set_option genSizeOf false
set_option genInjectivity false
section
variable {W : Ws} {A : Around} {L a : Addr} {s s' : Shared} {ok : Addr → Prop} {v u : Value} {p q r : PV} {vs : List Value} {l m ps : List PV} {i j : Int} {x y : Str} {b d : Array UInt8} {h' : Heap} {tk : Nat} {lo hi : Option Int}
theorem growR : Grow W.B L s s := ⟨s.heap, s.toks, rfl, fun _ _ _ _ e => e, fun _ y => y, id⟩
theorem keep_out (k : ∀ a o, s.heap.get? a = some o → h'.get? a = some o) : Sk ok (fun a => ok a ∨ s.heap.get? a = none) s.heap h' := fun a o xs n e d q => ⟨k a o e, .inl q⟩
theorem outL (r : Rels ok s.heap vs l) (k : ∀ a o, s.heap.get? a = some o → h'.get? a = some o) (e : s.heap.get? a = none) (hl : h'.IsList a vs.toArray) : Out W ok L s (.lst l) (.ref a) { s with heap := h', toks := tk } := ⟨.lst (.inr e) hl (r.step (keep_out k)), grow_all k⟩
theorem outT (r : Rels ok s.heap vs l) (k : ∀ a o, s.heap.get? a = some o → h'.get? a = some o) (e : s.heap.get? a = none) (hl : h'.IsTuple a vs.toArray) : Out W ok L s (.tup l) (.ref a) { s with heap := h', toks := tk } := ⟨.tup (.inr e) hl (r.step (keep_out k)), grow_all k⟩
theorem outLp (r : Rels ok s.heap vs l) : Out W ok L s (.lst l) (.ref s.heap.objs.size) { s with heap := s.heap.push { cls := .type "list", data := .seq vs.toArray }, toks := tk } := outL r (fun _ _ => Heap.get?_push_of_some _) (get_new (Nat.le_refl _)) ⟨_, Heap.get?_push_size _ rfl, rfl, 0, rfl⟩
theorem outTp (r : Rels ok s.heap vs l) : Out W ok L s (.tup l) (.ref s.heap.objs.size) { s with heap := s.heap.push { cls := .type "tuple", data := .seq vs.toArray }, toks := tk } := outT r (fun _ _ => Heap.get?_push_of_some _) (get_new (Nat.le_refl _)) ⟨_, Heap.get?_push_size _ rfl, rfl, 0, rfl⟩
theorem op_addL (h : decide (l.length + m.length ≤ 1048576) = true) : Op2 W (binaryOp .Add) (.lst l) (.lst m) (.lst (l ++ m)) := fun C ra rb => by
  obtain ⟨a, vs, rfl, ⟨⟨cls, dd, data, sl⟩, ho, hc, n, hd⟩, r1⟩ := ra
  obtain ⟨b, ws, rfl, ⟨⟨cls2, dd2, data2, sl2⟩, ho2, hc2, n2, hd2⟩, r2⟩ := rb
  simp only at hc hd hc2 hd2
  subst hc hd hc2 hd2
  refine concat_meets ⟨_, ho, rfl⟩ ⟨_, ho2, rfl⟩ noFill_list_add seq_list_add PySem.F.slot_list_add PySem.F.entry_list_add (PySem.F.args_list_add_2 _ _) (list_addW a b vs.toArray ws.toArray n n2 dd dd2 sl sl2 ?_) ⟨ho, ho2, ?_⟩
  · show vs.length + ws.length ≤ sizeLine
    rw [r1.length, r2.length]
    exact Nat.le_trans (of_decide_eq_true h) (by decide)
  · rw [List.append_toArray]
    exact outLp (r1.append r2)
theorem tru_bool {b : Bool} : Tru W (.bool b) b := fun C ra => by
  obtain rfl := Rel.bool' ra
  exact wpAny_truthy_bool ⟨rfl, growT⟩
theorem tru_int : Tru W (.int i) (i != 0) := fun C ra => by
  obtain ⟨t, rfl⟩ := Rel.int' ra
  exact PyProof.Rows.truthy_int ⟨rfl, growT⟩
theorem tru_str (h : decide (x.length ≤ 1048576) = true) : Tru W (.str x) (((x.length : Nat) : Int) != 0) := fun C ra => by
  obtain ⟨t, rfl⟩ := Rel.str' ra
  exact P.truthy_str (Int.not_le.mpr (Int.ofNat_lt.mpr (Nat.lt_of_le_of_lt (of_decide_eq_true h) (by decide)))) ⟨rfl, growT⟩
theorem tru_lst (h : decide (l.length ≤ 1048576) = true) : Tru W (.lst l) (!l.isEmpty) := fun C ra => by
  obtain ⟨a, vs, rfl, hl, r⟩ := ra
  exact wpAny_truthy_list hl (Int.ofNat_lt.mpr (Nat.lt_of_le_of_lt (r.length ▸ of_decide_eq_true h) (by decide))) ⟨by cases r <;> rfl, growT⟩
theorem op_itemL (h : (decide (0 ≤ i) && decide (i < 1048576)) = true) (e : l[i.toNat]? = some p) : Op2 W getItem (.lst l) (.int i) p := fun C ra rb => by
  obtain ⟨a, vs, rfl, hl, r⟩ := ra
  obtain ⟨u, rfl⟩ := Rel.int' rb
  have h := Bool.and_eq_true_iff.mp h
  obtain ⟨v, hv, rv⟩ := r.get e
  exact getItem_listL hl (of_decide_eq_true h.1) (Int.lt_trans (of_decide_eq_true h.2) (by decide)) hv ⟨rv.weak fun _ => .inl, growR⟩
theorem op_itemT (h : (decide (0 ≤ i) && decide (i < 1048576)) = true) (e : l[i.toNat]? = some p) : Op2 W getItem (.tup l) (.int i) p := fun C ra rb => by
  obtain ⟨a, vs, rfl, _, ht, r⟩ := Rel.tup' ra
  obtain ⟨u, rfl⟩ := Rel.int' rb
  have h := Bool.and_eq_true_iff.mp h
  obtain ⟨v, hv, rv⟩ := r.get e
  have h0 : 0 ≤ i := of_decide_eq_true h.1
  have hlt : i.toNat < vs.length := (List.getElem?_eq_some_iff.mp hv).1
  refine PyProof.Rows.getItem_tuple (j := i.toNat) ht (Int.le_trans (by decide) h0) (Int.lt_trans (of_decide_eq_true h.2) (by decide)) ?_ (List.getElem?_toArray ▸ hv) ⟨rv.weak fun _ => .inl, growR⟩
  unfold seqIndex?
  rw [if_neg (Int.not_lt.mpr h0)]
  exact if_pos (Bool.and_eq_true_iff.mpr ⟨decide_eq_true h0, decide_eq_true ((Int.toNat_lt h0).mp hlt)⟩)
theorem sl_lst (h : decide (l.length ≤ 1048576) = true) : SlQ W (.lst l) lo hi (.lst ((l.drop (PySem.W.kms_lo lo l.length)).take (PySem.W.kms_hi hi l.length - PySem.W.kms_lo lo l.length))) := fun C ra pl pu sl hs => by
  obtain ⟨b, vs, rfl, hl, hr⟩ := ra
  have hlen := hr.length
  refine wpAny_getItem_list_slice hl hs pl pu .none nofun ?_ (Nat.le_trans (hlen ▸ of_decide_eq_true h) (by decide))
  rw [kms_pick_eq]
  unfold kms_pick
  rw [List.toList_toArray, hlen]
  exact outLp ((hr.drop _).take _)
theorem sl_bytes (h : decide (b.size ≤ 1048576) = true) : SlQ W (.bytes b) lo hi (.bytes (PySem.W.KBy.picked b lo hi)) := fun C ra pl pu sl hs => by
  obtain ⟨t, rfl⟩ := Rel.bytes' ra
  exact getItem_meets (typeIs_bytes _ _ _) (by decide) FB.slot_bytes_getitem FB.entry_bytes_getitem (FB.args_bytes_getitem_2 _ _) (KBc.meets_slice2 b t sl pl pu) ⟨hs, Nat.le_trans (KBc.size_picked_le b lo hi) (Nat.le_trans (of_decide_eq_true h) (by decide)), fun t' k => outV (.bytes _ _)⟩
noncomputable abbrev biF (id : String) (vs : List Value) : Sem Value := call (.builtin id) vs []
noncomputable abbrev tyF (id : String) (vs : List Value) : Sem Value := call (.type id) vs []
theorem Rels0.cons' {h : Heap} (r : Rels0 ok h vs (p :: l)) : ∃ v ws, vs = v :: ws ∧ Rel0 ok h v p ∧ Rels0 ok h ws l := by cases r with | cons x y => exact ⟨_, _, rfl, x, y⟩
theorem Rels0.nil' {h : Heap} (r : Rels0 ok h vs []) : vs = [] := by cases r; rfl
theorem opN1 {f : List Value → Sem Value} (h : Op1 W (fun v => f [v]) p r) : OpN W f [p] r := fun C ra => by
  obtain ⟨v, ws, rfl, x, y⟩ := ra.cons'
  obtain rfl := y.nil'
  exact h C x
theorem bi_lenL (h : decide (l.length ≤ 1048576) = true) : OpN W (biF "len") [.lst l] (.int l.length) := opN1 fun C ra => by
  obtain ⟨b, vs, rfl, hl, hr⟩ := ra
  refine PyProof.Rows.len_list hl (Int.ofNat_lt.mpr (Nat.lt_of_le_of_lt (hr.length ▸ of_decide_eq_true h) (by decide))) ?_
  show Out W _ _ _ _ (.int ((vs.length : Nat) : Int) _) _
  rw [hr.length]
  exact outV (.int _ _)
theorem bi_lenB (h : decide (b.size ≤ 1048576) = true) : OpN W (biF "len") [.bytes b] (.int b.size) := opN1 fun C ra => by
  obtain ⟨t, rfl⟩ := Rel.bytes' ra
  exact PySem.W.len_bytes (Nat.le_trans (of_decide_eq_true h) (by decide)) (outV (.int _ _))
theorem bi_lenS (h : decide (x.length ≤ 1048576) = true) : OpN W (biF "len") [.str x] (.int x.length) := opN1 fun C ra => by
  obtain ⟨t, rfl⟩ := Rel.str' ra
  exact P.len_str (Int.not_le.mpr (Int.ofNat_lt.mpr (Nat.lt_of_le_of_lt (of_decide_eq_true h) (by decide)))) (outV (.int _ _))
theorem bi_abs : OpN W (biF "abs") [.int i] (.int (if i < 0 then -i else i)) := opN1 fun C ra => by
  obtain ⟨t, rfl⟩ := Rel.int' ra
  exact call_abs_int fun u tk => outV (.int _ _)
theorem bi_divmod (h : (!decide (j = 0) && decide (j.natAbs < 2 ^ 30)) = true) : OpN W (biF "divmod") [.int i, .int j] (.tup [.int (i.fdiv j), .int (i.fmod j)]) := fun C ra => by
  obtain ⟨v, ws, rfl, x, y⟩ := ra.cons'
  obtain ⟨u, ws, rfl, z, y⟩ := y.cons'
  obtain rfl := y.nil'
  obtain ⟨t, rfl⟩ := Rel.int' x
  obtain ⟨u, rfl⟩ := Rel.int' z
  exact divmod_int (nz (Bool.and_eq_true_iff.mp h).1) (outTp (.cons (.int _ _) (.cons (.int _ _) .nil))) (.inl (PyProof.noPylong_small (of_decide_eq_true (Bool.and_eq_true_iff.mp h).2)))
theorem ty_int : OpN W (tyF "int") [.int i] (.int i) := opN1 fun C ra => by
  obtain ⟨t, rfl⟩ := Rel.int' ra
  exact call_int_int (outSame (.int _ _))
theorem ty_tuple (h : decide (l.length ≤ 1048576) = true) : OpN W (tyF "tuple") [.lst l] (.tup l) := opN1 fun {A L s a ok} C ra => by
  obtain ⟨b, vs, rfl, hl, hr⟩ := ra
  exact call_tuple_list hl (fun h' k => outT (tk := s.toks) hr (fun a o e => Heap.get?_push_of_some _ (k a o e)) (by
    cases e : s.heap.get? h'.objs.size with
    | none => rfl
    | some o => exact absurd (Heap.lt_size (k _ o e)) (Nat.lt_irrefl _)) ⟨_, Heap.get?_push_size _ rfl, rfl, 0, rfl⟩) (Nat.le_trans (hr.length ▸ of_decide_eq_true h) (by decide))
theorem meth_bits (h : small i = true) : MethQ W (.int i) (Str.ofString "bit_length") [] (.int (Builtin.Int.intBits i)) := ⟨_, _, ⟨PySem.F.plainAttrs_int, PySem.F.slot_int_bit_length, PySem.F.type_int_bit_length⟩, fun _ q => by
    obtain ⟨t, rfl⟩ := Rel.int' q
    exact ⟨rfl, nofun⟩, fun C ra rs => by
    obtain ⟨t, rfl⟩ := Rel.int' ra
    obtain rfl := rs.nil'
    exact call_int_bit_length (outV (.int _ _))⟩
end
end Mine
namespace Mine
set_option genSizeOf false
set_option genInjectivity false
noncomputable def figures (n : Nat) : Str := if n < 10 then ⟨#[48 + n]⟩ else ⟨#[48 + n / 10, 48 + n % 10]⟩
theorem figures_eq : ∀ n : Fin 100, Str.ofString (toString ((n.val : Nat) : Int)) = figures n.val := by decide +kernel
noncomputable def toI : PV → Int
  | .int i => i
  | _ => 0
noncomputable def toS : PV → Str
  | .str x => x
  | _ => ⟨#[]⟩
noncomputable def isI : PV → Bool
  | .int _ => true
  | _ => false
noncomputable def isS : PV → Bool
  | .str _ => true
  | _ => false
section
variable {W : Ws} {A : Around} {L a : Addr} {s s' : Shared} {ok : Addr → Prop} {h : Heap} {v u : Value} {p q r : PV} {vs : List Value} {l m ps : List PV} {i j : Int} {x y : Str} {b d : Array UInt8} {tk : Nat}
theorem Rels.ints (r : Rels ok h vs l) : l.all isI = true → ∃ xs : List (Int × Tok), vs = xs.map (fun p => .int p.1 p.2) ∧ xs.map (·.1) = l.map toI :=
  r.ind (P := fun vs l => l.all isI = true → ∃ xs : List (Int × Tok), vs = xs.map (fun p => .int p.1 p.2) ∧ xs.map (·.1) = l.map toI) (fun _ => ⟨[], rfl, rfl⟩) fun {v vs p l} x _ ih e => by
    have e := Bool.and_eq_true_iff.mp e
    obtain ⟨xs, rfl, e2⟩ := ih e.2
    cases p with
    | int i => obtain ⟨t, rfl⟩ := x.int'; exact ⟨(i, t) :: xs, rfl, congrArg (i :: ·) e2⟩
    | _ => exact Bool.noConfusion e.1
theorem Rels.strs (r : Rels ok h vs l) : l.all isS = true → ∃ xs : List (Str × Tok), vs = strValues xs ∧ xs.map (·.1) = l.map toS :=
  r.ind (P := fun vs l => l.all isS = true → ∃ xs : List (Str × Tok), vs = strValues xs ∧ xs.map (·.1) = l.map toS) (fun _ => ⟨[], rfl, rfl⟩) fun {v vs p l} x _ ih e => by
    have e := Bool.and_eq_true_iff.mp e
    obtain ⟨xs, rfl, e2⟩ := ih e.2
    cases p with
    | str i => obtain ⟨t, rfl⟩ := x.str'; exact ⟨(i, t) :: xs, rfl, congrArg (i :: ·) e2⟩
    | _ => exact Bool.noConfusion e.1
theorem ints_are : ∀ {xs : List (Int × Tok)}, IntsAre (xs.map fun p => .int p.1 p.2) (xs.map (·.1))
  | [] => .nil
  | _ :: _ => .cons _ _ ints_are
theorem strs_rels {xs : List (Str × Tok)} : Rels ok h (strValues xs) ((xs.map (·.1)).map .str) := by
  induction xs with
  | nil => exact .nil
  | cons x xs ih => exact .cons (.str _ _) ih
theorem bi_sum (h : l.all isI = true) : OpN W (biF "sum") [.lst l] (.int (l.map toI).sum) := opN1 fun C ra => by
  obtain ⟨b, vs, rfl, hl, hr⟩ := ra
  obtain ⟨xs, rfl, e⟩ := hr.ints h
  rw [show (xs.map fun p => Value.int p.1 p.2).toArray = intItems xs.toArray from (List.map_toArray ..).symm] at hl
  refine sum_intListG C.room.handled hl fun h' tk t' hk => ?_
  rw [preSum_eq]
  show Out W _ _ _ _ (.int (List.take xs.length (xs.map (·.1))).sum t') _
  rw [List.take_of_length_le (Nat.le_of_eq (List.length_map ..)), e]
  exact ⟨.int _ _, grow_all hk⟩
theorem ty_str (h : (decide (0 ≤ i) && decide (i < 100)) = true) : OpN W (tyF "str") [.int i] (.str (figures i.toNat)) := opN1 fun C ra => by
  obtain ⟨t, rfl⟩ := Rel.int' ra
  have h := Bool.and_eq_true_iff.mp h
  have h0 : 0 ≤ i := of_decide_eq_true h.1
  have e := figures_eq ⟨i.toNat, (Int.toNat_lt h0).mpr (of_decide_eq_true h.2)⟩
  rw [show ((i.toNat : Nat) : Int) = i from Int.toNat_of_nonneg h0] at e
  refine str_of_int_fit (N := 100) (by rw [if_neg (Int.not_lt.mpr h0)]; exact of_decide_eq_true h.2) (by decide) fun _ => ?_
  rw [e]
  exact outV (.str _ _)
theorem ty_bytes (h : (l.all isI && (l.map toI).all (fun n => decide (0 ≤ n ∧ n < 256)) && decide (l.length ≤ 1000)) = true) : OpN W (tyF "bytes") [.lst l] (.bytes (byteArr (l.map toI))) := opN1 fun C ra => by
  obtain ⟨b, vs, rfl, hl, hr⟩ := ra
  have h := Bool.and_eq_true_iff.mp h
  have k := Bool.and_eq_true_iff.mp h.1
  have hz := hr.length
  obtain ⟨xs, rfl, e⟩ := hr.ints k.1
  exact call_bytes_ints hl (e ▸ ints_are) (fun n hn => of_decide_eq_true (List.all_eq_true.mp k.2 n hn)) (Nat.le_trans (hz ▸ of_decide_eq_true h.2) (by decide)) C.room.handled fun h' t k hk => ⟨.bytes _ _, grow_all hk⟩
theorem meth_join (h : (l.all isS && JoinOk x (l.map toS)) = true) : MethQ W (.str x) (Str.ofString "join") [.lst l] (.str (Txt.join x (l.map toS))) := ⟨_, _, ⟨PySem.F.plainAttrs_str, PySem.F.slot_str_join, PySem.F.type_str_join⟩, fun _ q => by
    obtain ⟨t, rfl⟩ := Rel.str' q
    exact ⟨rfl, nofun⟩, fun C ra rs => by
    obtain ⟨t, rfl⟩ := Rel.str' ra
    obtain ⟨v, ws, rfl, z, y⟩ := rs.cons'
    obtain rfl := y.nil'
    obtain ⟨b, vs, rfl, hl, hr⟩ := z
    have h := Bool.and_eq_true_iff.mp h
    obtain ⟨xs, rfl, e⟩ := hr.strs h.1
    exact SC.join hl e h.2 fun t' k => outV (.str _ _)⟩
theorem split_core {t u : Tok} (hx : x.length ≤ 1048576) (hy : 1 ≤ y.length) : wpAny W.M A (call (.builtin "str.split") [.str x t, .str y u] []) (fun v s' => ∃ l tk, v = .ref s.heap.objs.size ∧
    s' = { s with heap := s.heap.push { cls := .type "list", data := .seq (strValues l).toArray }, toks := tk } ∧ l.map (·.1) = Txt.split x y) NoE s := by
  have hm2 : sizeLine = 16777216 := rfl
  have hocc := PySem.StrLaws.occ_length_le_len x y 0 x.length (x.length + 1)
  have hpart := length_partsBetween x (Builtin.Str.occurrences x y 0 x.length (x.length + 1)) y.length
  have one : ∀ tk : Nat, [(x, t)].map (·.1) = Txt.split x y → ∃ l tk', (.ref s.heap.objs.size : Value) = .ref s.heap.objs.size ∧
      ({ s with heap := s.heap.push { cls := .type "list", data := .seq [Value.str x t].toArray }, toks := tk } : Shared) = { s with heap := s.heap.push { cls := .type "list", data := .seq (strValues l).toArray }, toks := tk' } ∧ l.map (·.1) = Txt.split x y :=
    fun tk e => ⟨[(x, t)], tk, rfl, rfl, e⟩
  cases h1 : (decide (x.length < y.length) || decide (Builtin.Str.strKind x < Builtin.Str.strKind y)) with
  | true => exact call_meets PySem.F.slot_str_split (typeIs_str _ _ _) PySem.F.entry_str_split (PySem.F.args_str_split_2 _ _) (meets_str_split_cannot_occur x y t u h1) (one s.toks (by unfold Txt.split; rw [if_pos h1]; rfl))
  | false =>
    have hy0 : (y.length == 0) = false := beq_eq_false_iff_ne.mpr (Nat.ne_of_gt hy)
    cases h2 : (Builtin.Str.occurrences x y 0 x.length (x.length + 1)).isEmpty with
    | true => exact call_meets PySem.F.slot_str_split (typeIs_str _ _ _) PySem.F.entry_str_split (PySem.F.args_str_split_2 _ _) (meets_str_split_not_found x y t u h1 hy0 h2) (one s.toks (by unfold Txt.split; rw [if_neg (by rw [h1]; decide), if_pos h2]; rfl))
    | false =>
      refine call_meets PySem.F.slot_str_split (typeIs_str _ _ _) PySem.F.entry_str_split (PySem.F.args_str_split_2 _ _) (meets_str_split_sep x y t u h1 hy0 h2 (by (first | lia | omega)) (by (first | lia | omega))) ?_
      show ∃ l tk, _
      rw [strsFrom_eq]
      exact ⟨PySem.numbered s.toks _, _, rfl, rfl, by rw [numbered_texts]; unfold Txt.split; rw [if_neg (by rw [h1]; decide), if_neg (by rw [h2]; decide)]⟩
theorem meth_split (h : (decide (x.length ≤ 1048576) && decide (1 ≤ y.length)) = true) : MethQ W (.str x) (Str.ofString "split") [.str y] (.lst ((Txt.split x y).map .str)) := ⟨_, _, ⟨PySem.F.plainAttrs_str, PySem.F.slot_str_split, PySem.F.type_str_split⟩, fun _ q => by
    obtain ⟨t, rfl⟩ := Rel.str' q
    exact ⟨rfl, nofun⟩, fun C ra rs => by
    obtain ⟨t, rfl⟩ := Rel.str' ra
    obtain ⟨v, ws, rfl, z, y⟩ := rs.cons'
    obtain rfl := y.nil'
    obtain ⟨u, rfl⟩ := Rel.str' z
    have h := Bool.and_eq_true_iff.mp h
    refine go (split_core (of_decide_eq_true h.1) (of_decide_eq_true h.2)) fun v s' q => ?_
    obtain ⟨l, tk, rfl, rfl, e⟩ := q
    rw [← e]
    exact outLp strs_rels⟩
end
end Mine
namespace Mine
set_option genSizeOf false
set_option genInjectivity false
section
variable {prog : Program} {w : World} {A : Around} {s : Shared}
theorem call_type_bytes {b : Array UInt8} {t : Tok} {Q : Value → Shared → Prop} (hQ : Q (.type "bytes") s) : wpAny (model prog w) A (call (.type "type") [.bytes b t] []) Q NoE s := by
  refine wpAny_call (codeAny_of_tree ?_)
  show wpAny _ _ (callAny (.type "type") ⟨[.bytes b t], []⟩) _ _ _
  simp only [callAny]
  refine wpAny_pure ⟨Code.quiet_builtin _ (by decide +kernel), codeAny_builtin PyProof.Rows.entry_type_call ?_⟩
  unfold Builtin.«type.__call__»
  dsimp only
  unfold shownTypeOf
  obtain ⟨h, g, d, tk, os⟩ := s
  repeat (first | wp_step)
  exact hQ
noncomputable abbrev ByteAt (x : Array UInt8) : Nat → Value → Prop := fun i v => ∃ t c, x[i]? = some c ∧ v = .int ((c : UInt8).toNat : Int) t
theorem extend_bytes {R : Result → Shared → Prop} (hh : A.handled = none) (x : Array UInt8) (t : Tok) (S : Addr) (res : Value) (c₀ : Nat) (hS : s.heap.get? S = some { cls := .type "list", data := .seq #[] c₀ })
    (hR : ∀ h' tk acc' c', (∀ b o, b ≠ S → s.heap.get? b = some o → h'.get? b = some o) → h'.get? S = some { cls := .type "list", dict := none, data := .seq acc' c', slots := #[] } →
      ItemsOf (ByteAt x) acc' x.size → R (.ok (.ret res)) { s with heap := h', toks := tk }) (hn : x.size ≤ sizeLine) :
    wpAny (model prog w) A.in1 (Builtin.List.listExtendWith (.ref S) (.bytes x t) res)
      (fun fin s' => match fin with | .done f => R (.ok f) s' | .again c' => c'.quiet = true ∧ codeAny (model prog w) A c' R s') (fun e s' => R (.error e) s') s := by
  have hSI : S ≠ s.heap.objs.size := Nat.ne_of_lt (Heap.lt_size hS)
  have hSf : S ∉ [s.heap.objs.size] := fun hm => hSI (List.mem_singleton.mp hm)
  unfold Builtin.List.listExtendWith
  refine wpAny_bind (wpAny_typeOf (T := "bytes") (v := .bytes x t) rfl ?_)
  have h1 : Builtin.List.listSameRef (.ref S) (.bytes x t) = false := rfl
  have h2 : (Value.type "bytes" == Value.type "list") = false := by decide
  have h3 : (Value.type "bytes" == Value.type "tuple") = false := by decide
  simp only [h1, h2, h3, Bool.or_false, Bool.false_eq_true, if_false]
  refine wpAny_bind (KBw.pyIter_bytes ?_)
  refine wpAny_bind (wpAny_holding ?_)
  unfold Builtin.List.listLengthHint
  refine wpAny_bind (wpAny_specialOf (T := "bytes") (v := .bytes x t) rfl FB.slot_bytes_len.lookup ?_)
  wp_delta
  refine wpAny_bind (wpAny_isInstance (T := "bytes") (v := .bytes x t) (b := true) rfl (by rw [isSubtype_type]; kernel_rfl) ?_)
  show wpAny _ _ (typeOf (Value.bytes x t) >>= _) _ _ _
  refine wpAny_bind (wpAny_typeOf (T := "bytes") (v := .bytes x t) rfl ?_)
  refine wpAny_pure ?_
  rw [if_neg (by decide)]
  have hit : (s.heap.push { cls := .type "bytes_iterator", data := .fields #[.bytes x t, .int 0 0] }).get? s.heap.objs.size = some { cls := .type "bytes_iterator", data := .fields #[.bytes x t, .int 0 0] } := Heap.get?_push_size _ rfl
  have W := KBw.walks (prog := prog) (w := w) (A := A.in1) hh s.heap.objs.size x t
  refine wpAny_pure ⟨plainId_quiet PySem.F.plain_extend_loop _, codeAny_extend_loopS W.toS hn _ hSf _ x.size 0 _ _ _ rfl (Nat.zero_le _) ⟨_, hit, rfl, rfl⟩ (Heap.get?_push_of_some _ hS) (ItemsOf.nil _) fun s' acc' c' hm hS' hacc => ?_⟩
  rw [Moved.eq_with hm]
  refine hR s'.heap s'.toks acc' c' (fun b ob hb e => hm.heap b ob (fun hmem => ?_) (Heap.get?_push_of_some _ e)) hS' ?_
  · rcases List.mem_cons.mp hmem with e' | hmem
    · exact hb e'
    · exact absurd (Heap.lt_size e) (by rw [List.mem_singleton.mp hmem]; exact Nat.lt_irrefl _)
  · exact ⟨hacc.1, fun j v hj => by obtain ⟨c, u, e1, e2⟩ := hacc.2 j v hj; exact ⟨u, c, e1, e2⟩⟩
theorem call_list_bytes {Q : Value → Shared → Prop} (hh : A.handled = none) (x : Array UInt8) (t : Tok)
    (hQ : ∀ h' tk acc' c', (∀ b o, s.heap.get? b = some o → h'.get? b = some o) →
      h'.get? s.heap.objs.size = some { cls := .type "list", dict := none, data := .seq acc' c', slots := #[] } → ItemsOf (ByteAt x) acc' x.size → Q (.ref s.heap.objs.size) { s with heap := h', toks := tk }) (hn : x.size ≤ sizeLine) :
    wpAny (model prog w) A (call (.type "list") [.bytes x t]) Q NoE s := by
  refine callType_codes (Q₁ := fun obj s₁ => obj = .ref s.heap.objs.size ∧ s₁ = { s with heap := s.heap.push { cls := .type "list", data := .seq #[] } }) PySem.F.called_list (PySem.F.typeCall_list_1 _) PySem.F.entry_list_init
    (code_list_new _ ⟨rfl, rfl⟩) fun obj s₁ h₁ => ?_
  obtain ⟨rfl, rfl⟩ := h₁
  have hS : (s.heap.push { cls := .type "list", data := .seq #[] }).get? s.heap.objs.size = some { cls := .type "list", data := .seq #[] } := Heap.get?_push_size _ rfl
  refine ⟨⟨_, hS, rfl⟩, PySem.F.args_list_init_2 _ _, ?_⟩
  show wpAny _ _ (do let old ← Builtin.List.listItems (.ref s.heap.objs.size); Builtin.List.listUpdate (.ref s.heap.objs.size) (fun _ => #[]); letGo old.toList.reverse; Builtin.List.listExtendWith (.ref s.heap.objs.size) (.bytes x t) .none) _ _ _
  refine wpAny_bind ?_
  unfold Builtin.List.listItems
  refine wpAny_bind (wpAny_seqItems hS rfl (wpAny_pure ?_))
  show wpAny _ _ (updateSeq s.heap.objs.size (fun _ => #[]) >>= fun _ => letGo (#[] : Array Value).toList.reverse >>= fun _ => Builtin.List.listExtendWith (.ref s.heap.objs.size) (.bytes x t) .none) _ _ _
  refine wpAny_bind (wpAny_updateSeq hS rfl ?_)
  have hS₂ := Heap.get?_update_self (Obj.mapSeq (fun _ => (#[] : Array Value))) hS rfl
  refine wpAny_bind (wpAny_letGo ?_)
  refine extend_bytes (A := A.in1) hh x t _ .none _ hS₂ (fun h' tk acc' c' hk hS' hacc => ⟨rfl, hQ h' tk acc' c' (fun b o e => ?_) hS' hacc⟩) hn
  have hb : b ≠ s.heap.objs.size := neA (.inl (lt_sizeN e))
  exact hk b o hb ((Heap.get?_update_other _ _ (Ne.symm hb)).trans (Heap.get?_push_of_some _ e))
end
section
variable {W : Ws} {b : Array UInt8}
theorem bytes_items {x : Array UInt8} {acc : Array Value} (h : ItemsOf (ByteAt x) acc x.size) {ok : Addr → Prop} {hp : Heap} : Rels ok hp acc.toList (x.toList.map fun c => PV.int (c.toNat : Int)) := by
  have key : ∀ (us : List UInt8) (vs : List Value), us.length = vs.length → (∀ (j : Nat) (v : Value), vs[j]? = some v → ∃ (t : Tok) (c : UInt8), us[j]? = some c ∧ v = Value.int ((c : UInt8).toNat : Int) t) → Rels ok hp vs (us.map fun c => PV.int (c.toNat : Int)) := by
    intro us
    induction us with
    | nil => intro vs hl _; cases vs with
      | nil => exact .nil
      | cons => cases hl
    | cons u us ih => intro vs hl hh; cases vs with
      | nil => cases hl
      | cons v vs =>
        obtain ⟨t, c, h1, rfl⟩ := hh 0 v rfl
        obtain rfl := Option.some.inj h1
        exact .cons (.int _ _) (ih vs (Nat.succ.inj hl) fun j v hj => hh (j + 1) v hj)
  refine key x.toList acc.toList h.1.symm fun j v hj => ?_
  obtain ⟨t, c, h1, h2⟩ := h.2 j v (by rw [← Array.getElem?_toList]; exact hj)
  exact ⟨t, c, by rw [Array.getElem?_toList]; exact h1, h2⟩
theorem ty_list (h : decide (b.size ≤ 1048576) = true) : OpN W (tyF "list") [.bytes b] (.lst (b.toList.map fun x => .int (x.toNat : Int))) := opN1 fun C ra => by
  obtain ⟨t, rfl⟩ := Rel.bytes' ra
  exact call_list_bytes C.room.handled b t (fun h' tk acc' c' hk hS' hacc => ⟨.lst (vs := acc'.toList) (.inr (get_new (Nat.le_refl _))) ⟨_, hS', rfl, c', rfl⟩ (bytes_items hacc), grow_all hk⟩) (Nat.le_trans (of_decide_eq_true h) (by decide))
theorem ty_type : OpN W (tyF "type") [.bytes b] (.ty "bytes") := opN1 fun C ra => by
  obtain ⟨t, rfl⟩ := Rel.bytes' ra
  exact call_type_bytes (outSame (.ty _))
end
end Mine
namespace Mine
set_option genSizeOf false
set_option genInjectivity false
open PySem.SeqAt PySem.AutoSeq1 PySem.MeetsSeq PySem.MeetsSeq3 in
theorem lt_loop (l b : Addr) (items items2 : Array Value) (n n2 : Nat) (dd dd2 : Option Addr) (sl sl2 : Array (Option Value)) (f : Nat) (x y : Int) (t u : Tok) (hx : items[f]? = some (.int x t)) (hy : items2[f]? = some (.int y u)) (k : Nat) :
    ∀ i : Nat, f = i + k → Meets (Builtin.«list.__eq__.loop» ⟨[.ref l, .ref b, rawInt i, rawInt 0], []⟩)
      (fun A R s => s.heap.get? l = some { cls := .type "list", dict := dd, data := .seq items n, slots := sl } ∧ s.heap.get? b = some { cls := .type "list", dict := dd2, data := .seq items2 n2, slots := sl2 } ∧
        (∀ j, j < f → ∀ v w, items[j]? = some v → items2[j]? = some w → EqAt A.in1 s v w true) ∧ EqAt A.in1 s (.int x t) (.int y u) false ∧
        R (.ok (.ret (.bool (decide (x < y))))) s) := by
  have hf1 := (Array.getElem?_eq_some_iff.mp hx).1
  have hf2 := (Array.getElem?_eq_some_iff.mp hy).1
  induction k with
  | zero =>
    intro i hk prog w A R s h
    obtain rfl : f = i := by (first | lia | omega)
    obtain ⟨hp, g, d, tk, os⟩ := s; obtain ⟨hl, hb, he, he2, h⟩ := h
    wp_walk using wpAny_loadPart' hl, wpAny_loadPart' hb
    have hi1 : items[((f : Nat) : Int).toNat]? = some (.int x t) := by simpa using hx
    have hi2 : items2[((f : Nat) : Int).toNat]? = some (.int y u) := by simpa using hy
    rw [hi1, hi2]
    refine wpAny_bind (he2 prog w _ _ ?_)
    wp_walk using wpAny_loadPart' hl, wpAny_loadPart' hb
    rw [hi1, hi2]
    refine wpAny_bind (show wpAny _ _ (compareOp .Lt (.int x t) (.int y u)) _ _ _ from PyProof.Rows.lt_int (wpAny_pure ?_))
    exact h
  | succ k ih =>
    intro i hk prog w A R s h
    obtain ⟨hp, g, d, tk, os⟩ := s; obtain ⟨hl, hb, he, he2, h⟩ := h
    wp_walk using wpAny_loadPart' hl, wpAny_loadPart' hb
    have hlt : i < items.size := by (first | lia | omega)
    have hlt2 : i < items2.size := by (first | lia | omega)
    have hi1 : items[((i : Nat) : Int).toNat]? = some items[i] := by simp [hlt]
    have hi2 : items2[((i : Nat) : Int).toNat]? = some items2[i] := by simp [hlt2]
    have hc : ((i : Int) + 1) = ((i + 1 : Nat) : Int) := by push_cast; rfl
    rw [hi1, hi2]
    refine wpAny_bind (he i (by (first | lia | omega)) _ _ (by simp [hlt]) (by simp [hlt2]) prog w _ _ ?_)
    wp_walk
    rw [hc]
    exact ⟨plainId_quiet plain_eq_loop _, codeAny_builtin entry_eq_loop (by
      rw [Around.under_plainId plain_eq_loop _]
      exact ih (i + 1) (by (first | lia | omega)) prog w A R _ ⟨hl, hb, he, he2, h⟩)⟩
open PySem.SeqAt PySem.AutoSeq1 PySem.MeetsSeq PySem.MeetsSeq3 in
theorem list_ltAt (l b : Addr) (items items2 : Array Value) (n n2 : Nat) (dd dd2 : Option Addr) (sl sl2 : Array (Option Value)) (f : Nat) (x y : Int) (t u : Tok) (hx : items[f]? = some (.int x t)) (hy : items2[f]? = some (.int y u)) :
    Meets (Builtin.«list.__lt__» ⟨[.ref l, .ref b], []⟩)
      (fun A R s => s.heap.get? l = some { cls := .type "list", dict := dd, data := .seq items n, slots := sl } ∧ s.heap.get? b = some { cls := .type "list", dict := dd2, data := .seq items2 n2, slots := sl2 } ∧
        (∀ j, j < f → ∀ v w, items[j]? = some v → items2[j]? = some w → EqAt A.in1 s v w true) ∧ EqAt A.in1 s (.int x t) (.int y u) false ∧
        R (.ok (.ret (.bool (decide (x < y))))) s) := by
  intro prog w A R s h
  obtain ⟨hp, g, d, tk, os⟩ := s; obtain ⟨hl, hb, he, he2, h⟩ := h
  have f3 := AutoSeq1.sub_list_list
  wp_walk using wpAny_loadPart' hl, wpAny_loadPart' hb
  exact ⟨plainId_quiet plain_eq_loop _, codeAny_builtin entry_eq_loop (by
    rw [Around.under_plainId plain_eq_loop _]
    exact lt_loop l b items items2 n n2 dd dd2 sl sl2 f x y t u hx hy f 0 (by (first | lia | omega)) prog w A R _ ⟨hl, hb, he, he2, h⟩)⟩
structure EqQ (p q : PV) (r : Bool) : Prop where
  go : ∀ {A : Around} {s : Shared} {ok : Addr → Prop} {v u : Value}, A.units + 60 < cLine → Rel ok s.heap v p → Rel ok s.heap u q → SeqAt.EqAt A s v u r
theorem eqQ {p q : PV} (h : (pyOk p && pyOk q && decide (min (toPy p).depth (toPy q).depth ≤ 50)) = true) : EqQ p q ((toPy p).eqv (toPy q)) := ⟨fun {A s ok v u} hu ra rb => by
  have h := Bool.and_eq_true_iff.mp h
  have k := Bool.and_eq_true_iff.mp h.1
  obtain ⟨⟨as, r1⟩, c1⟩ := ra.reads k.1
  obtain ⟨⟨bs, r2⟩, c2⟩ := rb.reads k.2
  exact SeqAt.eqAt_reads _ _ A s v u as bs r1 r2 c1 c2 (Nat.lt_of_le_of_lt (Nat.add_le_add_left (Nat.le_trans (of_decide_eq_true h.2) (by decide)) _) hu)⟩
noncomputable def LstQ (a b : List PV) (r : Bool) : Prop := ∃ (f : Nat) (x y : Int), a[f]? = some (.int x) ∧ b[f]? = some (.int y) ∧ EqQ (.int x) (.int y) false ∧ r = decide (x < y) ∧ ∀ j, j < f → ∃ p q, a[j]? = some p ∧ b[j]? = some q ∧ EqQ p q true
theorem LstQ.here {i j : Int} {a b : List PV} (h : EqQ (.int i) (.int j) false) : LstQ (.int i :: a) (.int j :: b) (decide (i < j)) := ⟨0, i, j, rfl, rfl, h, rfl, fun _ q => nomatch q⟩
theorem LstQ.there {p q : PV} {a b : List PV} {r : Bool} (h : EqQ p q true) (k : LstQ a b r) : LstQ (p :: a) (q :: b) r := k.elim fun f k => k.elim fun x k => k.elim fun y k => ⟨f + 1, x, y, k.1, k.2.1, k.2.2.1, k.2.2.2.1, fun j hj => by
  cases j with
  | zero => exact ⟨p, q, rfl, rfl, h⟩
  | succ j => exact k.2.2.2.2 j (Nat.lt_of_succ_lt_succ hj)⟩
theorem oneLt_lst {prog : Program} {w : World} {A : Around} {s : Shared} {ok : Addr → Prop} {a b : List PV} {r : Bool} {v u : Value} {Q : Bool → Shared → Prop} (h : LstQ a b r) (hu : A.units + 70 < cLine) (ra : Rel ok s.heap v (.lst a)) (rb : Rel ok s.heap u (.lst b)) (hQ : Q r s) :
    wpAny (model prog w) A (oneLt' true v u) Q NoE s := by
  obtain ⟨f, x, y, e1, e2, e3, rfl, e5⟩ := h
  obtain ⟨l, vs, rfl, _, hl, hr⟩ := ra.lst'
  obtain ⟨l', us, rfl, _, hl', hr'⟩ := rb.lst'
  obtain ⟨vx, hvx, rx⟩ := hr.get e1
  obtain ⟨vy, hvy, ry⟩ := hr'.get e2
  obtain ⟨t, rfl⟩ := rx.int'
  obtain ⟨t', rfl⟩ := ry.int'
  rw [oneLt'_eq, if_pos rfl]
  refine wpAny_bind (wpAny_cRoomFor (Nat.lt_of_le_of_lt (Nat.le_add_right _ _) hu) ?_)
  obtain ⟨⟨cls, dd, data, sl⟩, ho, hc, n, hd⟩ := id hl
  obtain ⟨⟨cls2, dd2, data2, sl2⟩, ho2, hc2, n2, hd2⟩ := id hl'
  simp only at hc hd hc2 hd2
  subst hc hd hc2 hd2
  refine wpAny_bind (wpAny_callSpecialIfBound?_slot hl.typeIs PySem.F.slot_list_lt ?_)
  have hun : A.in1.units + 60 < cLine := Nat.lt_of_le_of_lt (Nat.le_trans (Nat.le_of_eq (Nat.add_assoc A.units 1 60)) (Nat.add_le_add_left (by decide) _)) hu
  refine call_meets PySem.F.slot_list_lt hl.typeIs PySem.F.entry_list_lt (PySem.F.args_list_lt_2 _ _) (list_ltAt _ _ _ _ _ _ _ _ _ _ f x y t t' (List.getElem?_toArray ▸ hvx) (List.getElem?_toArray ▸ hvy)) ⟨ho, ho2, fun j hj v w h1 h2 => ?_, e3.go hun (ok := ok) (.int x t) (.int y t'), wpAny_truthy_bool hQ⟩
  obtain ⟨p, q, g1, g2, g3⟩ := e5 j hj
  rw [List.getElem?_toArray] at h1 h2
  exact g3.go hun (item_rel j v p ok s.heap (List.getElem?_toArray ▸ h1) g1 hr) (item_rel j w q ok s.heap (List.getElem?_toArray ▸ h2) g2 hr')
end Mine
namespace Mine
set_option genSizeOf false
set_option genInjectivity false
noncomputable def LexQ (first : Bool) (a b : List PV) (r : Bool) : Prop := ∀ {prog : Program} {w : World} {fin : Bool} {A : Around} {s : Shared} {ok : Addr → Prop} {vs us : List Value} {i : Nat} {Q : Bool → Shared → Prop}, A.units + 80 < cLine → (first = true → i = 0) → (first = false → i ≠ 0) → Rels ok s.heap vs a → Rels ok s.heap us b → Q r s → KatLex prog w A true fin Q (vs.zip us) i s
section
variable {first : Bool} {a b a' b' : List PV} {p q : PV} {r : Bool} {i j : Int}
theorem LexQ.there (h : EqQ p q true) (k : LexQ false a b r) : LexQ first (p :: a) (q :: b) r := fun {prog w fin A s ok vs us i Q} hu h1 h2 ra rb hQ => by
  obtain ⟨v, vs, rfl, rv, ra⟩ := ra.cons'
  obtain ⟨u, us, rfl, ru, rb⟩ := rb.cons'
  exact kat_cons (h.go (Nat.lt_of_le_of_lt (Nat.add_le_add_left (by decide) _) hu) rv ru prog w _ _ (kat_yes (k hu nofun (fun _ => Nat.succ_ne_zero i) ra rb hQ)))
theorem LexQ.here (h : EqQ (.int i) (.int j) false) : LexQ first (.int i :: a) (.int j :: b) (decide (i < j)) := fun {prog w fin A s ok vs us n Q} hu h1 h2 ra rb hQ => by
  obtain ⟨v, vs, rfl, rv, ra⟩ := ra.cons'
  obtain ⟨u, us, rfl, ru, rb⟩ := rb.cons'
  obtain ⟨t, rfl⟩ := rv.int'
  obtain ⟨t', rfl⟩ := ru.int'
  refine kat_cons (h.go (Nat.lt_of_le_of_lt (Nat.add_le_add_left (by decide) _) hu) rv ru prog w _ _ (kat_no ?_))
  by_cases e : n = 0
  · subst e; exact oneLt_int hQ
  · rw [show (true && n == 0) = false from beq_eq_false_iff_ne.mpr e]
    exact kat_one _ _ (PyProof.Rows.lt_int hQ)
theorem LexQ.lists (h : EqQ (.lst a') (.lst b') false) (k : LstQ a' b' r) : LexQ true (.lst a' :: a) (.lst b' :: b) r := fun {prog w fin A s ok vs us n Q} hu h1 h2 ra rb hQ => by
  obtain ⟨v, vs, rfl, rv, ra⟩ := ra.cons'
  obtain ⟨u, us, rfl, ru, rb⟩ := rb.cons'
  obtain rfl := h1 rfl
  exact kat_cons (h.go (Nat.lt_of_le_of_lt (Nat.add_le_add_left (by decide) _) hu) rv ru prog w _ _ (kat_no (oneLt_lst k (Nat.lt_of_le_of_lt (Nat.add_le_add_left (by decide) _) hu) rv ru hQ)))
noncomputable def LtQ (p q : PV) (r : Bool) : Prop := ∃ a b, p = .tup a ∧ q = .tup b ∧ LexQ true a b r
noncomputable def eqV (p q : PV) : Option {r // EqQ p q r} := if h : (pyOk p && pyOk q && decide (min (toPy p).depth (toPy q).depth ≤ 50)) = true then some ⟨_, eqQ h⟩ else none
noncomputable def lstV (a : List PV) : ∀ b, Option {r // LstQ a b r} := List.rec (motive := fun a => ∀ b, Option {r // LstQ a b r}) (fun _ => none) (fun p a ih b => match b with
  | [] => none
  | q :: b => (eqV p q).bind fun e => match e with
    | ⟨true, h⟩ => (ih b).map fun r => ⟨r.1, .there h r.2⟩
    | ⟨false, h⟩ => match p, q, h with
      | .int _, .int _, h => some ⟨_, .here h⟩
      | _, _, _ => none) a
noncomputable def lexV (a : List PV) : ∀ first b, Option {r // LexQ first a b r} := List.rec (motive := fun a => ∀ first b, Option {r // LexQ first a b r}) (fun _ _ => none) (fun p a ih first b => match b with
  | [] => none
  | q :: b => (eqV p q).bind fun e => match e with
    | ⟨true, h⟩ => (ih false b).map fun r => ⟨r.1, LexQ.there h r.2⟩
    | ⟨false, h⟩ => match first, p, q, h with
      | _, .int _, .int _, h => some ⟨_, LexQ.here h⟩
      | true, .lst x, .lst y, h => (lstV x y).map fun r => ⟨r.1, LexQ.lists h r.2⟩
      | _, _, _, _ => none) a
noncomputable def ltV (p q : PV) : Option {r // LtQ p q r} := match p, q with
  | .tup a, .tup b => (lexV a true b).map fun r => ⟨r.1, a, b, rfl, rfl, r.2⟩
  | _, _ => none
noncomputable def kasRun {α : Type} (lt : Nat → Nat → Option Bool) (t : KasT α) : Option α := KasT.rec (motive := fun _ => Option α) some (fun i j _ ih => (lt i j).bind ih) t
theorem kasRun_ok {α : Type} {lt : Nat → Nat → Option Bool} {cmp : Nat → Nat → (Bool → Shared → Prop) → Shared → Prop} {Q : α → Shared → Prop} {s : Shared} (hc : ∀ i j b C, lt i j = some b → C b s → cmp i j C s) {t : KasT α} : ∀ {a : α}, kasRun lt t = some a → Q a s → t.kasWp cmp Q s := by
  induction t with
  | ret a => intro b h hQ; exact Option.some.inj h ▸ hQ
  | ask i j k ih =>
    intro a h hQ
    obtain ⟨b, e, h⟩ := Option.bind_eq_some_iff.mp (show (lt i j).bind (fun b => kasRun lt (k b)) = some a from h)
    exact hc i j b _ e (ih b h hQ)
noncomputable def hd : PV → Option String
  | .tup (.lst _ :: _) => some "list"
  | .tup (.int _ :: _) => some "int"
  | _ => none
end
section
variable {W : Ws} {A : Around} {L : Addr} {s : Shared} {ok : Addr → Prop} {vs : List Value} {l : List PV} {m : Str → Option Value} {T : String} {p : Array Nat}
noncomputable def allNews (h : Heap) (L : Addr) : List (Addr × Obj) := ((List.range h.objs.size).filterMap fun a => (h.get? a).map fun o => (a, o)).filter fun p => p.1 != L
theorem allNews_mem {h : Heap} {L a : Addr} {o : Obj} : (a, o) ∈ allNews h L ↔ h.get? a = some o ∧ a ≠ L := by
  unfold allNews
  simp only [List.mem_filter, List.mem_filterMap, List.mem_range, Option.map_eq_some_iff, bne_iff_ne, ne_eq]
  exact ⟨fun ⟨⟨b, _, o', h1, h2⟩, h3⟩ => ⟨(Prod.mk.inj h2).1 ▸ (Prod.mk.inj h2).2 ▸ h1, h3⟩, fun ⟨h1, h2⟩ => ⟨⟨a, lt_sizeN h1, o, h1, rfl⟩, h2⟩⟩
noncomputable def noHeap : Heap := {}
theorem noHeap_get (a : Addr) : noHeap.get? a = none := get_new (Nat.zero_le _)
theorem fr0 (hn : s.heap.Ns L m) : PyProof.Rows.Fr noHeap L s.heap m := ⟨hn, fun b o e => (by rw [noHeap_get] at e; cases e), Nat.zero_le _⟩
theorem news0 : News noHeap L s.heap (allNews s.heap L) := fun p hp => ⟨(allNews_mem.mp hp).1, (allNews_mem.mp hp).2, noHeap_get _⟩
theorem fr_keep {h' : Heap} {x : Addr × Obj} (N : News noHeap L h' (x :: allNews s.heap L)) : ∀ a o, a ≠ L → s.heap.get? a = some o → h'.get? a = some o := fun a o h1 e => (N (a, o) (List.mem_cons_of_mem _ (allNews_mem.mpr ⟨e, h1⟩))).1
theorem fr_grow {h' : Heap} {x : Addr × Obj} {tk : Nat} (hn : s.heap.Ns L m) (F : PyProof.Rows.Fr noHeap L h' m) (N : News noHeap L h' (x :: allNews s.heap L)) : Grow W.B L s { s with heap := h', toks := tk } :=
  ⟨h', tk, rfl, fun a o h1 _ e => fr_keep N a o h1 e, fun m' hm' => Ns.uniq hn hm' ▸ F.ns, W.O.tiW (· = L) _ _ (fun a o q e => .inl fun vs d => by
    obtain ⟨o', es, n, e', d'⟩ := Ns.dict hn
    obtain rfl := Option.some.inj ((q ▸ e).symm.trans e')
    rw [d] at d'; cases d') fun a o q e => fr_keep N a o q e⟩
theorem fr_rels {h' : Heap} {x : Addr × Obj} (hn : s.heap.Ns L m) (N : News noHeap L h' (x :: allNews s.heap L)) (r : Rels ok s.heap vs l) : Rels ok h' vs l := r.step fun a o xs n e d q => ⟨fr_keep N a o ((Ns.dict hn).ne e fun es k z => by rw [d] at z; cases z) e, q⟩
theorem newD {D : Addr} (h : ∀ q ∈ allNews s.heap L, q.1 < D) (hL : D ≠ L) : s.heap.get? D = none := by
  cases e : s.heap.get? D with
  | none => rfl
  | some o => exact absurd (h (D, o) (allNews_mem.mpr ⟨e, hL⟩)) (Nat.lt_irrefl _)
theorem getD_rel {h : Heap} (r : Rels ok h vs l) (i : Nat) : Rel ok h (vs.getD i .none) (l.getD i .none) := by
  rw [List.getD_eq_getElem?_getD, List.getD_eq_getElem?_getD]
  cases e : l[i]? with
  | none => rw [List.getElem?_eq_none_iff.mpr (r.length ▸ List.getElem?_eq_none_iff.mp e)]; exact .none
  | some p => obtain ⟨v, hv, q⟩ := r.get e; rw [hv]; exact q
theorem map_rels {h : Heap} (r : Rels ok h vs l) : ∀ (p : List Nat), Rels ok h (p.map fun i => vs.getD i .none) (p.map fun i => l.getD i .none)
  | [] => .nil
  | i :: p => .cons (getD_rel r i) (map_rels r p)
theorem heads {h : Heap} (r : Rels ok h vs l) : l.all (fun p => hd p == some T) = true → ∃ fs, KatTups h vs fs ∧ fs.length = l.length ∧ ∀ f ∈ fs, Looks W.M h (typeOf f) (.type T) :=
  r.ind (P := fun vs l => l.all (fun p => hd p == some T) = true → ∃ fs, KatTups h vs fs ∧ fs.length = l.length ∧ ∀ f ∈ fs, Looks W.M h (typeOf f) (.type T)) (fun _ => ⟨[], KatTups.nil, rfl, fun _ q => nomatch q⟩) fun {v vs p l} x _ ih e => by
    have e := Bool.and_eq_true_iff.mp e
    obtain ⟨fs, h1, h2, h3⟩ := ih e.2
    have e1 := eq_of_beq e.1
    unfold hd at e1
    split at e1
    · obtain ⟨a, us, rfl, _, ⟨o, ho, hc, n, d⟩, r⟩ := x.tup'
      obtain ⟨u, us, rfl, ru, _⟩ := r.cons'
      obtain ⟨b, ws, rfl, _, ⟨o2, ho2, hc2, _⟩, _⟩ := ru.lst'
      exact ⟨_ :: fs, KatTups.cons ho hc d rfl h1, congrArg (· + 1) h2, fun f hf => (List.mem_cons.mp hf).elim (fun q => q ▸ Option.some.inj e1 ▸ hc2 ▸ (Looks.ld ho2).andThen .now) (h3 f)⟩
    · obtain ⟨a, us, rfl, _, ⟨o, ho, hc, n, d⟩, r⟩ := x.tup'
      obtain ⟨u, us, rfl, ru, _⟩ := r.cons'
      obtain ⟨t, rfl⟩ := ru.int'
      exact ⟨_ :: fs, KatTups.cons ho hc d rfl h1, congrArg (· + 1) h2, fun f hf => (List.mem_cons.mp hf).elim (fun q => q ▸ Option.some.inj e1 ▸ Looks.of_pure rfl) (h3 f)⟩
    · cases e1
theorem bi_sorted0 : OpN W (biF "sorted") [.lst []] (.lst []) := opN1 fun {A L s v ok} C ra => by
  obtain ⟨b, vs, rfl, hl, hr⟩ := ra
  obtain ⟨m, hn⟩ := C.ns
  obtain rfl := hr.nil'
  refine kso_sorted (fr0 hn) news0 hl IntsAre.nil (by decide) fun D vs' ns' c h' F N hltD hi hln _ _ _ => ?_
  obtain rfl : ns' = [] := List.eq_nil_of_length_eq_zero hln
  obtain rfl : vs' = [] := by cases hi; rfl
  have hm := N _ List.mem_cons_self
  exact ⟨.lst (.inr (newD hltD hm.2.1)) ⟨_, hm.1, rfl, c, rfl⟩ .nil, fr_grow (tk := s.toks) hn F N⟩
theorem bi_sorted (hT : (T != "tuple") = true) (h : (decide (2 ≤ l.length) && decide (l.length < 64) && l.all (fun p => hd p == some T)) = true) (hp : kasRun (fun i j => (ltV (l.getD i .none) (l.getD j .none)).map (·.1)) (kas_sort l.length) = some p) :
    OpN W (biF "sorted") [.lst l] (.lst (p.toList.map fun i => l.getD i .none)) := opN1 fun {A L s v ok} C ra => by
  obtain ⟨b, vs, rfl, hl, hr⟩ := ra
  obtain ⟨m, hn⟩ := C.ns
  have hlen := hr.length
  have h := Bool.and_eq_true_iff.mp h
  have k := Bool.and_eq_true_iff.mp h.1
  have k1 := of_decide_eq_true k.1
  refine kat_sorted (fr0 hn) news0 hl (hlen ▸ k1) (hlen ▸ of_decide_eq_true k.2) fun D e1 h' F N hlt => ?_
  have hr1 := fr_rels hn N hr
  obtain ⟨fs, ht, hfl, hf⟩ := heads (W := W) hr1 h.2
  refine kat_kind ht (hfl ▸ Nat.lt_of_lt_of_le (by decide) k1) hf (beq_self_eq_true _) ?_
  rw [hlen, show (Value.type T != Value.type "tuple") = true from bne_iff_ne.mpr fun q => bne_iff_ne.mp hT (Value.type.inj q)]
  refine kasRun_ok (fun i j bb Cc e hCc => ?_) hp (KasFin.intro F N (UpdF.head fun q hq => Nat.ne_of_lt (hlt q hq)) fun h'' c F' N' => ?_)
  · unfold kas_ask
    obtain ⟨⟨r, a, a', e1, e2, hx⟩, _, rfl⟩ := Option.map_eq_some_iff.mp e
    have r1 := getD_rel hr1 i
    have r2 := getD_rel hr1 j
    rw [e1] at r1
    rw [e2] at r2
    obtain ⟨x1, us, q1, _, ⟨o, ho, _, n, d⟩, r1⟩ := r1.tup'
    obtain ⟨x2, ws, q2, _, ⟨o', ho', _, n', d'⟩, r2⟩ := r2.tup'
    rw [q1, q2]
    refine kat_lt ho d ho' d' (hx ?_ (fun _ => rfl) nofun r1 r2 hCc)
    exact Nat.lt_of_le_of_lt (Nat.le_trans (Nat.le_of_eq (by rfl : A.units + 1 + 1 + 80 = A.units + 82)) (Nat.add_le_add_left (by decide : 82 ≤ 100) _)) (unitsLt C.room (Nat.le_refl 100))
  · have hm := N' _ List.mem_cons_self
    exact ⟨.lst (.inr (newD hlt hm.2.1)) ⟨_, hm.1, rfl, c, rfl⟩ ((map_rels (fr_rels hn N' hr) p.toList).weak fun _ => .inl), fr_grow (tk := s.toks) hn F' N'⟩
end
end Mine
namespace Mine
set_option genSizeOf false
set_option genInjectivity false
theorem and1 {a b : Bool} (h : (a && b) = true) : a = true := (Bool.and_eq_true_iff.mp h).1
theorem and2 {a b : Bool} (h : (a && b) = true) : b = true := (Bool.and_eq_true_iff.mp h).2
noncomputable def Vc.map {α β : Type} {J : α → Prop} {K : β → Prop} (a : Vc J) (g : α → β) (k : ∀ {p}, J p → K (g p)) : Vc K := ⟨g a.val, a.ob, fun h => k (a.ok h)⟩
noncomputable def Vc.bind {α β : Type} {J : α → Prop} {K : β → Prop} (a : Vc J) (f : ∀ p, Vc fun r => J p → K r) : Vc K := ⟨(f a.val).val, a.ob && (f a.val).ob, fun h => (f a.val).ok (and2 h) (a.ok (and1 h))⟩
noncomputable def Vc.two {α β γ δ : Type} {J1 : α → Prop} {J2 : β → Prop} {J3 : α → β → γ → Prop} {J : δ → Prop} (a : Vc J1) (b : Vc J2) (f : ∀ p q, Vc (J3 p q)) (g : γ → δ) (k : ∀ {p q r}, J1 p → J2 q → J3 p q r → J (g r)) : Vc J :=
  ⟨g (f a.val b.val).val, a.ob && (b.ob && (f a.val b.val).ob), fun h => k (a.ok (and1 h)) (b.ok (and1 (and2 h))) ((f a.val b.val).ok (and2 (and2 h)))⟩
noncomputable def Vc.need {α : Type} {J : α → Prop} (b : Bool) (a : b = true → Vc J) (z : α) : Vc J := if h : b = true then a h else .no z
noncomputable def Vc.and {α : Type} {J K : α → Prop} (b : Bool) (a : Vc J) (k : ∀ {p}, b = true → J p → K p) : Vc K := ⟨a.val, b && a.ob, fun h => k (and1 h) (a.ok (and2 h))⟩
noncomputable def optC {α : Type} (o : Option α) : Option {a // o = some a} := match o with
  | some a => some ⟨a, rfl⟩
  | none => none
noncomputable section
variable (W : Ws)
noncomputable def binV (op : Operator) (p q : PV) : Vc (Op2 W (binaryOp op) p q) := match p with
  | .int i => match q with
    | .int j => binII W i j op
    | _ => .no .none
  | .str x => match q with
    | .str y => match op with
      | .Add => ⟨_, _, op_addS (x := x) (y := y)⟩
      | _ => .no .none
    | .int j => match op with
      | .Mult => ⟨_, _, op_mulS (x := x) (j := j)⟩
      | _ => .no .none
    | _ => .no .none
  | .bytes b => match q with
    | .bytes d => match op with
      | .Add => ⟨_, _, op_addB (b := b) (d := d)⟩
      | _ => .no .none
    | _ => .no .none
  | .lst l => match q with
    | .lst m => match op with
      | .Add => ⟨_, _, op_addL (l := l) (m := m)⟩
      | _ => .no .none
    | _ => .no .none
  | _ => .no .none
noncomputable def eqG (p q : PV) (op : CmpOp) : Vc (fun z => Op2 W (compareOp op) p q (.bool z)) := match op with
  | .Eq => ⟨_, _, op_eq (p := p) (q := q)⟩
  | .NotEq => ⟨_, _, op_ne (p := p) (q := q)⟩
  | _ => .no false
noncomputable def cmpV (op : CmpOp) (p q : PV) : Vc (fun z => Op2 W (compareOp op) p q (.bool z)) := match p with
  | .int i => match q with
    | .int j => match op with
      | .Lt => ⟨decide (i < j), true, fun _ => op2B fun h => PyProof.Rows.lt_int h⟩
      | .LtE => ⟨decide (i ≤ j), true, fun _ => op2B fun h => PyProof.Rows.le_int h⟩
      | .Gt => ⟨decide (i > j), true, fun _ => op2B fun h => PyProof.Rows.gt_int h⟩
      | .GtE => ⟨decide (i ≥ j), true, fun _ => op2B fun h => PyProof.Rows.ge_int h⟩
      | op => eqG W (.int i) (.int j) op
    | _ => .no false
  | .bytes b => match q with
    | .bytes d => match op with
      | .Eq => ⟨_, true, fun _ => op_eqB⟩
      | .NotEq => ⟨_, true, fun _ => op_neB⟩
      | _ => .no false
    | _ => .no false
  | .str x => match q with
    | .str y => match op with
      | .NotIn => ⟨_, true, fun _ => op_notInS⟩
      | op => eqG W (.str x) (.str y) op
    | _ => .no false
  | .ty m => match q with
    | .ty n => match op with
      | .IsNot => ⟨_, true, fun _ => op_isNotT⟩
      | _ => .no false
    | _ => .no false
  | .none => match q with
    | .none => match op with
      | .Is => ⟨true, true, fun _ => op_isNone⟩
      | _ => .no false
    | _ => .no false
  | .lst l => match q with
    | .none => match op with
      | .Is => ⟨false, true, fun _ => op_isNoneL⟩
      | _ => .no false
    | q => eqG W (.lst l) q op
  | .tup l => match q with
    | .lst m => match op with
      | .NotIn => ⟨_, _, op_notIn (p := .tup l) (l := m)⟩
      | _ => .no false
    | q => eqG W (.tup l) q op
  | _ => .no false
noncomputable def unV (op : UnaryOp) (p : PV) : Vc (Op1 W (unaryOp op) p) := match p with
  | .int i => unI W i op
  | _ => .no .none
noncomputable def inpV (op : Operator) (p q : PV) : Vc (Op2 W (inplaceOp op) p q) := match p with
  | .int i => match q with
    | .int j => inpII W i j op
    | _ => .no .none
  | _ => .no .none
noncomputable def truV (p : PV) : Vc (Tru W p) := match p with
  | .bool b => ⟨b, true, fun _ => tru_bool⟩
  | .int i => ⟨_, true, fun _ => tru_int (i := i)⟩
  | .str x => ⟨_, _, tru_str (x := x)⟩
  | .lst l => ⟨_, _, tru_lst (l := l)⟩
  | _ => .no false
noncomputable def itemV (p : PV) (i : Int) : Vc (fun r => GetQ p ∧ Op2 W getItem p (.int i) r) := match p with
  | .lst l => match optC l[i.toNat]? with
    | some ⟨v, e⟩ => ⟨v, decide (0 ≤ i) && decide (i < 1048576), fun h => ⟨getQ_lst, op_itemL h e⟩⟩
    | none => .no .none
  | .tup l => match optC l[i.toNat]? with
    | some ⟨v, e⟩ => ⟨v, decide (0 ≤ i) && decide (i < 1048576), fun h => ⟨getQ_tup, op_itemT h e⟩⟩
    | none => .no .none
  | _ => .no .none
noncomputable def slV (p : PV) (lo hi : Option Int) : Vc (fun r => GetQ p ∧ SlQ W p lo hi r) := match p with
  | .lst l => ⟨_, _, fun h => ⟨getQ_lst, sl_lst (l := l) h⟩⟩
  | .bytes b => ⟨_, _, fun h => ⟨getQ_bytes, sl_bytes (b := b) h⟩⟩
  | _ => .no .none
end
end Mine
namespace Mine
set_option genSizeOf false
set_option genInjectivity false
inductive CallQ (W : Ws) (x : Str) (ps : List PV) (r : PV) : Prop
  | bi {id : String} : GlobV W x (.bi id) → OpN W (biF id) ps r → CallQ W x ps r
  | ty {id : String} : GlobV W x (.ty id) → OpN W (tyF id) ps r → CallQ W x ps r
  | fn {n : Addr} : GlobV W x (.obj n) → (∃ o fd, W.B.g.get? n = some o ∧ o.data = .func fd) → Spc false W n ps r → CallQ W x ps r
structure IterQ (W : Ws) (x : Str) (tgt : Expr) (ps items : List PV) : Prop where
  go : ∃ id, GlobV W x (.ty id) ∧ ∀ {F : Fr W} {ρ : Loc} {σ : Sto} {stk : List Pend} {as : Option Addr} {s : Shared} {us : List Value}, Inv F ρ σ (.row us ps :: stk) as s → wpAny W.M F.A (call (.type id) us) (fun x s₂ => wpAny W.M F.A (pyIter x) (Ready F tgt items ρ σ stk as) NoE s₂) NoE s
structure Gam (W : Ws) where
  call : ∀ (x : Str) (ps : List PV), Vc (CallQ W x ps)
  glob : ∀ x : Str, Option {p : PV // GlobV W x p}
  meth : ∀ (p : PV) (m : Str) (ps : List PV), Vc (MethQ W p m ps)
  iter : ∀ (x : Str) (tgt : Expr), Option (∀ ps : List PV, Vc (IterQ W x tgt ps))
  item : ∀ (p : PV) (i : Int), Vc (fun r => GetQ p ∧ Op2 W getItem p (.int i) r)
noncomputable def plainBase : Expr → Bool
  | .Name .. => true
  | .Constant .. => true
  | _ => false
noncomputable def isSlice : Expr → Bool
  | .Slice .. => true
  | _ => false
section
variable {W : Ws} {sc : Scope} {σ : Sto} {ρ ρ' : Loc} {e tgt : Expr} {es : List Expr} {ps items l m : List PV} {p v : PV} {x : Str} {xp pos : Pos} {i j : Int} {b : Array UInt8} {g : Comprehension}
theorem Ev.callQ (hx : gloQ sc x = true) (h : Ars W sc σ ρ es ps) (hf : CallQ W x ps v) : Vl W sc σ ρ (.Call (.Name x xp) es [] pos) v := match hf with
  | .bi g k => Ev.callB hx g h k
  | .ty g k => Ev.callT hx g h k
  | .fn g k1 k2 => Ev.callF hx g k1 h k2
theorem base_ok (h : plainBase e = true) {a : Str} {env : Env} : attributeBase e a env (eval e env) = eval e env := by
  cases e <;> first | rfl | cases h
theorem slice_ok (h : (!isSlice e) = true) (o i : Value) : subscripted e false o i = operate [o, i] (getItem o i) := by
  cases e <;> first | rfl | cases h
theorem pg_ok (h : (okE g.iter && g.is_async == 0) = true) : Pg g := ⟨fun env x => by
  have h := and1 h
  generalize g.iter = it at *
  cases it with
  | Set => cases h
  | _ => rfl, eq_of_beq (and2 h)⟩
theorem Itm.lst (h : Vl W sc σ ρ e (.lst items)) : Itm W sc σ ρ tgt e items := fun hs I => go (h hs I) fun _ _ I => ready_list I
theorem Itm.tup (h : Vl W sc σ ρ e (.tup items)) : Itm W sc σ ρ tgt e items := fun hs I => go (h hs I) fun _ _ I => ready_tuple I
theorem Itm.bytes (h : Vl W sc σ ρ e (.bytes b)) : Itm W sc σ ρ tgt e (b.toList.map fun x => .int (x.toNat : Int)) := fun hs I => go (h hs I) fun _ _ I => by
  obtain ⟨t, rfl⟩ := Rel.bytes' I.stk.1
  exact ready_bytes (I.stk' fun k => k.2)
theorem Itm.call (hx : gloQ sc x = true) (h : Evs W sc σ ρ es ps) (hq : IterQ W x tgt ps items) : Itm W sc σ ρ tgt (.Call (.Name x xp) es [] pos) items := fun hs I => by
  obtain ⟨id, hg, hK⟩ := hq.go
  refine wpAny_Call_NameR (I.loadG (hs ▸ hx) hg fun fv rf => ?_)
  obtain rfl := Rel.ty' (rf (ok := fun _ => True))
  exact PySem.callWith_type (h.pl _ pos) (evalArgs_any (h.pl _ pos) (go (h.wp pos hs I) fun _ _ I => hK I))
theorem iter_range1 (hg : GlobV W x (.ty "range")) (h : decide (i.natAbs < 2 ^ 40) = true) : IterQ W x tgt [.int i] ((List.range i.toNat).map fun (k : Nat) => .int (k : Int)) := ⟨_, hg, fun I => ready_range1 (of_decide_eq_true h) I⟩
theorem iter_range3 (hg : GlobV W x (.ty "range")) (h : (decide (i.natAbs < 2 ^ 40) && decide (j.natAbs < 2 ^ 40)) = true) : IterQ W x tgt [.int i, .int j, .int (-1)] ((List.range (i - j).toNat).map fun (k : Nat) => .int (i + (k : Int) * (-1))) := ⟨_, hg, fun I => ready_range3 ⟨of_decide_eq_true (and1 h), of_decide_eq_true (and2 h)⟩ I⟩
theorem row1 {F : Fr W} {stk : List Pend} {as : Option Addr} {s : Shared} {us : List Value} (I : Inv F ρ σ (.row us [p] :: stk) as s) : ∃ v, us = [v] := by
  obtain ⟨v, ws, rfl, _, r⟩ := I.stk.1.cons'
  exact ⟨v, by rw [r.nil']⟩
theorem iter_rev (hg : GlobV W x (.ty "reversed")) : IterQ W x tgt [.lst l] l.reverse := ⟨_, hg, fun I => by obtain ⟨v, rfl⟩ := row1 I; exact ready_rev I⟩
theorem iter_enum {ts : List Expr} {k : Nat} (hg : GlobV W x (.ty "enumerate")) : IterQ W x (.Tuple ts k pos) [.lst l] (numbered l) := ⟨_, hg, fun I => by obtain ⟨v, rfl⟩ := row1 I; exact ready_enum I⟩
theorem iter_zip {ts : List Expr} {k : Nat} (hg : GlobV W x (.ty "zip")) : IterQ W x (.Tuple ts k pos) [.lst l, .lst m] (paired l m) := ⟨_, hg, fun I => by
  obtain ⟨v, ws, rfl, _, r⟩ := I.stk.1.cons'
  obtain ⟨u, ws, rfl, _, r⟩ := r.cons'
  obtain rfl := r.nil'
  exact ready_zip I⟩
theorem Asg.fresh (h : (ρ.lookup x).isNone = true) (y : Str) (r : RV) (e : ρ.lookup y = some r) : (setP x (.val p) ρ).lookup y = some r := by
  rw [setP_look]
  exact (if_neg fun q => by rw [eq_of_beq q] at e; rw [e] at h; cases h).trans e
end
noncomputable section
variable {W : Ws} {σ : Sto} {sc : Scope} {ρ : Loc}
noncomputable def rdV {e : Expr} (x : Vc (Ev W sc σ ρ e)) : Vc (fun p => Rd W sc σ ρ e p) := match x with
  | ⟨.val p, o, k⟩ => ⟨p, o, fun h => Ev.rv (k h)⟩
  | ⟨.own, o, k⟩ => match σ, k with
    | some l, k => ⟨.lst l, o, fun h => Ev.ro (k h)⟩
    | none, _ => .no .none
  | ⟨.rd p, o, k⟩ => ⟨p, o, k⟩
noncomputable def vlV {e : Expr} (x : Vc (Ev W sc σ ρ e)) : Vc (fun p => Vl W sc σ ρ e p) := match x with
  | ⟨.val p, o, k⟩ => ⟨p, o, k⟩
  | _ => .no .none
noncomputable def evsV (f : ∀ e, Vc (fun v => Vl W sc σ ρ e v)) (es : List Expr) : Vc (Evs W sc σ ρ es) := List.rec (motive := fun es => Vc (Evs W sc σ ρ es)) ⟨[], true, fun _ => .nil⟩ (fun e _ r => ⟨(f e).val :: r.val, okE e && ((f e).ob && r.ob), fun h => .cons ((f e).ok (and1 (and2 h))) (r.ok (and2 (and2 h))) (and1 h)⟩) es
noncomputable def arsV (f : ∀ e, Vc (fun v => Rd W sc σ ρ e v)) (es : List Expr) : Vc (Ars W sc σ ρ es) := List.rec (motive := fun es => Vc (Ars W sc σ ρ es)) ⟨[], true, fun _ => .nil⟩ (fun e _ r => ⟨(f e).val :: r.val, okE e && ((f e).ob && r.ob), fun h => .cons ((f e).ok (and1 (and2 h))) (r.ok (and2 (and2 h))) (and1 h)⟩) es
noncomputable def AsgJ (W : Ws) (ro : Bool) (sc : Scope) (t : Expr) (p : PV) (ρ ρ' : Loc) : Prop := Asg W ro sc t p ρ ρ' ∧ (ro = true → ∀ x r, ρ.lookup x = some r → ρ'.lookup x = some r)
noncomputable def AsgsJ (W : Ws) (ro : Bool) (sc : Scope) (ts : List Expr) (l : List PV) (ρ ρ' : Loc) : Prop := Asgs W ro sc ts l ρ ρ' ∧ (ro = true → ∀ x r, ρ.lookup x = some r → ρ'.lookup x = some r)
theorem star_asg {t : Expr} {ts : List Expr} {env : Env} (h : okE t = true) : assignEach (t :: ts) env = (false, assign t env) :: assignEach ts env := by cases t <;> first | rfl | cases h
variable (W sc) in
noncomputable def asgsV (ro : Bool) (f : ∀ t p ρ, Vc (AsgJ W ro sc t p ρ)) (ts : List Expr) : ∀ l ρ, Vc (AsgsJ W ro sc ts l ρ) := List.rec (motive := fun ts => ∀ l ρ, Vc (AsgsJ W ro sc ts l ρ)) (fun l ρ => match l with
  | [] => ⟨ρ, true, fun _ => ⟨.nil, fun _ _ _ => id⟩⟩
  | _ => .no ρ) (fun t ts ih l ρ => match l with
  | [] => .no ρ
  | p :: l => ⟨(ih l (f t p ρ).val).val, okE t && ((f t p ρ).ob && (ih l (f t p ρ).val).ob), fun h => have a := (f t p ρ).ok (and1 (and2 h)); have b := (ih l (f t p ρ).val).ok (and2 (and2 h)); ⟨.cons a.1 b.1 fun env => star_asg (and1 h), fun e x r k => b.2 e x r (a.2 e x r k)⟩⟩) ts
variable (W sc) in
noncomputable def asgV (ro : Bool) (n : Nat) : ∀ t p ρ, Vc (AsgJ W ro sc t p ρ) := Nat.rec (motive := fun _ => ∀ t p ρ, Vc (AsgJ W ro sc t p ρ)) (fun _ _ ρ => .no ρ) (fun _ ih t p ρ => match t with
  | .Name x pos => match optC (sc.names.lookup x) with
    | some ⟨.local, e⟩ => ⟨setP x (.val p) ρ, !ro || (ρ.lookup x).isNone, fun h => ⟨Asg.name e, fun q => Asg.fresh (by rw [q] at h; exact h)⟩⟩
    | some ⟨.cell, e⟩ => match ro with
      | false => ⟨setP x (.val p) ρ, true, fun _ => ⟨Asg.cell e, nofun⟩⟩
      | true => .no ρ
    | _ => .no ρ
  | .Tuple ts k pos => match p with
    | .tup l => (asgsV W sc ro ih ts l ρ).map id fun h => ⟨Asg.tup h.1, h.2⟩
    | .lst l => (asgsV W sc ro ih ts l ρ).map id fun h => ⟨Asg.tupL h.1, h.2⟩
    | _ => .no ρ
  | _ => .no ρ) n
end
end Mine
namespace Mine
set_option genSizeOf false
set_option genInjectivity false
noncomputable def pgQ (g : Comprehension) : Bool := okE g.iter && g.is_async == 0
section
variable {W : Ws} {sc csc : Scope} {σ : Sto} {ρ : Loc} {g : Comprehension} {rest : List Comprehension} {elt : Expr} {items a l : List PV} {pos : Pos}
theorem Tst.cmp {op : CmpOp} {l r : Expr} {p q : PV} {z : Bool} (h1 : Rd W sc σ ρ l p) (h2 : Rd W sc σ ρ r q) (h3 : Op2 W (compareOp op) p q (.bool z)) (hb : behindInMarks op r = false) : Tst W sc σ ρ (.Compare l [op] [r] pos) z := fun hs I =>
  wpAny_isTrue_Compare1 (go (h1 hs I) fun _ _ I => go (h2 hs I) fun _ _ I => go (h3.use I) fun _ _ I => tru_bool.use I.rd) hb
theorem pgs_ok (h : (g :: rest).all pgQ = true) : ∀ g' ∈ g :: rest, Pg g' := fun g' q => pg_ok (List.all_eq_true.mp h g' q)
theorem Gn.more' (hp : (g :: rest).all pgQ = true) (h1 : Itm W sc σ ρ g.target g.iter items) (h2 : Turns (TurnOk W sc σ ρ g rest elt) items a) : Gn W sc σ ρ (g :: rest) elt a := by
  have hp := pgs_ok hp
  obtain ⟨t, it, ifs, b⟩ := g
  obtain rfl : b = 0 := (hp _ List.mem_cons_self).2
  exact fun {all csc pos d D G stk as acc K s} => Gn.more (t := t) (it := it) (ifs := ifs) hp h1 h2 (G := G)
theorem Ev.comp' (h : (compQ sc csc && ((g :: rest).all pgQ && decide (l.length ≤ 1048576))) = true) (h1 : Itm W sc σ ρ g.target g.iter items) (h2 : Turns (TurnOk W (relabelP csc sc) σ (outerP csc ρ) g rest elt) items l) : Vl W sc σ ρ (.ListComp elt (g :: rest) csc pos) (.lst l) := by
  have hp := pgs_ok (and1 (and2 h))
  obtain ⟨t, it, ifs, b⟩ := g
  obtain rfl : b = 0 := (hp _ List.mem_cons_self).2
  exact fun {F stk as s} => Ev.comp (t := t) (it := it) (ifs := ifs) (and1 h) hp h1 h2 (of_decide_eq_true (and2 (and2 h))) (F := F)
end
noncomputable section
variable {W : Ws} (Γ : Gam W) (σ : Sto)
noncomputable abbrev Two (W : Ws) (σ : Sto) : Type := ∀ sc ρ e, Vc (Ev W sc σ ρ e) × Vc (Tst W sc σ ρ e)
variable (ih : Two W σ) (sc : Scope) (ρ : Loc)
noncomputable def itmV (tgt e : Expr) (v : Vc (Ev W sc σ ρ e)) (f : ∀ sc ρ e, Vc (Ev W sc σ ρ e)) : Vc (fun items => Itm W sc σ ρ tgt e items) :=
  have z : Vc (fun items => Itm W sc σ ρ tgt e items) := match vlV v with
    | ⟨.lst l, o, k⟩ => ⟨l, o, fun h => Itm.lst (k h)⟩
    | ⟨.tup l, o, k⟩ => ⟨l, o, fun h => Itm.tup (k h)⟩
    | ⟨.bytes b, o, k⟩ => ⟨_, o, fun h => Itm.bytes (k h)⟩
    | _ => .no []
  match e, z with
  | .Call (.Name x xp) es [] pos, z => match Γ.iter x tgt with
    | some q => have a := evsV (fun e => vlV (f sc ρ e)) es; have b := q a.val; ⟨b.val, gloQ sc x && (a.ob && b.ob), fun h => Itm.call (and1 h) (a.ok (and1 (and2 h))) (b.ok (and2 (and2 h)))⟩
    | none => z
  | _, z => z
variable {σ}
noncomputable def ifsV (es : List Expr) : Vc (Ifs W sc σ ρ es) := match es with
  | [] => ⟨true, true, fun _ => Ifs.nil⟩
  | [e] => (ih sc ρ e).2.map id Ifs.one
  | _ => .no false
noncomputable def turnV (elt : Expr) (g : Comprehension) (rest : List Comprehension) (r : ∀ ρ, Vc (Gn W sc σ ρ rest elt)) (p : PV) : Vc (TurnOk W sc σ ρ g rest elt p) :=
  have a := asgV W sc true 3 g.target p ρ
  match ifsV ih sc a.val g.ifs with
  | ⟨true, o, k⟩ => ⟨(r a.val).val, a.ob && (o && (r a.val).ob), fun h => .yes (a.ok (and1 h)).1 (k (and1 (and2 h))) ((r a.val).ok (and2 (and2 h))) ((a.ok (and1 h)).2 rfl)⟩
  | ⟨false, o, k⟩ => ⟨[], a.ob && o, fun h => .no (a.ok (and1 h)).1 (k (and2 h)) ((a.ok (and1 h)).2 rfl)⟩
noncomputable def turnsV (elt : Expr) (g : Comprehension) (rest : List Comprehension) (r : ∀ ρ, Vc (Gn W sc σ ρ rest elt)) (items : List PV) : Vc (Turns (TurnOk W sc σ ρ g rest elt) items) :=
  List.rec (motive := fun items => Vc (Turns (TurnOk W sc σ ρ g rest elt) items)) ⟨[], true, fun _ => .nil⟩ (fun p _ z => have a := turnV ih sc ρ elt g rest r p; ⟨a.val ++ z.val, a.ob && z.ob, fun h => .cons (a.ok (and1 h)) (z.ok (and2 h))⟩) items
noncomputable def gnV (elt : Expr) (gs : List Comprehension) : ∀ ρ, Vc (Gn W sc σ ρ gs elt) := List.rec (motive := fun gs => ∀ ρ, Vc (Gn W sc σ ρ gs elt)) (fun ρ => (vlV (ih sc ρ elt).1).map (fun p => [p]) Gn.last)
  (fun g rest r ρ => have a := itmV Γ σ sc ρ g.target g.iter (ih sc ρ g.iter).1 fun sc ρ e => (ih sc ρ e).1
    have b := turnsV ih sc ρ elt g rest r a.val
    ⟨b.val, (g :: rest).all pgQ && (a.ob && b.ob), fun h => Gn.more' (and1 h) (a.ok (and1 (and2 h))) (b.ok (and2 (and2 h)))⟩) gs
noncomputable def compV (elt : Expr) (gs : List Comprehension) (csc : Scope) (pos : Pos) : Vc (Ev W sc σ ρ (.ListComp elt gs csc pos)) := match gs with
  | [] => .no .own
  | g :: rest => have a := itmV Γ σ sc ρ g.target g.iter (ih sc ρ g.iter).1 fun sc ρ e => (ih sc ρ e).1
    have b := turnsV ih (relabelP csc sc) (outerP csc ρ) elt g rest (gnV Γ ih (relabelP csc sc) elt rest) a.val
    ⟨.val (.lst b.val), (compQ sc csc && ((g :: rest).all pgQ && decide (b.val.length ≤ 1048576))) && (a.ob && b.ob), fun h => Ev.comp' (and1 h) (a.ok (and1 (and2 h))) (b.ok (and2 (and2 h)))⟩
noncomputable abbrev rdE (e : Expr) := rdV (ih sc ρ e).1
noncomputable abbrev vlE (e : Expr) := vlV (ih sc ρ e).1
noncomputable def partV (e : Option Expr) : Vc (Bnd W sc σ ρ e) := match e with
  | none => ⟨none, true, fun _ => Bnd.none⟩
  | some e => match rdE ih sc ρ e with
    | ⟨.int i, o, k⟩ => ⟨some i, o, fun h => Bnd.some (k h)⟩
    | _ => .no none
noncomputable def nameV (x : Str) (pos : Pos) : Vc (Ev W sc σ ρ (.Name x pos)) := match optC (ρ.lookup x) with
  | some ⟨r, e⟩ => ⟨r, locQ sc x, fun h => Ev.loc h e⟩
  | none => match Γ.glob x with
    | some ⟨p, g⟩ => ⟨.val p, gloQ sc x, fun h => Ev.glob h g⟩
    | none => .no .own
noncomputable def callV (f : Expr) (es : List Expr) (pos : Pos) : Vc (Ev W sc σ ρ (.Call f es [] pos)) := match f with
  | .Name x xp => have a := arsV (rdE ih sc ρ) es; have b := Γ.call x a.val; ⟨.val b.val, gloQ sc x && (a.ob && b.ob), fun h => Ev.callQ (and1 h) (a.ok (and1 (and2 h))) (b.ok (and2 (and2 h)))⟩
  | .Attribute e m ap => have a := arsV (rdE ih sc ρ) es; have z := rdE ih sc ρ e; have b := Γ.meth z.val m a.val
    ⟨.val b.val, (plainBase e && ((ap.endLine == pos.line) && decide (es.length < 29))) && (z.ob && (a.ob && b.ob)), fun h => Ev.meth (fun _ => base_ok (and1 (and1 h))) (and1 (and2 (and1 h))) (of_decide_eq_true (and2 (and2 (and1 h)))) (z.ok (and1 (and2 h))) (a.ok (and1 (and2 (and2 h)))) (b.ok (and2 (and2 (and2 h))))⟩
  | _ => .no .own
noncomputable def subV (l i : Expr) (pos : Pos) : Vc (Ev W sc σ ρ (.Subscript l i pos)) := match i with
  | .Slice lo up none q => have z := rdE ih sc ρ l; have a := partV ih sc ρ lo; have b := partV ih sc ρ up; have r := slV W z.val a.val b.val
    ⟨.val r.val, z.ob && (a.ob && (b.ob && r.ob)), fun h => have y := r.ok (and2 (and2 (and2 h))); Ev.slice y.1 (z.ok (and1 h)) (a.ok (and1 (and2 h))) (b.ok (and1 (and2 (and2 h)))) y.2⟩
  | i => match rdE ih sc ρ i with
    | ⟨.int n, o, k⟩ => have z := rdE ih sc ρ l; have r := Γ.item z.val n
      ⟨.val r.val, (!isSlice i) && (z.ob && (o && r.ob)), fun h => have y := r.ok (and2 (and2 (and2 h))); Ev.item y.1 (z.ok (and1 (and2 h))) (k (and1 (and2 (and2 h)))) y.2 (slice_ok (and1 h))⟩
    | _ => .no .own
noncomputable def evV (e : Expr) : Vc (Ev W sc σ ρ e) := match e with
  | .Name x pos => nameV Γ sc ρ x pos
  | .Constant k n pos => match optC (constP k) with
    | some ⟨v, e⟩ => ⟨.val v, true, fun _ => Ev.const e⟩
    | none => .no .own
  | .BinOp l op r pos => (rdE ih sc ρ l).two (rdE ih sc ρ r) (binV W op) RV.val Ev.bin
  | .UnaryOp op e pos => have z := rdE ih sc ρ e; have r := unV W op z.val; ⟨.val r.val, z.ob && r.ob, fun h => Ev.un (z.ok (and1 h)) (r.ok (and2 h))⟩
  | .IfExp t a b pos => match (ih sc ρ t).2 with
    | ⟨true, o, k⟩ => have z := (ih sc ρ a).1; ⟨z.val, o && z.ob, fun h => Ev.ifT (k (and1 h)) (z.ok (and2 h))⟩
    | ⟨false, o, k⟩ => have z := (ih sc ρ b).1; ⟨z.val, o && z.ob, fun h => Ev.ifF (k (and1 h)) (z.ok (and2 h))⟩
  | .Compare l [op] [r] pos => have z := (rdE ih sc ρ l).two (J := fun v => behindInMarks op r = false → Ev W sc σ ρ (.Compare l [op] [r] pos) v) (rdE ih sc ρ r) (cmpV W op) (fun z => RV.val (.bool z)) fun h1 h2 h3 => Ev.cmp h1 h2 h3
    ⟨z.val, !behindInMarks op r && z.ob, fun h => z.ok (and2 h) (Bool.not_eq_true' _ ▸ and1 h)⟩
  | .Tuple es k pos => have a := evsV (vlE ih sc ρ) es; ⟨.val (.tup a.val), decide (a.val.length ≤ 1048576) && a.ob, fun h => Ev.tup (a.ok (and2 h)) (of_decide_eq_true (and1 h))⟩
  | .List es pos => have a := evsV (vlE ih sc ρ) es; ⟨.val (.lst a.val), decide (a.val.length ≤ 1048576) && a.ob, fun h => Ev.list (a.ok (and2 h)) (of_decide_eq_true (and1 h))⟩
  | .Call f es [] pos => callV Γ ih sc ρ f es pos
  | .Subscript l i pos => subV Γ ih sc ρ l i pos
  | .ListComp elt gs csc pos => compV Γ ih sc ρ elt gs csc pos
  | _ => .no .own
noncomputable def tstsV (op : BoolOp) (es : List Expr) : Vc (Tsts W sc σ ρ op es) := match op with
  | .And => List.rec (motive := fun es => Vc (Tsts W sc σ ρ .And es)) ⟨true, true, fun _ => Tsts.andNil⟩ (fun e es r => match (ih sc ρ e).2 with
    | ⟨true, o, k⟩ => ⟨r.val, o && r.ob, fun h => Tsts.andT (k (and1 h)) (r.ok (and2 h))⟩
    | ⟨false, o, k⟩ => ⟨false, o, fun h => Tsts.andF (k h)⟩) es
  | .Or => List.rec (motive := fun es => Vc (Tsts W sc σ ρ .Or es)) ⟨false, true, fun _ => Tsts.orNil⟩ (fun e es r => match (ih sc ρ e).2 with
    | ⟨false, o, k⟩ => ⟨r.val, o && r.ob, fun h => Tsts.orF (k (and1 h)) (r.ok (and2 h))⟩
    | ⟨true, o, k⟩ => ⟨true, o, fun h => Tsts.orT (k h)⟩) es
noncomputable def tstV (e : Expr) (v : Vc (Ev W sc σ ρ e)) : Vc (Tst W sc σ ρ e) :=
  have z : Vc (Rd W sc σ ρ e) := rdV v
  have y := truV W z.val
  have f : (∀ {env}, isTrue e env (eval e env) = (do let v ← eval e env; standAt e.pos; holding [v] (truthy v))) → Vc (Tst W sc σ ρ e) := fun he => ⟨y.val, z.ob && y.ob, fun h => Tst.value (z.ok (and1 h)) (y.ok (and2 h)) fun _ => he⟩
  match e, f with
  | .UnaryOp .Not e pos, _ => (ih sc ρ e).2.map (!·) Tst.not
  | .BoolOp op es pos, _ => (tstsV ih sc ρ op es).map id Tst.bool
  | .Compare l [op] [r] pos, _ => have z := (rdE ih sc ρ l).two (J := fun v => behindInMarks op r = false → Tst W sc σ ρ (.Compare l [op] [r] pos) v) (rdE ih sc ρ r) (cmpV W op) id fun h1 h2 h3 => Tst.cmp h1 h2 h3
    ⟨z.val, !behindInMarks op r && z.ob, fun h => z.ok (and2 h) (Bool.not_eq_true' _ ▸ and1 h)⟩
  | .Name .., f => f rfl
  | .Call .., f => f rfl
  | .Subscript .., f => f rfl
  | _, _ => .no false
noncomputable def ce (n : Nat) : Two W σ := Nat.rec (motive := fun _ => Two W σ) (fun _ _ _ => (.no .own, .no false)) (fun _ ih sc ρ e => (evV Γ ih sc ρ e, tstV ih sc ρ e (evV Γ ih sc ρ e))) n
end
end Mine
namespace Mine
set_option genSizeOf false
set_option genInjectivity false
noncomputable abbrev St3 := Fl × Loc × Sto
noncomputable abbrev ExJ (c : Bool) (W : Ws) (sc : Scope) (s : Stmt) (ρ : Loc) (σ : Sto) (z : St3) : Prop := Ex c W sc s ρ σ z.1 z.2.1 z.2.2
noncomputable abbrev ExsJ (c : Bool) (W : Ws) (sc : Scope) (s : List Stmt) (ρ : Loc) (σ : Sto) (z : St3) : Prop := Exs c W sc s ρ σ z.1 z.2.1 z.2.2
theorem Ex.asgComp' {c : Bool} {W : Ws} {sc csc : Scope} {σ : Sto} {ρ : Loc} {g : Comprehension} {rest : List Comprehension} {elt : Expr} {items l : List PV} {x : Str} {xp cp p : Pos} (hx : stoQ sc x = true) (hsw : swapsWith (.ListComp elt (g :: rest) csc cp) (some (.Name x xp)) p.line (dEnv sc) = pure true)
    (h : (compQ sc csc && ((g :: rest).all pgQ && decide (l.length ≤ 1048576))) = true) (h1 : Itm W sc σ ρ g.target g.iter items) (h2 : Turns (TurnOk W (relabelP csc sc) σ (outerP csc ρ) g rest elt) items l) : Ex c W sc (.Assign [.Name x xp] (.ListComp elt (g :: rest) csc cp) p) ρ σ .next (setP x (.val (.lst l)) ρ) σ := by
  have hp := pgs_ok (and1 (and2 h))
  obtain ⟨t, it, ifs, b⟩ := g
  obtain rfl : b = 0 := (hp _ List.mem_cons_self).2
  exact fun {F stk as s} => Ex.asgComp (t := t) (it := it) (ifs := ifs) hx hsw (and1 h) hp h1 h2 (of_decide_eq_true (and2 (and2 h))) (F := F)
noncomputable section
noncomputable def pvC {α : Type} (x : Sem α) : Option {a // x = pure a} := match x with
  | .pure a => some ⟨a, rfl⟩
  | _ => none
variable (c : Bool) {W : Ws} (Γ : Gam W) (n : Nat) (sc : Scope)
noncomputable def mutV (W : Ws) (m : Str) (l ps : List PV) : Vc (Mut W m l ps) := match ps with
  | [] => if h : m = Str.ofString "reverse" then ⟨l.reverse, decide (l.length ≤ 1048576), fun k => h ▸ mut_reverse (of_decide_eq_true k)⟩ else .no []
  | [p] => if h : m = Str.ofString "append" then ⟨l ++ [p], decide (l.length < 1048576), fun k => h ▸ mut_append (of_decide_eq_true k)⟩ else match p with
    | .tup q => if h : m = Str.ofString "extend" then ⟨l ++ q, decide (l.length + q.length ≤ 1048576), fun k => h ▸ mut_extend (of_decide_eq_true k)⟩ else .no []
    | _ => .no []
  | _ => .no []
noncomputable abbrev noS (ρ : Loc) (σ : Sto) : St3 := (.next, ρ, σ)
noncomputable def asgN (x : Str) (xp : Pos) (e : Expr) (p : Pos) (ρ : Loc) (σ : Sto) : Vc (ExJ c W sc (.Assign [.Name x xp] e p) ρ σ) := match pvC (swapsWith e (some (.Name x xp)) p.line (dEnv sc)) with
  | some ⟨false, hw⟩ => have a := (ce Γ (σ := σ) n sc ρ e).1; ⟨(.next, setP x a.val ρ, σ), stoQ sc x && a.ob, fun h => Ex.asg (and1 h) (a.ok (and2 h)) hw⟩
  | some ⟨true, hw⟩ => match e, hw with
    | .ListComp elt (g :: rest) csc cp, hw =>
      have a := itmV Γ σ sc ρ g.target g.iter (ce Γ n sc ρ g.iter).1 fun sc ρ e => (ce Γ n sc ρ e).1
      have b := turnsV (ce Γ (σ := σ) n) (relabelP csc sc) (outerP csc ρ) elt g rest (gnV Γ (ce Γ n) (relabelP csc sc) elt rest) a.val
      ⟨(.next, setP x (.val (.lst b.val)) ρ, σ), stoQ sc x && ((compQ sc csc && ((g :: rest).all pgQ && decide (b.val.length ≤ 1048576))) && (a.ob && b.ob)), fun h => Ex.asgComp' (and1 h) hw (and1 (and2 h)) (a.ok (and1 (and2 (and2 h)))) (b.ok (and2 (and2 (and2 h))))⟩
    | _, _ => .no (noS ρ σ)
  | none => .no (noS ρ σ)
noncomputable def asgT (ts : List Expr) (k : Nat) (tp : Pos) (e : Expr) (p : Pos) (ρ : Loc) (σ : Sto) : Vc (ExJ c W sc (.Assign [.Tuple ts k tp] e p) ρ σ) := match pvC (swappedStores [.Tuple ts k tp] e (dEnv sc)) with
  | some ⟨some xs, hw⟩ => match vlV (ce Γ (σ := σ) n sc ρ e).1 with
    | ⟨.tup l, o, h1⟩ => ⟨(.next, setsP xs.reverse l.reverse ρ, σ), xs.reverse.all (stoQ sc) && (decide (xs.length = l.length) && o), fun h => Ex.tupS (EvX.of (h1 (and2 (and2 h)))) hw (and1 h) (of_decide_eq_true (and1 (and2 h)))⟩
    | _ => .no (noS ρ σ)
  | some ⟨none, hw⟩ => have a := vlV (ce Γ (σ := σ) n sc ρ e).1; have b := asgV W sc false 4 (.Tuple ts k tp) a.val ρ
    ⟨(.next, b.val, σ), a.ob && b.ob, fun h => Ex.tup (a.ok (and1 h)) hw (b.ok (and2 h)).1⟩
  | none => .no (noS ρ σ)
noncomputable def augV (x : Str) (xp : Pos) (op : Operator) (e : Expr) (p : Pos) (ρ : Loc) (σ : Sto) : Vc (ExJ c W sc (.AugAssign (.Name x xp) op e p) ρ σ) := match optC (ρ.lookup x) with
  | some ⟨.val a, hx⟩ => have b := rdV (ce Γ (σ := σ) n sc ρ e).1; have r := inpV W op a b.val
    ⟨(.next, setP x (.val r.val) ρ, σ), (stoQ sc x && locQ sc x) && (b.ob && r.ob), fun h => Ex.aug (and1 (and1 h)) (and2 (and1 h)) hx (b.ok (and1 (and2 h))) (r.ok (and2 (and2 h)))⟩
  | _ => .no (noS ρ σ)
noncomputable def turnE (x m : Str) (xp ap : Pos) (es : List Expr) (cp p : Pos) (ρ : Loc) (σ : Sto) : Vc (ExJ c W sc (.Expr (.Call (.Attribute (.Name x xp) m ap) es [] cp) p) ρ σ) := match σ with
  | none => .no (noS ρ none)
  | some l => match optC (ρ.lookup x) with
    | some ⟨.own, hx⟩ => have a := evsV (fun e => vlV (ce Γ (σ := some l) n sc ρ e).1) es; have r := mutV W m l a.val
      ⟨(.next, ρ, some r.val), (locQ sc x && (noRd ρ && ((ap.endLine == cp.line) && decide (es.length < 29)))) && (a.ob && r.ob), fun h => have k := and1 h; Ex.turn (and1 (and2 (and2 k))) (of_decide_eq_true (and2 (and2 (and2 k)))) (and1 k) hx (and1 (and2 k)) (a.ok (and1 (and2 h))) (r.ok (and2 (and2 h)))⟩
    | _ => .no (noS ρ (some l))
variable (ih : ∀ s ρ σ, Vc (ExJ c W sc s ρ σ))
noncomputable def exsV (ss : List Stmt) : ∀ ρ σ, Vc (ExsJ c W sc ss ρ σ) := List.rec (motive := fun ss => ∀ ρ σ, Vc (ExsJ c W sc ss ρ σ)) (fun ρ σ => ⟨(.next, ρ, σ), true, fun _ => Exs.nil⟩) (fun s ss r ρ σ => match ih s ρ σ with
  | ⟨(.next, ρ₁, σ₁), o, k⟩ => have b := r ρ₁ σ₁; ⟨b.val, o && b.ob, fun h => Exs.cons (k (and1 h)) (b.ok (and2 h))⟩
  | ⟨(.ret v, ρ₁, σ₁), o, k⟩ => ⟨(.ret v, ρ₁, σ₁), o, fun h => Exs.ret (k h)⟩) ss
noncomputable def loopV (t : Expr) (body : List Stmt) (items : List PV) : ∀ ρ σ, Vc (fun z : Loc × Sto => Loop c W sc t body items ρ σ z.1 z.2) := List.rec (motive := fun items => ∀ ρ σ, Vc (fun z : Loc × Sto => Loop c W sc t body items ρ σ z.1 z.2)) (fun ρ σ => ⟨(ρ, σ), true, fun _ => .nil⟩) (fun p its r ρ σ =>
  have a := asgV W sc false 4 t p ρ
  match exsV c sc ih body a.val σ with
  | ⟨(.next, ρ₁, σ₁), o, k⟩ => have b := r ρ₁ σ₁; ⟨b.val, a.ob && (o && b.ob), fun h => .cons (a.ok (and1 h)).1 (k (and1 (and2 h))) (b.ok (and2 (and2 h)))⟩
  | _ => .no (ρ, σ)) items
noncomputable def whileV (ih : ∀ s ρ σ, Vc (ExJ false W sc s ρ σ)) (t : Expr) (body : List Stmt) (m : Nat) : ∀ ρ σ, Vc (fun z : Nat × Loc × Sto => While W sc t body z.1 ρ σ z.2.1 z.2.2) := Nat.rec (motive := fun _ => ∀ ρ σ, Vc (fun z : Nat × Loc × Sto => While W sc t body z.1 ρ σ z.2.1 z.2.2)) (fun ρ σ => .no (0, ρ, σ)) (fun _ r ρ σ =>
  match (ce Γ (σ := σ) n sc ρ t).2 with
  | ⟨false, o, k⟩ => ⟨(0, ρ, σ), o, fun h => .done (k h)⟩
  | ⟨true, o, k⟩ => match exsV false sc ih body ρ σ with
    | ⟨(.next, ρ₁, σ₁), o', k'⟩ => have b := r ρ₁ σ₁; ⟨(b.val.1 + 1, b.val.2), o && (o' && b.ob), fun h => .turn (k (and1 h)) (k' (and1 (and2 h))) (b.ok (and2 (and2 h)))⟩
    | _ => .no (0, ρ, σ)) m
noncomputable def exStep (s : Stmt) (ρ : Loc) (σ : Sto) : Vc (ExJ c W sc s ρ σ) := match s with
  | .Assign [.Name x xp] e p => asgN c Γ n sc x xp e p ρ σ
  | .Assign [.Tuple ts k tp] e p => asgT c Γ n sc ts k tp e p ρ σ
  | .AugAssign (.Name x xp) op e p => augV c Γ n sc x xp op e p ρ σ
  | .Expr (.Call (.Attribute (.Name x xp) m ap) es [] cp) p => turnE c Γ n sc x m xp ap es cp p ρ σ
  | .Return (some e) p => have a := (ce Γ (σ := σ) n sc ρ e).1; ⟨(.ret a.val, ρ, σ), a.ob, fun h => Ex.ret (a.ok h)⟩
  | .If t a b p => match (ce Γ (σ := σ) n sc ρ t).2 with
    | ⟨true, o, k⟩ => have z := exsV c sc ih a ρ σ; ⟨z.val, o && z.ob, fun h => Ex.iteT (k (and1 h)) (z.ok (and2 h))⟩
    | ⟨false, o, k⟩ => have z := exsV c sc ih b ρ σ; ⟨z.val, o && z.ob, fun h => Ex.iteF (k (and1 h)) (z.ok (and2 h))⟩
  | .For t it body [] p => have a := itmV Γ σ sc ρ t it (ce Γ n sc ρ it).1 fun sc ρ e => (ce Γ n sc ρ e).1; have b := loopV c sc ih t body a.val ρ σ
    ⟨(.next, b.val), okE it && (a.ob && b.ob), fun h => Ex.for_ (a.ok (and1 (and2 h))) (fun env x => (pg_ok (g := ⟨t, it, [], 0⟩) (Bool.and_eq_true_iff.mpr ⟨and1 h, rfl⟩)).1 env x) (b.ok (and2 (and2 h)))⟩
  | .While t body [] p => match c, ih with
    | false, ih => have b := whileV Γ n sc ih t body 100 ρ σ; ⟨(.next, b.val.2), b.ob, fun h => Ex.while_ (b.ok h)⟩
    | true, _ => .no (noS ρ σ)
  | _ => .no (noS ρ σ)
noncomputable def exV (m : Nat) : ∀ s ρ σ, Vc (ExJ c W sc s ρ σ) := Nat.rec (motive := fun _ => ∀ s ρ σ, Vc (ExJ c W sc s ρ σ)) (fun _ ρ σ => .no (noS ρ σ)) (fun _ ih s ρ σ => exStep c Γ n sc ih s ρ σ) m
noncomputable def cs (m : Nat) (ss : List Stmt) (ρ : Loc) (σ : Sto) : Vc (ExsJ c W sc ss ρ σ) := exsV c sc (exV c Γ n sc m) ss ρ σ
end
end Mine
namespace Mine
set_option genSizeOf false
set_option genInjectivity false
noncomputable def findFn (x : Str) (l : List Stmt) : Option (Arguments × List Stmt × Scope) := l.findSome? fun s => match s with
  | .FunctionDef n args body _ _ _ sc _ _ _ => if n == x then some (args, body, sc) else none
  | _ => none
noncomputable def noFn : Arguments × List Stmt × Scope := ({ posonlyargs := [], args := [], vararg := none, kwonlyargs := [], kw_defaults := [], kwarg := none, defaults := [] }, [], { kind := .function, names := [], isGenerator := false, isCoroutine := false })
noncomputable def defOf' (x : String) : Arguments × List Stmt × Scope := (findFn (Str.ofString x) PySem.Challenge.pw_wv0016_01.main.body).getD noFn
noncomputable def nv (x : String) (r : RV) : Str × RV := (Str.ofString x, r)
noncomputable abbrev ri (i : Int) : RV := .val (.int i)
noncomputable def globT : List (String × PV) := [("quotedata", .obj 48), ("_div2n1n", .obj 55), ("_int2digits", .obj 69), ("_digits2int", .obj 76), ("_divmod_pos", .obj 83), ("int_divmod", .obj 90), ("Int2AP", .obj 97),
  ("_comparable_version", .obj 110), ("_norm_version", .obj 118), ("_law_line", .obj 123), ("_law_multiples", .obj 128), ("_law_over", .obj 135), ("_law_grown", .obj 142),
  ("twin_re_1_smtplib", .obj 36), ("_twin_re_2", .obj 41), ("CRLF", .str ⟨#[13, 10]⟩), ("_DIV_LIMIT", .int 4000), ("twin_re_1_platform", .obj 102), ("_ver_stages", .obj 103),
  ("len", .bi "len"), ("divmod", .bi "divmod"), ("abs", .bi "abs"), ("sum", .bi "sum"), ("sorted", .bi "sorted"),
  ("int", .ty "int"), ("str", .ty "str"), ("range", .ty "range"), ("enumerate", .ty "enumerate"), ("zip", .ty "zip"), ("reversed", .ty "reversed"), ("type", .ty "type"), ("bytes", .ty "bytes"), ("list", .ty "list"), ("tuple", .ty "tuple"), ("map", .ty "map"), ("ValueError", .ty "ValueError")]
noncomputable def globG (x : Str) : Option PV := globT.findSome? fun p => if x == Str.ofString p.1 then some p.2 else none
noncomputable def GlobOk (W : Ws) : Prop := ∀ x p, globG x = some p → GlobV W x p
noncomputable abbrev FnV (W : Ws) : Type := ∀ (n : Addr) (ps : List PV), Vc (fun r => (∃ o fd, W.B.g.get? n = some o ∧ o.data = .func fd) ∧ Spc false W n ps r)
noncomputable abbrev MeV (W : Ws) : Type := ∀ (a : Addr) (m : Str) (ps : List PV), Vc (MethQ W (.obj a) m ps)
noncomputable section
variable (W : Ws)
noncomputable def biV (id : String) (ps : List PV) : Vc (OpN W (biF id) ps) :=
  if h : id = "len" then match ps with
    | [.lst l] => ⟨_, _, fun k => h ▸ bi_lenL (l := l) k⟩
    | [.bytes b] => ⟨_, _, fun k => h ▸ bi_lenB (b := b) k⟩
    | [.str x] => ⟨_, _, fun k => h ▸ bi_lenS (x := x) k⟩
    | _ => .no .none
  else if h : id = "divmod" then match ps with
    | [.int i, .int j] => ⟨_, _, fun k => h ▸ bi_divmod (i := i) (j := j) k⟩
    | _ => .no .none
  else if h : id = "abs" then match ps with
    | [.int i] => ⟨_, true, fun k => h ▸ bi_abs (i := i)⟩
    | _ => .no .none
  else if h : id = "sum" then match ps with
    | [.lst l] => ⟨_, _, fun k => h ▸ bi_sum (l := l) k⟩
    | _ => .no .none
  else .no .none
noncomputable def tyV (id : String) (ps : List PV) : Vc (OpN W (tyF id) ps) :=
  if h : id = "int" then match ps with
    | [.int i] => ⟨_, true, fun k => h ▸ ty_int (i := i)⟩
    | _ => .no .none
  else if h : id = "str" then match ps with
    | [.int i] => ⟨_, _, fun k => h ▸ ty_str (i := i) k⟩
    | _ => .no .none
  else if h : id = "tuple" then match ps with
    | [.lst l] => ⟨_, _, fun k => h ▸ ty_tuple (l := l) k⟩
    | _ => .no .none
  else if h : id = "list" then match ps with
    | [.bytes b] => ⟨_, _, fun k => h ▸ ty_list (b := b) k⟩
    | _ => .no .none
  else if h : id = "bytes" then match ps with
    | [.lst l] => ⟨_, _, fun k => h ▸ ty_bytes (l := l) k⟩
    | _ => .no .none
  else if h : id = "type" then match ps with
    | [.bytes b] => ⟨.ty "bytes", true, fun k => h ▸ ty_type (b := b)⟩
    | _ => .no .none
  else .no .none
variable {W}
noncomputable def iterV (x : Str) (tgt : Expr) (id : String) (g : GlobV W x (.ty id)) : Option (∀ ps : List PV, Vc (IterQ W x tgt ps)) :=
  if h : id = "range" then some fun ps => match ps with
    | [.int i] => ⟨_, _, iter_range1 (i := i) (h ▸ g)⟩
    | [.int i, .int j, .int k] => if e : k = -1 then ⟨_, _, fun q => e ▸ iter_range3 (i := i) (j := j) (h ▸ g) q⟩ else .no []
    | _ => .no []
  else if h : id = "reversed" then some fun ps => match ps with
    | [.lst l] => ⟨_, true, fun _ => iter_rev (l := l) (h ▸ g)⟩
    | _ => .no []
  else if h : id = "enumerate" then match tgt with
    | .Tuple ts k pos => some fun ps => match ps with
      | [.lst l] => ⟨_, true, fun _ => iter_enum (l := l) (h ▸ g)⟩
      | _ => .no []
    | _ => none
  else if h : id = "zip" then match tgt with
    | .Tuple ts k pos => some fun ps => match ps with
      | [.lst l, .lst m] => ⟨_, true, fun _ => iter_zip (l := l) (m := m) (h ▸ g)⟩
      | _ => .no []
    | _ => none
  else none
noncomputable def gam (G : GlobOk W) (fns : FnV W) (me : MeV W) : Gam W where
  call x ps := match optC (globG x) with
    | some ⟨.bi id, e⟩ => (biV W id ps).map (fun p => p) (.bi (G x _ e))
    | some ⟨.ty id, e⟩ => (tyV W id ps).map (fun p => p) (.ty (G x _ e))
    | some ⟨.obj n, e⟩ => (fns n ps).map id fun h => .fn (G x _ e) h.1 h.2
    | _ => .no .none
  glob x := match optC (globG x) with
    | some ⟨p, e⟩ => some ⟨p, G x p e⟩
    | none => none
  meth p m ps := match p with
    | .obj a => me a m ps
    | .int i => match ps with
      | [] => if h : m = Str.ofString "bit_length" then ⟨_, _, fun k => h ▸ meth_bits (i := i) k⟩ else .no .none
      | _ => .no .none
    | .str x => match ps with
      | [.lst l] => if h : m = Str.ofString "join" then ⟨_, _, fun k => h ▸ meth_join (x := x) (l := l) k⟩ else .no .none
      | [.str y] => if h : m = Str.ofString "split" then ⟨_, _, fun k => h ▸ meth_split (x := x) (y := y) k⟩ else .no .none
      | _ => .no .none
    | _ => .no .none
  iter x tgt := match optC (globG x) with
    | some ⟨.ty id, e⟩ => iterV x tgt id (G x _ e)
    | _ => none
  item := itemV W
end
end Mine
namespace Mine
set_option genSizeOf false
set_option genInjectivity false
theorem runFor_succ (n : Nat) (m : Sre.M) : Sre.M.runFor (n + 1) m = if m.outcome.isSome then m else Sre.M.runFor n m.step := rfl
theorem runFor_stop {m : Sre.M} (h : m.outcome.isSome = true) (n : Nat) : Sre.M.runFor n m = m := by
  cases n with
  | zero => rfl
  | succ n => rw [runFor_succ, if_pos h]
theorem runFor_add : ∀ (a b : Nat) (m : Sre.M), Sre.M.runFor (a + b) m = Sre.M.runFor b (Sre.M.runFor a m)
  | 0, b, m => by rw [Nat.zero_add]; rfl
  | a + 1, b, m => by
    rw [show a + 1 + b = (a + b) + 1 by (first | lia | omega), runFor_succ, runFor_succ]
    split
    · rename_i h
      rw [runFor_stop h]
    · exact runFor_add a b _
section
variable {M : Model} {A : Around} {E : Value → Shared → Prop} {s : Shared}
open Builtin.Re
theorem drive_ok {Q : Sre.M → Shared → Prop} : ∀ (T n : Nat) (m m' : Sre.M), Sre.M.runFor n m = m' → m'.outcome.isSome = true → n ≤ 4 * T → 1 ≤ T → Q m' s → wpAny M A (reDrive T m) Q E s
  | 0, n, m, m', _, _, _, h1, _ => by (first | lia | omega)
  | T + 1, n, m, m', hr, ho, hn, _, hQ => by
    show wpAny M A (if (m.runFor reTurnSteps).outcome.isSome then pure (m.runFor reTurnSteps) else do rule "sre.turn"; reDrive T (m.runFor reTurnSteps)) Q E s
    have h4 : reTurnSteps = 4 := rfl
    rw [h4]
    by_cases hle : n ≤ 4
    · have e : Sre.M.runFor 4 m = m' := by
        rw [show 4 = n + (4 - n) by (first | lia | omega), runFor_add, hr, runFor_stop ho]
      rw [e, if_pos ho]
      exact wpAny_pure hQ
    · have e : Sre.M.runFor (n - 4) (Sre.M.runFor 4 m) = m' := by
        rw [← runFor_add, show 4 + (n - 4) = n by (first | lia | omega)]; exact hr
      split
      · rename_i hs
        rw [runFor_stop hs] at e
        rw [e]
        exact wpAny_pure hQ
      · exact wpAny_bind (wpAny_rule (drive_ok T (n - 4) _ m' e ho (by (first | lia | omega)) (by (first | lia | omega)) hQ))
noncomputable def foundP (n : Nat) (m : Sre.M) : Option (Option Sre.M) :=
  match (Sre.M.runFor n m).outcome with
  | some .matched => some (some (Sre.M.runFor n m))
  | some .failed => some none
  | _ => none
theorem seen_ok {m : Sre.M} {Q : PUnit → Shared → Prop} (h : Q ⟨⟩ s) : ∀ (l : List Nat), wpAny M A (forIn l PUnit.unit fun i r => do if m.seen.has i = true then do rule (Sre.names.getD i ""); pure (ForInStep.yield ⟨⟩) else pure (ForInStep.yield ⟨⟩)) Q E s
  | [] => by rw [List.forIn_nil]; exact wpAny_pure h
  | i :: l => by
    rw [List.forIn_cons]
    refine wpAny_bind ?_
    split
    · exact wpAny_bind (wpAny_rule (wpAny_pure (seen_ok h l)))
    · exact wpAny_pure (seen_ok h l)
theorem toEnd_ok {Q : Option Sre.M → Shared → Prop} {n : Nat} {m : Sre.M} {r : Option Sre.M} (h : foundP n m = some r) (hn : n ≤ 2 ^ 64) (hQ : Q r s) : wpAny M A (reRunToEnd m) Q E s := by
  have ho : (Sre.M.runFor n m).outcome.isSome = true := by
    unfold foundP at h
    split at h <;> first | (rename_i e; rw [e]; rfl) | cases h
  unfold reRunToEnd
  refine wpAny_bind (drive_ok (2 ^ 64) n m _ rfl ho (by (first | lia | omega)) (by (first | lia | omega)) ?_)
  refine wpAny_bind (seen_ok ?_ _)
  unfold foundP at h
  split at h
  · rename_i e
    rw [e]
    cases h
    exact wpAny_pure hQ
  · rename_i e
    rw [e]
    cases h
    exact wpAny_pure hQ
  · cases h
end
end Mine
namespace Mine
set_option genSizeOf false
set_option genInjectivity false
theorem plainAttrs_pat : PlainAttrs "re.Pattern" :=
  ⟨⟨"object.__getattribute__", by rw [typeLookup_type, builtinLookup_eq_fast]; kernel_rfl, by decide +kernel⟩, by rw [typeLookup_type, builtinLookup_eq_fast]; kernel_rfl⟩
theorem slot_pat_sub : Slot "re.Pattern" "sub" "re.Pattern.sub" :=
  .of (owner := "re.Pattern") (n := "sub") (by rw [typeLookup_type, builtinLookup_eq_fast]; kernel_rfl) (by decide +kernel) (by decide +kernel) (by decide +kernel)
    (by first | exact .inl (by decide +kernel) | exact .inr (by decide +kernel)) (by rw [isSubtype_type]; kernel_rfl)
theorem slot_pat_split : Slot "re.Pattern" "split" "re.Pattern.split" :=
  .of (owner := "re.Pattern") (n := "split") (by rw [typeLookup_type, builtinLookup_eq_fast]; kernel_rfl) (by decide +kernel) (by decide +kernel) (by decide +kernel)
    (by first | exact .inl (by decide +kernel) | exact .inr (by decide +kernel)) (by rw [isSubtype_type]; kernel_rfl)
theorem type_pat_sub : typeOf (.builtin "re.Pattern.sub") = pure (.type "method_descriptor") := by show builtinType _ = _; rw [builtinType_eq_fast]; kernel_rfl
theorem type_pat_split : typeOf (.builtin "re.Pattern.split") = pure (.type "method_descriptor") := by show builtinType _ = _; rw [builtinType_eq_fast]; kernel_rfl
theorem entry_pat_sub : entryFor table "re.Pattern.sub" = some Builtin.«re.Pattern.sub» := entryFor_of_tree (by kernel_rfl)
theorem entry_pat_split : entryFor table "re.Pattern.split" = some Builtin.«re.Pattern.split» := entryFor_of_tree (by kernel_rfl)
theorem entry_pat_loop : entryFor table "re.Pattern.sub.loop" = some Builtin.«re.Pattern.sub.loop» := entryFor_of_fast (by kernel_rfl)
theorem plain_pat_loop : plainId "re.Pattern.sub.loop" = true := by decide +kernel
theorem args_pat_sub (a b c : Value) : argsOk "re.Pattern.sub" ⟨[a, b, c], []⟩ := by unfold argsOk; kernel_rfl
theorem args_pat_split (a b : Value) : argsOk "re.Pattern.split" ⟨[a, b], []⟩ := by unfold argsOk; kernel_rfl
structure Pat (h : Heap) (a : Addr) (code : Array Nat) (groups : Nat) : Prop where
  at_ : ∃ o fs c oc items n, h.get? a = some o ∧ o.cls = .type "re.Pattern" ∧ o.dict = none ∧ o.data = .fields fs ∧ Builtin.Re.reRawNat (fs.getD 6 .none) ≠ 1 ∧ Builtin.Re.reRawNat (fs.getD 2 .none) = groups ∧
    fs.getD 5 .none = .ref c ∧ h.get? c = some oc ∧ oc.data = .seq items n ∧ (items.map Builtin.Re.reRawOf).map (·.toNat) = code
section
variable {prog : Program} {w : World} {A : Around} {E : Value → Shared → Prop} {s : Shared} {a : Addr} {code : Array Nat} {groups : Nat}
open Builtin.Re
theorem whole_ok {x : Str} {t : Tok} {Q : ReTarget → Shared → Prop} (P : Pat s.heap a code groups) (hQ : Q { pattern := .ref a, string := .str x t, code := code, text := x.cps, kind := 0, groups := groups, pos := 0, lim := x.cps.size } s) :
    wpAny (model prog w) A (reWholeTarget (.ref a) (.str x t)) Q E s := by
  obtain ⟨o, fs, c, oc, items, n, ho, hc, hdi, hd, hw, hg, hf, hoc, hdc, hcode⟩ := P.at_
  unfold reWholeTarget
  refine wpAny_bind (wpAny_fieldsOf ho hd ?_)
  refine wpAny_bind (m := reTextOf (.str x t)) (wpAny_of_eq (a := (x.cps, 0)) rfl ?_)
  dsimp only
  have h1 : (reRawNat (fs.getD 6 .none) == 1 && (0 : Nat) == 0) = false := by simpa using hw
  rw [if_neg (by simp)]
  rw [if_neg (by rw [h1]; simp)]
  refine wpAny_bind (m := reNoCollectionInside (.str x t) 0) (wpAny_of_eq (a := ()) rfl ?_)
  rw [hf]
  refine wpAny_bind ?_
  unfold reRawItems
  refine wpAny_bind (wpAny_seqItems hoc hdc (wpAny_pure (wpAny_pure ?_)))
  rw [hg]
  simp only [Option.getD_some]
  rw [hcode]
  exact hQ
end
end Mine
namespace Mine
set_option genSizeOf false
set_option genInjectivity false
theorem Pat.keep {h h' : Heap} {a : Addr} {code : Array Nat} {g : Nat} (P : Pat h a code g) (k : ∀ b o, h.get? b = some o → h'.get? b = some o) : Pat h' a code g := by
  obtain ⟨o, fs, c, oc, items, n, ho, hc, hdi, hd, hw, hg, hf, hoc, hdc, hcode⟩ := P.at_
  exact ⟨o, fs, c, oc, items, n, k _ _ ho, hc, hdi, hd, hw, hg, hf, k _ _ hoc, hdc, hcode⟩
noncomputable def subP (code text : Array Nat) (groups : Nat) (rp : Str) : (fuel start done : Nat) → (must : Bool) → Option (List Str)
  | 0, _, _, _ => none
  | fuel + 1, start, done, must =>
    match foundP (2 ^ 60) (Sre.forSearch code text groups start text.size must) with
    | none => none
    | some none => some (if done < text.size then [⟨text.extract done text.size⟩] else [])
    | some (some m) =>
      (subP code text groups rp fuel m.handed m.handed (m.handed == m.start)).map fun l => (if done < m.start then [⟨text.extract done m.start⟩] else []) ++ rp :: l
section
variable {prog : Program} {w : World} {A : Around} {E : Value → Shared → Prop} {s : Shared} {a : Addr} {code : Array Nat} {groups : Nat} {x rp : Str} {t u : Tok} {D : Addr}
open Builtin.Re
theorem next_ok {start : Nat} {must : Bool} {r : Option Sre.M} {Q : Option Sre.M → Shared → Prop} (h : foundP (2 ^ 60) (Sre.forSearch code x.cps groups start x.cps.size must) = some r) (hQ : Q r s) :
    wpAny (model prog w) A (reNextFound { pattern := .ref a, string := .str x t, code := code, text := x.cps, kind := 0, groups := groups, pos := 0, lim := x.cps.size } start must) Q E s :=
  toEnd_ok h (by decide) hQ
theorem reSlice_ok {text : Array Nat} {b e : Nat} {Q : Value → Shared → Prop} (hx : text.size ≤ sizeLine) (hQ : Q (.str ⟨text.extract b e⟩ s.toks) { s with toks := s.toks + 1 }) : wpAny (model prog w) A (reSlice text 0 b e) Q E s := by
  unfold reSlice
  rw [if_pos (by rfl)]
  refine wpAny_mkStr hQ ?_
  show (text.extract b e).size ≤ sizeLine
  rw [Array.size_extract]
  (first | lia | omega)
theorem push_ok {l : List (Str × Tok)} {c : Nat} {y : Str} {v : Tok} {Q : Unit → Shared → Prop} (hD : s.heap.get? D = some { cls := .type "list", data := .seq (strValues l).toArray c }) (hl : l.length + 1 ≤ sizeLine)
    (hQ : ∀ h' c', (∀ b o, b ≠ D → s.heap.get? b = some o → h'.get? b = some o) → h'.get? D = some { cls := .type "list", data := .seq (strValues (l ++ [(y, v)])).toArray c' } → Q () { s with heap := h' }) :
    wpAny (model prog w) A (updateSeq D (·.push (.str y v))) Q E s := by
  have hlen : (strValues l).toArray.size = l.length := by simp [strValues]
  refine wpAny_updateSeq hD rfl (hQ _ (c + 1) (fun b o hb e => (Heap.get?_update_other _ _ (Ne.symm hb)).trans e) ?_) (by rw [hlen]; (first | lia | omega)) (by show ((strValues l).toArray.push _).size ≤ _; rw [Array.size_push, hlen]; (first | lia | omega))
  refine (Heap.get?_update_self _ hD rfl).trans ?_
  simp [Obj.mapSeq, strValues]
structure Grown (s0 s : Shared) (D : Addr) (l : List (Str × Tok)) : Prop where
  new : s0.heap.get? D = none
  keep : ∀ b o, s0.heap.get? b = some o → s.heap.get? b = some o
  same : s = { s0 with heap := s.heap, toks := s.toks }
  at_ : ∃ c, s.heap.get? D = some { cls := .type "list", data := .seq (strValues l).toArray c }
theorem Grown.push {s0 : Shared} {l : List (Str × Tok)} {y : Str} {v : Tok} {Q : Unit → Shared → Prop} (G : Grown s0 s D l) (hl : l.length + 1 ≤ sizeLine) (hQ : ∀ s', Grown s0 s' D (l ++ [(y, v)]) → Q () s') :
    wpAny (model prog w) A (updateSeq D (·.push (.str y v))) Q E s := by
  obtain ⟨c, hD⟩ := G.at_
  refine push_ok hD hl fun h' c' k hD' => hQ _ ⟨G.new, fun b o e => k b o (fun q => by subst q; rw [G.new] at e; cases e) (G.keep b o e), ?_, c', hD'⟩
  rw [G.same]
theorem Grown.tok {s0 : Shared} {l : List (Str × Tok)} (G : Grown s0 s D l) (tk : Nat) : Grown s0 { s with toks := tk } D l :=
  ⟨G.new, G.keep, by rw [G.same], G.at_⟩
theorem piece_ok {s0 : Shared} {l : List (Str × Tok)} {b e : Nat} {cond : Prop} [Decidable cond] {α : Type} {K : Sem α} {Q : α → Shared → Prop} (hx : x.cps.size ≤ sizeLine) (G : Grown s0 s D l) (hl : l.length + 1 ≤ sizeLine)
    (hQ : ∀ s' l', Grown s0 s' D l' → l'.length ≤ l.length + 1 → l'.map (·.1) = l.map (·.1) ++ (if cond then [⟨x.cps.extract b e⟩] else []) → wpAny (model prog w) A K Q E s') :
    wpAny (model prog w) A (if cond then reSlice x.cps 0 b e >>= fun v => updateSeq D (fun z => z.push v) >>= fun _ => K else K) Q E s := by
  split
  · rename_i hc
    refine wpAny_bind (reSlice_ok hx (wpAny_bind ((G.tok _).push hl fun s' G' => hQ s' _ G' (by simp) (by simp [hc]))))
  · rename_i hc
    exact hQ s l G (by (first | lia | omega)) (by simp [hc])
theorem subLoop {s0 : Shared} (P : Pat s0.heap a code groups) (hx : x.cps.size ≤ seqMax) {R : Result → Shared → Prop} : ∀ (fuel start done : Nat) (must : Bool) (res : List Str) (s : Shared) (l : List (Str × Tok)) (n : Int),
    subP code x.cps groups rp fuel start done must = some res → Grown s0 s D l → l.length + 2 * fuel + 1 ≤ sizeLine → JoinOk ⟨#[]⟩ (l.map (·.1) ++ res) = true →
    (∀ h' tk t', (∀ b o, s0.heap.get? b = some o → h'.get? b = some o) → R (.ok (.ret (.str (Txt.join ⟨#[]⟩ (l.map (·.1) ++ res)) t'))) { s0 with heap := h', toks := tk }) →
    codeAny (model prog w) A (.builtin "re.Pattern.sub.loop" ⟨[.ref a, .str x t, .str rp u, rawInt 0, rawInt 0, rawInt n, rawInt done, rawInt start, .bool must, .ref D, .bool false], []⟩) R s
  | 0, start, done, must, res, s, l, n, h, G, hl, hj, hR => by simp [subP] at h
  | fuel + 1, start, done, must, res, s, l, n, h, G, hl, hj, hR => by
    have hm : seqMax = 1048576 := rfl
    have hs : sizeLine = 16777216 := rfl
    refine codeAny_builtin entry_pat_loop ?_
    rw [Around.under_plainId plain_pat_loop _]
    unfold Builtin.«re.Pattern.sub.loop»
    show wpAny _ A.in1 (reWholeTarget (.ref a) (.str x t) >>= _) _ _ _
    refine wpAny_bind (whole_ok (P.keep G.keep) ?_)
    dsimp only
    refine wpAny_bind (m := reLiteralCannotBeTurned (.str rp u)) (wpAny_of_eq (a := ()) rfl ?_)
    unfold subP at h
    split at h
    · cases h
    · rename_i hf
      cases h
      refine wpAny_bind (m := reNextFound _ _ _) (next_ok hf ?_)
      show wpAny _ A.in1 (if done < x.cps.size then reSlice x.cps 0 done x.cps.size >>= fun v => updateSeq D (fun z => z.push v) >>= fun _ =>
        (reSlice x.cps 0 0 0 >>= fun joiner => seqItems? (Value.ref D) >>= fun it => if (it.getD #[]).isEmpty = true then ret joiner else call (.builtin "str.join") [joiner, .ref D] >>= fun text => ret text)
        else (reSlice x.cps 0 0 0 >>= fun joiner => seqItems? (Value.ref D) >>= fun it => if (it.getD #[]).isEmpty = true then ret joiner else call (.builtin "str.join") [joiner, .ref D] >>= fun text => ret text)) _ _ _
      refine piece_ok (by (first | lia | omega)) G (by (first | lia | omega)) fun s' l' G' _ e => ?_
      refine wpAny_bind (reSlice_ok (by (first | lia | omega)) ?_)
      obtain ⟨c, hD⟩ := G'.at_
      refine wpAny_bind (wpAny_seqItems hD rfl ?_)
      have he : (x.cps.extract 0 0) = #[] := by simp
      rw [← e] at hj hR
      rw [he]
      split
      · rename_i hemp
        have : l' = [] := by simpa [strValues] using hemp
        subst this
        refine wpAny_pure ?_
        have q := hR s'.heap (s'.toks + 1) s'.toks G'.keep
        rw [G'.same]
        exact q
      · refine wpAny_bind (SC.join (l := l') (texts := l'.map (·.1)) ⟨_, hD, rfl, c, rfl⟩ rfl hj fun t' k => wpAny_pure ?_)
        have q := hR s'.heap k t' G'.keep
        rw [G'.same]
        exact q
    · rename_i m hf
      simp only [Option.map_eq_some_iff] at h
      obtain ⟨l1, h1, rfl⟩ := h
      refine wpAny_bind (m := reNextFound _ _ _) (next_ok hf ?_)
      show wpAny _ A.in1 (if done < m.start then reSlice x.cps 0 done m.start >>= fun v => updateSeq D (fun z => z.push v) >>= fun _ =>
        (updateSeq D (fun z => z.push (.str rp u)) >>= fun _ => again (.builtin "re.Pattern.sub.loop" ⟨[.ref a, .str x t, .str rp u, rawInt 0, rawInt 0, rawInt (n + 1), rawInt m.handed, rawInt m.handed, .bool (m.handed == m.start), .ref D, .bool false], []⟩))
        else (updateSeq D (fun z => z.push (.str rp u)) >>= fun _ => again (.builtin "re.Pattern.sub.loop" ⟨[.ref a, .str x t, .str rp u, rawInt 0, rawInt 0, rawInt (n + 1), rawInt m.handed, rawInt m.handed, .bool (m.handed == m.start), .ref D, .bool false], []⟩))) _ _ _
      refine piece_ok (by (first | lia | omega)) G (by (first | lia | omega)) fun s' l' G' hl' e => ?_
      refine wpAny_bind (G'.push (by (first | lia | omega)) fun s2 G2 => ?_)
      have e2 : (l' ++ [(rp, u)]).map (·.1) ++ l1 = l.map (·.1) ++ ((if done < m.start then [⟨x.cps.extract done m.start⟩] else []) ++ rp :: l1) := by
        rw [List.map_append, e]; simp
      rw [← e2] at hj hR
      exact wpAny_pure ⟨plainId_quiet plain_pat_loop _, subLoop P hx fuel _ _ _ l1 s2 _ (n + 1) h1 G2 (by simp; (first | lia | omega)) hj hR⟩
end
end Mine
namespace Mine
set_option genSizeOf false
set_option genInjectivity false
section
variable {prog : Program} {w : World} {A : Around} {E : Value → Shared → Prop} {s : Shared} {a : Addr} {code : Array Nat} {groups : Nat} {x rp : Str} {t u : Tok} {D : Addr}
open Builtin.Re
theorem sub_meets {res : List Str} (hx : x.cps.size ≤ seqMax) (hn : rp.cps.contains 92 = false) (hr : rp.cps.size ≤ sizeLine) (h : subP code x.cps groups rp (2 * x.cps.size + 3) 0 0 false = some res) (hj : JoinOk ⟨#[]⟩ res = true) :
    MeetsIn prog w (Builtin.«re.Pattern.sub» ⟨[.ref a, .str rp u, .str x t], []⟩) (fun _ R s => Pat s.heap a code groups ∧
      ∀ h' tk t', (∀ b o, s.heap.get? b = some o → h'.get? b = some o) → R (.ok (.ret (.str (Txt.join ⟨#[]⟩ res) t'))) { s with heap := h', toks := tk }) := by
  intro A R s ⟨P, hR⟩
  have hm : seqMax = 1048576 := rfl
  have hs : sizeLine = 16777216 := rfl
  unfold Builtin.«re.Pattern.sub» reSubstitute
  dsimp only
  refine wpAny_bind (m := reNamed "re.Pattern.sub" "sub" ["repl", "string", "count"] 2 [Value.str rp u, Value.str x t] []) (wpAny_of_eq (a := [some (.str rp u), some (.str x t), none]) (by kernel_rfl) ?_)
  dsimp only
  refine wpAny_bind (wpAny_pure ?_)
  refine wpAny_bind (wpAny_specialOf (T := "str") (v := .str rp u) (name := Str.ofString "__call__") (r := none) rfl (by rw [typeLookup_type, builtinLookup_eq_fast]; kernel_rfl) ?_)
  rw [if_neg (by simp)]
  refine wpAny_bind (wpAny_of_eq (a := some rp) rfl ?_)
  dsimp only
  refine wpAny_bind (wpAny_pure ?_)
  rw [if_neg (by simp), if_pos (by rw [hn]; rfl)]
  refine wpAny_bind (wpAny_pure ?_)
  refine wpAny_bind (wpAny_holding (whole_ok P ?_))
  rw [if_neg (by simp)]
  refine wpAny_bind (wpAny_newList ?_)
  refine wpAny_pure ⟨plainId_quiet plain_pat_loop _, subLoop (D := s.heap.objs.size) (s0 := s) P hx (2 * x.cps.size + 3) 0 0 false res _ [] 0 h ⟨get_new (Nat.le_refl _), fun b o e => Heap.get?_push_of_some _ e, rfl, 0, Heap.get?_push_size _ rfl⟩ (by simp; (first | lia | omega)) (by simpa using hj) fun h' tk t' k => ?_⟩
  exact hR h' tk t' k
end
theorem pat_obj {W : Ws} {a : Addr} {code : Array Nat} {g : Nat} (P : Pat W.B.g a code g) {v : Value} {s : Shared} {ok : Addr → Prop} (G : Glob W.B s.heap) (q : Rel0 ok s.heap v (.obj a)) : s.TypeIs v "re.Pattern" ∧ ∀ b, v = .ref b → ∃ o, s.heap.get? b = some o ∧ o.dict = none := by
  obtain ⟨o, fs, c, oc, items, n, ho, hc, hdi, _⟩ := P.at_
  obtain rfl := Rel.obj' q
  exact ⟨⟨o, G.1 _ _ ho, hc⟩, fun b e => ⟨o, (Value.ref.inj e) ▸ G.1 _ _ ho, hdi⟩⟩
theorem sub_spec {W : Ws} {a : Addr} {code : Array Nat} {groups : Nat} {x rp : Str} (P : Pat W.B.g a code groups) {res : List Str} (hx : x.cps.size ≤ seqMax) (hn : rp.cps.contains 92 = false) (hr : rp.cps.size ≤ sizeLine)
    (h : subP code x.cps groups rp (2 * x.cps.size + 3) 0 0 false = some res) (hj : JoinOk ⟨#[]⟩ res = true) : MethQ W (.obj a) (Str.ofString "sub") [.str rp, .str x] (.str (Txt.join ⟨#[]⟩ res)) := ⟨_, _, ⟨plainAttrs_pat, slot_pat_sub, type_pat_sub⟩, pat_obj P, fun C q rs => by
  have ty := (pat_obj P C.glob q).1
  obtain rfl := Rel.obj' q
  obtain ⟨v, ws, rfl, z, y⟩ := rs.cons'
  obtain ⟨u, ws, rfl, z', y⟩ := y.cons'
  obtain rfl := y.nil'
  obtain ⟨t, rfl⟩ := Rel.str' z
  obtain ⟨t', rfl⟩ := Rel.str' z'
  exact call_meetsIn slot_pat_sub ty entry_pat_sub (args_pat_sub _ _ _) (sub_meets hx hn hr h hj) ⟨P.keep C.glob.1, fun h' tk t' hk => ⟨.str _ _, grow_all hk⟩⟩⟩
end Mine
namespace Mine
set_option genSizeOf false
set_option genInjectivity false
section
variable {prog : Program} {w : World} {A : Around} {E : Value → Shared → Prop} {s : Shared} {a : Addr} {code : Array Nat} {groups : Nat} {x rp : Str} {t u : Tok} {D : Addr}
open Builtin.Re
noncomputable def groupP (text : Array Nat) (m : Sre.M) : Option (Array Nat) :=
  if m.lastmark ≤ 0 then none else
  match m.marks.getD 0 none, m.marks.getD 1 none with
  | some b, some e => if e < b then none else some (text.extract b e)
  | _, _ => none
noncomputable def splitLoopP (code text : Array Nat) : (fuel start last : Nat) → (must : Bool) → Option (List Str × Nat)
  | 0, _, _, _ => none
  | fuel + 1, start, last, must =>
    match foundP (2 ^ 60) (Sre.forSearch code text 1 start text.size must) with
    | none => none
    | some none => some ([], last)
    | some (some m) =>
      match groupP text m, splitLoopP code text fuel m.handed m.handed (m.handed == m.start) with
      | some g, some (l, e) => some (⟨text.extract last m.start⟩ :: ⟨g⟩ :: l, e)
      | _, _ => none
noncomputable abbrev SplitSt := Array Value × Nat × Nat × Bool × Int × Bool
noncomputable def splitTurn (tg : ReTarget) : SplitSt → Sem (ForInStep SplitSt) := fun __s =>
            if (!__s.snd.snd.snd.snd.snd) = true then do
              let __do_lift ←
                if (0 != 0 && decide (__s.snd.snd.snd.snd.fst ≥ 0)) = true then pure none
                  else
                    reNextFound tg __s.snd.fst __s.snd.snd.snd.fst
              match __do_lift with
                | none =>
                  pure
                    (ForInStep.yield
                      (__s.fst, __s.snd.fst, __s.snd.snd.fst, __s.snd.snd.snd.fst, __s.snd.snd.snd.snd.fst, true))
                | some m => do
                  let __do_lift ← reSlice tg.text 0 __s.snd.snd.fst m.start
                  let __s_1 ←
                    forIn (List.range 1) (__s.fst.push __do_lift) fun g __s => do
                        let __do_lift ← reMachineGroup tg m (g + 1) (pure Value.none)
                        pure (ForInStep.yield (__s.push __do_lift))
                  pure
                      (ForInStep.yield
                        (__s_1, m.handed, m.handed, m.handed == m.start, __s.snd.snd.snd.snd.fst + 1,
                          __s.snd.snd.snd.snd.snd))
            else
              pure
                (ForInStep.yield
                  (__s.fst, __s.snd.fst, __s.snd.snd.fst, __s.snd.snd.snd.fst, __s.snd.snd.snd.snd.fst,
                    __s.snd.snd.snd.snd.snd))
theorem group_ok {tg : ReTarget} {m : Sre.M} {g : Array Nat} {Q : Value → Shared → Prop} (hk : tg.kind = 0) (hx : tg.text.size ≤ sizeLine) (h : groupP tg.text m = some g) (hQ : Q (.str ⟨g⟩ s.toks) { s with toks := s.toks + 1 }) :
    wpAny (model prog w) A (reMachineGroup tg m (0 + 1) (pure .none)) Q E s := by
  unfold groupP at h
  split at h
  · cases h
  · rename_i hl
    unfold reMachineGroup
    rw [if_neg (by simp; (first | lia | omega))]
    split at h
    · rename_i b e h0 h1
      split at h
      · cases h
      · rename_i he
        cases h
        show wpAny _ _ (match m.marks.getD 0 none, m.marks.getD 1 none with
          | some b, some e => if e < b then reWrongSpan else reSlice tg.text tg.kind b e
          | _, _ => pure Value.none) _ _ _
        rw [h0, h1]
        dsimp only
        rw [if_neg he, hk]
        exact reSlice_ok hx hQ
    · cases h
theorem over_ok {tg : ReTarget} {Q : SplitSt → Shared → Prop} : ∀ (l : List Nat) (st : SplitSt), st.2.2.2.2.2 = true → Q st s → wpAny (model prog w) A (forIn l st fun _ st => splitTurn tg st) Q E s
  | [], st, _, hQ => by rw [List.forIn_nil]; exact wpAny_pure hQ
  | _ :: l, st, h, hQ => by
    rw [List.forIn_cons]
    refine wpAny_bind ?_
    unfold splitTurn
    rw [if_neg (by rw [h]; simp)]
    exact wpAny_pure (over_ok l _ h hQ)
noncomputable abbrev tgt (a : Addr) (x : Str) (t : Tok) (code : Array Nat) : ReTarget := { pattern := .ref a, string := .str x t, code := code, text := x.cps, kind := 0, groups := 1, pos := 0, lim := x.cps.size }
theorem turn_end {out : Array Value} {start last : Nat} {must : Bool} {n : Int} {Q : ForInStep SplitSt → Shared → Prop} (hm : foundP (2 ^ 60) (Sre.forSearch code x.cps 1 start x.cps.size must) = some none)
    (hQ : Q (.yield (out, start, last, must, n, true)) s) : wpAny (model prog w) A (splitTurn (tgt a x t code) (out, start, last, must, n, false)) Q E s := by
  unfold splitTurn
  rw [if_pos (by rfl)]
  rw [if_neg (by simp)]
  refine wpAny_bind (m := reNextFound _ _ _) (next_ok hm ?_)
  exact wpAny_pure hQ
theorem turn_more {out : List (Str × Tok)} {start last : Nat} {must : Bool} {n : Int} {m : Sre.M} {g : Array Nat} {Q : ForInStep SplitSt → Shared → Prop} (hx : x.cps.size ≤ sizeLine)
    (hm : foundP (2 ^ 60) (Sre.forSearch code x.cps 1 start x.cps.size must) = some (some m)) (hg : groupP x.cps m = some g)
    (hQ : Q (.yield ((strValues (out ++ [(⟨x.cps.extract last m.start⟩, s.toks), (⟨g⟩, s.toks + 1)])).toArray, m.handed, m.handed, m.handed == m.start, n + 1, false)) { s with toks := s.toks + 1 + 1 }) :
    wpAny (model prog w) A (splitTurn (tgt a x t code) ((strValues out).toArray, start, last, must, n, false)) Q E s := by
  unfold splitTurn
  rw [if_pos (by rfl)]
  rw [if_neg (by simp)]
  refine wpAny_bind (m := reNextFound _ _ _) (next_ok hm ?_)
  dsimp only
  refine wpAny_bind (reSlice_ok hx ?_)
  show wpAny _ _ ((forIn [0] _ _) >>= _) _ _ _
  rw [List.forIn_cons]
  refine wpAny_bind (wpAny_bind (wpAny_bind (group_ok rfl hx hg (wpAny_pure ?_))))
  dsimp only
  rw [List.forIn_nil]
  refine wpAny_pure (wpAny_pure ?_)
  have e2 : (((strValues out).toArray.push (.str ⟨x.cps.extract last m.start⟩ s.toks)).push (.str ⟨g⟩ (s.toks + 1))) = (strValues (out ++ [(⟨x.cps.extract last m.start⟩, s.toks), (⟨g⟩, s.toks + 1)])).toArray := by
    simp [strValues]
  rw [e2]
  exact hQ
theorem splitLoop (hx : x.cps.size ≤ sizeLine) {Q : SplitSt → Shared → Prop} :
    ∀ (l : List Nat) (fuel start last : Nat) (must : Bool) (ps : List Str) (e : Nat) (out : List (Str × Tok)) (n : Int) (s : Shared),
    splitLoopP code x.cps fuel start last must = some (ps, e) → fuel ≤ l.length →
    (∀ (out' : List (Str × Tok)) start' must' n' tk, out'.map (·.1) = out.map (·.1) ++ ps → Q ((strValues out').toArray, start', e, must', n', true) { s with toks := tk }) →
    wpAny (model prog w) A (forIn l ((strValues out).toArray, start, last, must, n, false) fun _ st => splitTurn (tgt a x t code) st) Q E s
  | [], fuel, start, last, must, ps, e, out, n, s, h, hf, hQ => by
    have : fuel = 0 := by simpa using hf
    subst this
    simp [splitLoopP] at h
  | i :: l, 0, start, last, must, ps, e, out, n, s, h, hf, hQ => by simp [splitLoopP] at h
  | i :: l, fuel + 1, start, last, must, ps, e, out, n, s, h, hf, hQ => by
    rw [List.forIn_cons]
    refine wpAny_bind ?_
    unfold splitLoopP at h
    split at h
    · cases h
    · rename_i hm
      cases h
      refine turn_end hm ?_
      dsimp only
      exact over_ok l _ rfl (hQ out start must n s.toks (by simp))
    · rename_i m hm
      split at h
      · rename_i g l1 e1 hg h1
        cases h
        refine turn_more hx hm hg ?_
        dsimp only
        refine splitLoop hx l fuel _ _ _ l1 e _ (n + 1) _ h1 (by simpa using hf) fun out' start' must' n' tk hm => hQ out' start' must' n' tk ?_
        rw [hm]; simp
      · cases h
theorem splitLoopP_len {text : Array Nat} : ∀ (fuel start last : Nat) (must : Bool) (ps : List Str) (e : Nat), splitLoopP code text fuel start last must = some (ps, e) → ps.length ≤ 2 * fuel
  | 0, _, _, _, _, _, h => by simp [splitLoopP] at h
  | fuel + 1, start, last, must, ps, e, h => by
    unfold splitLoopP at h
    split at h
    · cases h
    · cases h; simp
    · split at h
      · rename_i h1
        cases h
        have := splitLoopP_len fuel _ _ _ _ _ h1
        simp; (first | lia | omega)
      · cases h
noncomputable def splitP (code text : Array Nat) : Option (List Str) :=
  (splitLoopP code text (2 * text.size + 3) 0 0 false).map fun p => p.1 ++ [⟨text.extract p.2 text.size⟩]
theorem split_meets {res : List Str} (hx : x.cps.size ≤ seqMax) (h : splitP code x.cps = some res) :
    MeetsIn prog w (Builtin.«re.Pattern.split» ⟨[.ref a, .str x t], []⟩) (fun _ R s => Pat s.heap a code 1 ∧
      ∀ (l : List (Str × Tok)) tk, l.map (·.1) = res → R (.ok (.ret (.ref s.heap.objs.size))) { s with heap := s.heap.push { cls := .type "list", data := .seq (strValues l).toArray }, toks := tk }) := by
  intro A R s ⟨P, hR⟩
  have hm : seqMax = 1048576 := rfl
  have hs : sizeLine = 16777216 := rfl
  unfold Builtin.«re.Pattern.split»
  dsimp only
  refine wpAny_bind (m := reNamed "re.Pattern.split" "split" ["string", "maxsplit"] 1 [Value.str x t] []) (wpAny_of_eq (a := [some (.str x t), none]) (by kernel_rfl) ?_)
  dsimp only
  refine wpAny_bind (wpAny_pure ?_)
  refine wpAny_bind (whole_ok P ?_)
  dsimp only
  unfold splitP at h
  simp only [Option.map_eq_some_iff] at h
  obtain ⟨⟨ps, e⟩, h1, rfl⟩ := h
  refine wpAny_bind (splitLoop (t := t) (a := a) (by (first | lia | omega)) (List.range (2 * x.cps.size + 3)) (2 * x.cps.size + 3) 0 0 false ps e [] 0 s h1 (by simp) fun out' start' must' n' tk hm => ?_)
  rw [if_neg (by simp)]
  dsimp only
  refine wpAny_bind (reSlice_ok (by (first | lia | omega)) ?_)
  have hlen : out'.length ≤ 2 * (2 * x.cps.size + 3) := by
    have q1 := splitLoopP_len _ _ _ _ _ _ h1
    have q2 := congrArg List.length hm
    simp at q2
    (first | lia | omega)
  refine wpAny_bind (wpAny_newList ?_ (by simp [strValues]; (first | lia | omega)))
  refine wpAny_pure ?_
  have e2 : ((strValues out').toArray.push (.str ⟨x.cps.extract e x.cps.size⟩ tk)).toList = strValues (out' ++ [(⟨x.cps.extract e x.cps.size⟩, tk)]) := by simp [strValues]
  rw [e2]
  exact hR _ _ (by rw [List.map_append, hm]; simp)
end
theorem split_spec {W : Ws} {a : Addr} {code : Array Nat} {x : Str} (P : Pat W.B.g a code 1) {res : List Str} (hx : x.cps.size ≤ seqMax)
    (h : splitP code x.cps = some res) : MethQ W (.obj a) (Str.ofString "split") [.str x] (.lst (res.map .str)) := ⟨_, _, ⟨plainAttrs_pat, slot_pat_split, type_pat_split⟩, pat_obj P, fun C q rs => by
  have ty := (pat_obj P C.glob q).1
  obtain rfl := Rel.obj' q
  obtain ⟨v, ws, rfl, z, y⟩ := rs.cons'
  obtain rfl := y.nil'
  obtain ⟨t, rfl⟩ := Rel.str' z
  refine call_meetsIn slot_pat_split ty entry_pat_split (args_pat_split _ _) (split_meets hx h) ⟨P.keep C.glob.1, fun l tk hl => ?_⟩
  subst hl
  exact outLp strs_rels⟩
end Mine
namespace Mine
set_option genSizeOf false
set_option genInjectivity false
noncomputable def code36 : Array Nat := #[14, 4, 0, 1, 1, 6, 1, 16, 46, 1]
noncomputable def at36 (text : Array Nat) (s : Nat) (sn : Sre.Seen) (must om : Bool) : Sre.M :=
  { code := code36, text := text, lim := text.size, start := s, lastStart := text.size, mustAdvance := must, pc := 5, pos := s, handed := s, outermost := om, marks := #[], frames := [{ wait := .nextStart, pc := 5, pos := s, outermost := om }], weight := 1, seen := sn }
theorem start36 {text : Array Nat} {s : Nat} {must : Bool} (hs : s < text.size) : Sre.forSearch code36 text 0 s text.size must = at36 text s (({} : Sre.Seen).add 14) must true := by
  have h : Sre.forSearch code36 text 0 s text.size must = if (decide (s > text.size) || decide (text.size - s < 1)) = true then Sre.M.say { at36 text s (({} : Sre.Seen).add 14) must true with frames := [], weight := 0, lastStart := 0 } false else at36 text s (({} : Sre.Seen).add 14) must true := by rfl
  rw [h, if_neg (by simp; (first | lia | omega))]
theorem end36 {text : Array Nat} {must : Bool} : Sre.forSearch code36 text 0 text.size text.size must = Sre.M.say { at36 text text.size (({} : Sre.Seen).add 14) must true with frames := [], weight := 0, lastStart := 0 } false := by
  have h : Sre.forSearch code36 text 0 text.size text.size must = if (decide (text.size > text.size) || decide (text.size - text.size < 1)) = true then Sre.M.say { at36 text text.size (({} : Sre.Seen).add 14) must true with frames := [], weight := 0, lastStart := 0 } false else at36 text text.size (({} : Sre.Seen).add 14) must true := by rfl
  rw [h, if_pos (by simp)]
theorem s1 {text : Array Nat} {s : Nat} {sn : Sre.Seen} {must om : Bool} : (at36 text s sn must om).step =
    if (s == 0 || text.getD (s - 1) 0 == 10) = true then { at36 text s ((sn.add 6).add 44) must om with pc := 7 } else { at36 text s ((sn.add 6).add 44) must om with answer := some false } := by rfl
theorem s2 {text : Array Nat} {s : Nat} {sn : Sre.Seen} {must om : Bool} : Sre.M.step { at36 text s sn must om with pc := 7 } =
    if s ≥ text.size then { at36 text s (sn.add 16) must om with pc := 7, answer := some false } else
    match (text.getD s 0 == 46) with
    | false => { at36 text s (sn.add 16) must om with pc := 7, answer := some false }
    | true => { at36 text s (sn.add 16) must om with pc := 9, pos := s + 1 } := by kernel_rfl
theorem s3 {text : Array Nat} {s : Nat} {sn : Sre.Seen} {must om : Bool} : Sre.M.step { at36 text s sn must om with pc := 9, pos := s + 1 } =
    if (om && ((false && s + 1 != text.size) || (must && s + 1 == s))) = true then { at36 text s (sn.add 1) must om with pc := 9, pos := s + 1, answer := some false }
    else { at36 text s (sn.add 1) must om with pc := 9, pos := s + 1, handed := s + 1, answer := some true } := by kernel_rfl
theorem s4 {text : Array Nat} {s h : Nat} {sn : Sre.Seen} {must om : Bool} {pc pos : Nat} : Sre.M.runFor 3 { at36 text s sn must om with pc := pc, pos := pos, handed := h, answer := some true } =
    { at36 text s sn must om with pc := 5, pos := s, handed := h, frames := [], weight := 0, outermost := om, answer := some true, outcome := some .matched } := by kernel_rfl
theorem s5 {text : Array Nat} {s : Nat} {sn : Sre.Seen} {must om : Bool} {pc pos : Nat} : Sre.M.step { at36 text s sn must om with pc := pc, answer := some false } =
    if s < text.size then at36 text (s + 1) sn false false else { at36 text s sn must om with frames := [], weight := 0, answer := some false } := by kernel_rfl
theorem s6 {text : Array Nat} {s : Nat} {sn : Sre.Seen} {must om : Bool} : Sre.M.runFor 2 { at36 text s sn must om with frames := [], weight := 0, answer := some false } =
    { at36 text s sn must om with frames := [], weight := 0, answer := some false, outcome := some .failed } := by kernel_rfl
noncomputable def dotAt (text : Array Nat) (s : Nat) : Bool := (s == 0 || text.getD (s - 1) 0 == 10) && decide (s < text.size) && text.getD s 0 == 46
theorem turn36 {text : Array Nat} {s : Nat} {sn : Sre.Seen} {must om : Bool} : ∃ n sn', n ≤ 6 ∧ Sre.M.runFor n (at36 text s sn must om) =
    if dotAt text s then { at36 text s sn' must om with handed := s + 1, frames := [], weight := 0, answer := some true, outcome := some .matched }
    else if s < text.size then at36 text (s + 1) sn' false false
    else { at36 text s sn' must om with frames := [], weight := 0, answer := some false, outcome := some .failed } := by
  have more : ∀ (n : Nat) (m : Sre.M), m.outcome = none → Sre.M.runFor (n + 1) m = Sre.M.runFor n m.step := fun n m h => by rw [runFor_succ, if_neg (by rw [h]; simp)]
  have no : ∀ (sn : Sre.Seen) (pc pos : Nat), ∃ n, n ≤ 3 ∧ Sre.M.runFor n { at36 text s sn must om with pc := pc, answer := some false } = if s < text.size then at36 text (s + 1) sn false false
    else { at36 text s sn must om with frames := [], weight := 0, answer := some false, outcome := some .failed } := by
    intro sn pc pos
    by_cases hs : s < text.size
    · exact ⟨1, by (first | lia | omega), by rw [more _ _ rfl, s5 (pos := 0), if_pos hs, if_pos hs]; rfl⟩
    · exact ⟨3, by (first | lia | omega), by rw [more _ _ rfl, s5 (pos := 0), if_neg hs, if_neg hs]; exact s6⟩
  cases h1 : (s == 0 || text.getD (s - 1) 0 == 10) with
  | false =>
    obtain ⟨n, hn, e⟩ := no ((sn.add 6).add 44) 5 0
    refine ⟨n + 1, (sn.add 6).add 44, by (first | lia | omega), ?_⟩
    rw [more _ _ rfl, s1, h1, if_neg (by simp)]
    rw [if_neg (show ¬ dotAt text s = true by simp only [dotAt, h1]; simp)]
    exact e
  | true =>
    by_cases h2 : s < text.size
    · cases h3 : text.getD s 0 == 46 with
      | true =>
        refine ⟨6, (((((sn.add 6).add 44).add 16).add 1)), by (first | lia | omega), ?_⟩
        rw [more _ _ rfl, s1, h1, if_pos rfl, more _ _ rfl, s2, if_neg (by (first | lia | omega)), h3]
        dsimp only
        rw [more _ _ rfl, s3, if_neg (by simp), if_pos (show dotAt text s = true by simp only [dotAt, h1, h3, h2]; rfl)]
        exact s4
      | false =>
        obtain ⟨n, hn, e⟩ := no (((sn.add 6).add 44).add 16) 7 0
        refine ⟨n + 2, ((sn.add 6).add 44).add 16, by (first | lia | omega), ?_⟩
        rw [more _ _ rfl, s1, h1, if_pos rfl, more _ _ rfl, s2, if_neg (by (first | lia | omega)), h3]
        rw [if_neg (show ¬ dotAt text s = true by simp only [dotAt, h3]; simp)]
        exact e
    · obtain ⟨n, hn, e⟩ := no (((sn.add 6).add 44).add 16) 7 0
      refine ⟨n + 2, ((sn.add 6).add 44).add 16, by (first | lia | omega), ?_⟩
      rw [more _ _ rfl, s1, h1, if_pos rfl, more _ _ rfl, s2, if_pos (by (first | lia | omega))]
      rw [if_neg (show ¬ dotAt text s = true by simp [dotAt, h2])]
      exact e
end Mine
namespace Mine
set_option genSizeOf false
set_option genInjectivity false
noncomputable def next36 (text : Array Nat) : Nat → Nat → Option Nat
  | 0, _ => none
  | k + 1, s => if dotAt text s then some s else next36 text k (s + 1)
theorem find36 {text : Array Nat} : ∀ (k s : Nat) (sn : Sre.Seen) (must om : Bool), text.size - s = k → s ≤ text.size → ∃ n m, n ≤ 6 * (k + 1) ∧ Sre.M.runFor n (at36 text s sn must om) = m ∧
    match next36 text k s with
    | none => m.outcome = some .failed
    | some p => m.outcome = some .matched ∧ m.start = p ∧ m.handed = p + 1
  | 0, s, sn, must, om, hk, hs => by
    obtain ⟨n, sn', hn, e⟩ := turn36 (text := text) (s := s) (sn := sn) (must := must) (om := om)
    have h1 : ¬ dotAt text s = true := by
      have h0 : ¬ s < text.size := by (first | lia | omega)
      simp [dotAt, h0]
    rw [if_neg h1, if_neg (by (first | lia | omega))] at e
    exact ⟨n, _, by (first | lia | omega), e, rfl⟩
  | k + 1, s, sn, must, om, hk, hs => by
    obtain ⟨n, sn', hn, e⟩ := turn36 (text := text) (s := s) (sn := sn) (must := must) (om := om)
    unfold next36
    by_cases h1 : dotAt text s = true
    · rw [if_pos h1]
      rw [if_pos h1] at e
      exact ⟨n, _, by (first | lia | omega), e, rfl, rfl, rfl⟩
    · rw [if_neg h1]
      rw [if_neg h1, if_pos (by (first | lia | omega))] at e
      obtain ⟨n2, m, hn2, e2, hm⟩ := find36 (text := text) k (s + 1) sn' false false (by (first | lia | omega)) (by (first | lia | omega))
      exact ⟨n + n2, m, by (first | lia | omega), by rw [runFor_add, e, e2], hm⟩
theorem foundP_of {n N : Nat} {m m' : Sre.M} (h : Sre.M.runFor n m = m') (hn : n ≤ N) : (m'.outcome = some .failed → foundP N m = some none) ∧ (m'.outcome = some .matched → foundP N m = some (some m')) := by
  have key : ∀ o, m'.outcome = some o → Sre.M.runFor N m = m' := fun o ho => by
    rw [show N = n + (N - n) by (first | lia | omega), runFor_add, h, runFor_stop (by rw [ho]; rfl)]
  constructor
  · intro ho
    unfold foundP
    rw [key _ ho, ho]
  · intro ho
    unfold foundP
    rw [key _ ho, ho]
theorem found36 {text : Array Nat} {s : Nat} {must : Bool} (hs : s ≤ text.size) (hz : text.size ≤ 2 ^ 40) : match next36 text (text.size - s) s with
    | none => foundP (2 ^ 60) (Sre.forSearch code36 text 0 s text.size must) = some none
    | some p => ∃ m, foundP (2 ^ 60) (Sre.forSearch code36 text 0 s text.size must) = some (some m) ∧ m.start = p ∧ m.handed = p + 1 := by
  by_cases hlt : s < text.size
  · rw [start36 hlt]
    obtain ⟨n, m, hn, e, hm⟩ := find36 (text.size - s) s (({} : Sre.Seen).add 14) must true rfl hs
    have F := foundP_of e (show n ≤ 2 ^ 60 by (first | lia | omega))
    split
    · rename_i h
      rw [h] at hm
      exact F.1 hm
    · rename_i p h
      rw [h] at hm
      exact ⟨m, F.2 hm.1, hm.2.1, hm.2.2⟩
  · have : s = text.size := by (first | lia | omega)
    subst this
    rw [end36, Nat.sub_self]
    show foundP _ _ = _
    refine (foundP_of (n := 2) (m' := { at36 text text.size (({} : Sre.Seen).add 14) must true with frames := [], weight := 0, lastStart := 0, answer := some false, outcome := some .failed }) ?_ (by decide)).1 rfl
    kernel_rfl
noncomputable def dotsL (start : Bool) : List Nat → List Nat
  | [] => []
  | c :: r => if start && c == 46 then 46 :: 46 :: dotsL false r else c :: dotsL (c == 10) r
noncomputable def isStart (text : Array Nat) (s : Nat) : Bool := s == 0 || text.getD (s - 1) 0 == 10
theorem extract_cons {text : Array Nat} {s p : Nat} (h : s < p) (hp : p ≤ text.size) : (text.extract s p).toList = text[s] :: (text.extract (s + 1) p).toList := by
  rw [Array.toList_extract, Array.toList_extract, List.extract_eq_take_drop, List.extract_eq_take_drop, List.drop_eq_getElem_cons (by simpa using (by (first | lia | omega) : s < text.size)), show p - s = (p - (s + 1)) + 1 by (first | lia | omega), List.take_succ_cons]
  simp
theorem next_dots {text : Array Nat} : ∀ (k s : Nat), text.size - s = k → s ≤ text.size → match next36 text k s with
    | none => dotsL (isStart text s) (text.toList.drop s) = text.toList.drop s
    | some p => s ≤ p ∧ p < text.size ∧ dotsL (isStart text s) (text.toList.drop s) = (text.extract s p).toList ++ 46 :: 46 :: dotsL (isStart text (p + 1)) (text.toList.drop (p + 1))
  | 0, s, hk, hs => by
    have : text.toList.drop s = [] := by simp; (first | lia | omega)
    simp [next36, this, dotsL]
  | k + 1, s, hk, hs => by
    have hlt : s < text.size := by (first | lia | omega)
    have hd : text.toList.drop s = text[s] :: text.toList.drop (s + 1) := by
      rw [List.drop_eq_getElem_cons (by simpa using hlt)]; simp
    have hg : text.getD s 0 = text[s] := by simp [hlt]
    have hst : isStart text (s + 1) = (text[s] == 10) := by simp [isStart, hlt]
    have hdot : dotAt text s = (isStart text s && text[s] == 46) := by
      simp only [dotAt, isStart, hg, hlt, decide_true, Bool.and_true]
    unfold next36
    split
    · rename_i p h
      split at h
      · cases h
      · rename_i h1
        have ih := next_dots (text := text) k (s + 1) (by (first | lia | omega)) (by (first | lia | omega))
        rw [h] at ih
        dsimp only at ih
        rw [hd, dotsL, if_neg (by rw [← hdot]; exact h1), ← hst, ih]
    · rename_i p h
      split at h
      · rename_i h1
        cases h
        refine ⟨Nat.le_refl _, hlt, ?_⟩
        rw [hdot] at h1
        rw [hd, dotsL, if_pos h1, hst]
        have h46 : text[s] = 46 := by simpa using (Bool.and_eq_true_iff.mp h1).2
        simp [h46]
      · rename_i h1
        have ih := next_dots (text := text) k (s + 1) (by (first | lia | omega)) (by (first | lia | omega))
        rw [h] at ih
        dsimp only at ih
        obtain ⟨a1, a2, a3⟩ := ih
        refine ⟨by (first | lia | omega), a2, ?_⟩
        rw [hd, dotsL, if_neg (by rw [← hdot]; exact h1), ← hst, a3, extract_cons (s := s) (p := p) (by (first | lia | omega)) (by (first | lia | omega))]
        simp
noncomputable def flatS (l : List Str) : List Nat := l.flatMap (·.cps.toList)
theorem sub36 {text : Array Nat} (hz : text.size ≤ 2 ^ 40) : ∀ (fuel s : Nat) (must : Bool), text.size - s < fuel → s ≤ text.size →
    ∃ ps, subP code36 text 0 ⟨#[46, 46]⟩ fuel s s must = some ps ∧ flatS ps = dotsL (isStart text s) (text.toList.drop s)
  | 0, s, must, h, _ => by (first | lia | omega)
  | fuel + 1, s, must, h, hs => by
    have F := found36 (must := must) hs hz
    have N := next_dots (text.size - s) s rfl hs
    unfold subP
    cases hn : next36 text (text.size - s) s with
    | none =>
      rw [hn] at F N
      dsimp only at F N
      rw [F]
      refine ⟨_, rfl, ?_⟩
      rw [N]
      by_cases hlt : s < text.size
      · rw [if_pos hlt]; simp [flatS, List.extract_eq_take_drop, List.take_of_length_le]
      · rw [if_neg hlt]
        have : text.toList.drop s = [] := by simp; (first | lia | omega)
        rw [this]; rfl
    | some p =>
      rw [hn] at F N
      dsimp only at F N
      obtain ⟨m, hf, h1, h2⟩ := F
      obtain ⟨a1, a2, a3⟩ := N
      obtain ⟨ps, e, he⟩ := sub36 hz fuel (p + 1) (p + 1 == p) (by (first | lia | omega)) (by (first | lia | omega))
      rw [hf]
      dsimp only
      rw [h1, h2, e]
      refine ⟨_, rfl, ?_⟩
      rw [a3, ← he]
      by_cases hlt : s < p
      · rw [if_pos hlt]; simp [flatS]
      · rw [if_neg hlt]
        have : p = s := by (first | lia | omega)
        subst this
        simp [flatS]
end Mine
namespace Mine
set_option genSizeOf false
set_option genInjectivity false
noncomputable def code41 : Array Nat := #[14, 9, 4, 1, 2, 16, 10, 16, 13, 0, 7, 7, 16, 13, 16, 10, 15, 18, 5, 16, 10, 15, 13, 11, 16, 13, 5, 5, 0, 16, 10, 1, 15, 2, 0, 1]
noncomputable def base41 (text : Array Nat) (s : Nat) (must : Bool) : Sre.M :=
  { code := code41, text := text, lim := text.size, start := s, lastStart := text.size, mustAdvance := must, pc := 10, pos := s, handed := s, marks := #[], seen := (({} : Sre.Seen).add 14) }
noncomputable def at41 (text : Array Nat) (p : Nat) (sn : Sre.Seen) : Sre.M :=
  { code := code41, text := text, lim := text.size, start := p, lastStart := text.size, pc := 10, pos := p, handed := p, marks := #[], frames := [{ wait := .nextStart, pc := 10, pos := p, outermost := true }], weight := 1, seen := sn }
noncomputable def inEnd (c : Nat) : Bool := c == 10 || c == 13
theorem set41 (c : Nat) (sn : Sre.Seen) : ∃ sn', Sre.inSet code41 c 36 5 true sn = .ok (inEnd c, sn') := by
  have h1 : Sre.inSet code41 c 36 5 true sn = if (c == 10) = true then .ok (true, sn.add 16) else if (c == 13) = true then .ok (true, (sn.add 16).add 16) else .ok (false, ((sn.add 16).add 16).add 0) := by kernel_rfl
  rw [h1]
  unfold inEnd
  cases c == 10 with
  | true => exact ⟨_, rfl⟩
  | false =>
    cases c == 13 with
    | true => exact ⟨_, rfl⟩
    | false => exact ⟨_, rfl⟩
noncomputable def nextEnd (text : Array Nat) : Nat → Nat → Option Nat
  | 0, _ => none
  | k + 1, s => if inEnd (text.getD s 0) then some s else nextEnd text k (s + 1)
theorem admitted41 {text : Array Nat} (m : Sre.M) (hc : m.code = code41) (ht : m.text = text) (hl : m.lim = text.size) : ∀ (k s : Nat) (sn : Sre.Seen), text.size - s = k → s ≤ text.size → ∃ sn', Sre.M.admitted m (k + 1) s sn = .ok (nextEnd text k s, sn')
  | 0, s, sn, hk, hs => by
    refine ⟨sn, ?_⟩
    show (if s ≥ m.lim then _ else _) = _
    rw [if_pos (by (first | lia | omega))]
    rfl
  | k + 1, s, sn, hk, hs => by
    obtain ⟨sn1, e1⟩ := set41 (text.getD s 0) sn
    obtain ⟨sn2, e2⟩ := admitted41 (text := text) m hc ht hl k (s + 1) sn1 (by (first | lia | omega)) (by (first | lia | omega))
    cases hi : inEnd (text.getD s 0) with
    | true =>
      refine ⟨sn1, ?_⟩
      show (if s ≥ m.lim then _ else _) = _
      rw [if_neg (by (first | lia | omega)), hc, ht]
      rw [show code41.size = 36 from rfl, e1, hi]
      unfold nextEnd
      rw [hi]
      rfl
    | false =>
      refine ⟨sn2, ?_⟩
      show (if s ≥ m.lim then _ else _) = _
      rw [if_neg (by (first | lia | omega)), hc, ht]
      rw [show code41.size = 36 from rfl, e1, hi]
      unfold nextEnd
      rw [hi]
      exact e2
theorem start41 {text : Array Nat} {s : Nat} {must : Bool} (hs : s < text.size) : ∃ sn, Sre.forSearch code41 text 0 s text.size must = match nextEnd text (text.size - s) s with
    | none => { base41 text s must with seen := sn, answer := some false }
    | some p => at41 text p sn := by
  have h : Sre.forSearch code41 text 0 s text.size must = if (decide (s > text.size) || decide (text.size - s < 1)) = true then Sre.M.say { base41 text s must with lastStart := 0 } false else (base41 text s must).attemptFrom s true := by kernel_rfl
  rw [h, if_neg (by simp; (first | lia | omega))]
  obtain ⟨sn, e⟩ := admitted41 (text := text) (base41 text s must) rfl rfl rfl (text.size - s) s (({} : Sre.Seen).add 14) rfl (by (first | lia | omega))
  refine ⟨sn, ?_⟩
  unfold Sre.M.attemptFrom
  have hf : Sre.M.hasFirstSet (base41 text s must) = true := by kernel_rfl
  rw [if_neg (by rw [hf]; simp)]
  rw [show (base41 text s must).lim + 1 - s = (text.size - s) + 1 by show text.size + 1 - s = _; (first | lia | omega)]
  rw [show (base41 text s must).seen = (({} : Sre.Seen).add 14) from rfl, e]
  cases nextEnd text (text.size - s) s with
  | none => rfl
  | some p => kernel_rfl
theorem end41 {text : Array Nat} {must : Bool} : Sre.forSearch code41 text 0 text.size text.size must = Sre.M.say { base41 text text.size must with lastStart := 0 } false := by
  have h : Sre.forSearch code41 text 0 text.size text.size must = if (decide (text.size > text.size) || decide (text.size - text.size < 1)) = true then Sre.M.say { base41 text text.size must with lastStart := 0 } false else (base41 text text.size must).attemptFrom text.size true := by kernel_rfl
  rw [h, if_pos (by simp)]
end Mine
namespace Mine
set_option genSizeOf false
set_option genInjectivity false
noncomputable def kept0 : Sre.Kept := { lastmark := -1, lastindex := -1, whole := false, marks := #[] }
noncomputable def alt41 (text : Array Nat) (p : Nat) (sn : Sre.Seen) (alt pc pos : Nat) : Sre.M :=
  { at41 text p sn with frames := [{ wait := .nextBranch, pc := alt, pos := p, outermost := true, kept := kept0 }, { wait := .nextStart, pc := 10, pos := p, outermost := true }], weight := 2, pc := pc, pos := pos }
noncomputable def look41 (text : Array Nat) (p : Nat) (sn : Sre.Seen) : Sre.M :=
  { at41 text p sn with frames := [{ wait := .lookNot, pc := 26, pos := p + 1, outermost := true, kept := kept0 }, { wait := .nextBranch, pc := 23, pos := p, outermost := true, kept := kept0 }, { wait := .nextStart, pc := 10, pos := p, outermost := true }], weight := 3, pc := 29, pos := p + 1, handed := p + 1, outermost := false }
noncomputable def fin41 (text : Array Nat) (p h : Nat) (sn : Sre.Seen) : Sre.M := { at41 text p sn with frames := [], weight := 0, handed := h, answer := some true, outcome := some .matched }
section
variable {text : Array Nat} {p : Nat} {sn : Sre.Seen}
theorem b1 : (at41 text p sn).step = alt41 text p (sn.add 7) 11 12 p := by kernel_rfl
theorem b2 : (alt41 text p sn 11 12 p).step = if p ≥ text.size then { alt41 text p (sn.add 16) 11 12 p with answer := some false } else
    match (text.getD p 0 == 13) with
    | false => { alt41 text p (sn.add 16) 11 12 p with answer := some false }
    | true => alt41 text p (sn.add 16) 11 14 (p + 1) := by kernel_rfl
theorem b3 : (alt41 text p sn 11 14 (p + 1)).step = if p + 1 ≥ text.size then { alt41 text p (sn.add 16) 11 14 (p + 1) with answer := some false } else
    match (text.getD (p + 1) 0 == 10) with
    | false => { alt41 text p (sn.add 16) 11 14 (p + 1) with answer := some false }
    | true => alt41 text p (sn.add 16) 11 16 (p + 2) := by kernel_rfl
theorem b4 : Sre.M.runFor 5 (alt41 text p sn 11 16 (p + 2)) = fin41 text p (p + 2) ((sn.add 15).add 1) := by kernel_rfl
theorem b5 {pc pos : Nat} : Sre.M.step { alt41 text p sn 11 pc pos with answer := some false } = alt41 text p sn 18 19 p := by kernel_rfl
theorem b6 : (alt41 text p sn 18 19 p).step = if p ≥ text.size then { alt41 text p (sn.add 16) 18 19 p with answer := some false } else
    match (text.getD p 0 == 10) with
    | false => { alt41 text p (sn.add 16) 18 19 p with answer := some false }
    | true => alt41 text p (sn.add 16) 18 21 (p + 1) := by kernel_rfl
theorem b7 : Sre.M.runFor 5 (alt41 text p sn 18 21 (p + 1)) = fin41 text p (p + 1) ((sn.add 15).add 1) := by kernel_rfl
theorem b8 {pc pos : Nat} : Sre.M.step { alt41 text p sn 18 pc pos with answer := some false } = alt41 text p sn 23 24 p := by kernel_rfl
theorem b9 : (alt41 text p sn 23 24 p).step = if p ≥ text.size then { alt41 text p (sn.add 16) 23 24 p with answer := some false } else
    match (text.getD p 0 == 13) with
    | false => { alt41 text p (sn.add 16) 23 24 p with answer := some false }
    | true => alt41 text p (sn.add 16) 23 26 (p + 1) := by kernel_rfl
theorem b10 : (alt41 text p sn 23 26 (p + 1)).step = look41 text p (sn.add 5) := by kernel_rfl
theorem b11 : (look41 text p sn).step = if p + 1 ≥ text.size then { look41 text p (sn.add 16) with answer := some false } else
    match (text.getD (p + 1) 0 == 10) with
    | false => { look41 text p (sn.add 16) with answer := some false }
    | true => { look41 text p (sn.add 16) with pc := 31, pos := p + 2 } := by kernel_rfl
theorem b12 : Sre.M.runFor 6 { look41 text p sn with answer := some false } = fin41 text p (p + 1) ((sn.add 15).add 1) := by kernel_rfl
end
noncomputable def endOf (text : Array Nat) (p : Nat) : Nat := if text.getD p 0 == 13 && decide (p + 1 < text.size) && text.getD (p + 1) 0 == 10 then p + 2 else p + 1
theorem match41 {text : Array Nat} {p : Nat} {sn : Sre.Seen} (hp : p < text.size) (hi : inEnd (text.getD p 0) = true) : ∃ n sn', n ≤ 20 ∧ Sre.M.runFor n (at41 text p sn) = fin41 text p (endOf text p) sn' := by
  have more : ∀ (n : Nat) (m : Sre.M), m.outcome = none → Sre.M.runFor (n + 1) m = Sre.M.runFor n m.step := fun n m h => by rw [runFor_succ, if_neg (by rw [h]; simp)]
  cases h13 : text.getD p 0 == 13 with
  | false =>
    have h10 : (text.getD p 0 == 10) = true := by
      unfold inEnd at hi
      rw [h13, Bool.or_false] at hi
      exact hi
    refine ⟨9, ?sa, by (first | lia | omega), ?_⟩
    rotate_left
    rw [more _ _ rfl, b1, more _ _ rfl, b2, if_neg (by (first | lia | omega)), h13]
    dsimp only
    rw [more _ _ rfl, b5, more _ _ rfl, b6, if_neg (by (first | lia | omega)), h10]
    dsimp only
    have : endOf text p = p + 1 := by unfold endOf; rw [h13]; rfl
    rw [this]
    exact b7
  | true =>
    have h10 : (text.getD p 0 == 10) = false := by
      have : text.getD p 0 = 13 := by simpa using h13
      rw [this]; rfl
    have tail : ∀ (sn : Sre.Seen) (pos : Nat), endOf text p = p + 1 → (text.size ≤ p + 1 ∨ (text.getD (p + 1) 0 == 10) = false) → ∃ n sn', n ≤ 15 ∧ Sre.M.runFor n { alt41 text p sn 11 14 (p + 1) with answer := some false } = fin41 text p (endOf text p) sn' := by
      intro sn pos he hc
      have hb : ∀ sn, (look41 text p sn).step = { look41 text p (sn.add 16) with answer := some false } := fun sn => by
        rw [b11]
        by_cases hle : p + 1 ≥ text.size
        · rw [if_pos hle]
        · rw [if_neg hle]
          rcases hc with hc | hc
          · (first | lia | omega)
          · rw [hc]
      refine ⟨12, ?sb, by (first | lia | omega), ?_⟩
      rotate_left
      rw [more _ _ rfl, b5, more _ _ rfl, b6, if_neg (by (first | lia | omega)), h10]
      dsimp only
      rw [more _ _ rfl, b8, more _ _ rfl, b9, if_neg (by (first | lia | omega)), h13]
      dsimp only
      rw [more _ _ rfl, b10, more _ _ rfl, hb]
      rw [he]
      exact b12
    by_cases hle : p + 1 < text.size
    · cases h2 : text.getD (p + 1) 0 == 10 with
      | true =>
        refine ⟨8, ?sc, by (first | lia | omega), ?_⟩
        rotate_left
        rw [more _ _ rfl, b1, more _ _ rfl, b2, if_neg (by (first | lia | omega)), h13]
        dsimp only
        rw [more _ _ rfl, b3, if_neg (by (first | lia | omega)), h2]
        dsimp only
        have : endOf text p = p + 2 := by unfold endOf; rw [h13, h2, if_pos (by simp [hle])]
        rw [this]
        exact b4
      | false =>
        have : endOf text p = p + 1 := by unfold endOf; rw [h13, h2, if_neg (by simp)]
        obtain ⟨n, sn', hn, e⟩ := tail (((sn.add 7).add 16).add 16) 0 this (.inr h2)
        refine ⟨n + 3, sn', by (first | lia | omega), ?_⟩
        rw [more _ _ rfl, b1, more _ _ rfl, b2, if_neg (by (first | lia | omega)), h13]
        dsimp only
        rw [more _ _ rfl, b3, if_neg (by (first | lia | omega)), h2]
        exact e
    · have : endOf text p = p + 1 := by unfold endOf; rw [if_neg (by simp [hle])]
      obtain ⟨n, sn', hn, e⟩ := tail (((sn.add 7).add 16).add 16) 0 this (.inl (by (first | lia | omega)))
      refine ⟨n + 3, sn', by (first | lia | omega), ?_⟩
      rw [more _ _ rfl, b1, more _ _ rfl, b2, if_neg (by (first | lia | omega)), h13]
      dsimp only
      rw [more _ _ rfl, b3, if_pos (by (first | lia | omega))]
      exact e
end Mine
namespace Mine
set_option genSizeOf false
set_option genInjectivity false
noncomputable def crlfL : List Nat → List Nat
  | 13 :: 10 :: r => 13 :: 10 :: crlfL r
  | 10 :: r => 13 :: 10 :: crlfL r
  | 13 :: r => 13 :: 10 :: crlfL r
  | c :: r => c :: crlfL r
  | [] => []
theorem nextEnd_some {text : Array Nat} : ∀ (k s p : Nat), text.size - s = k → nextEnd text k s = some p → s ≤ p ∧ p < text.size ∧ inEnd (text.getD p 0) = true
  | 0, s, p, hk, h => by simp [nextEnd] at h
  | k + 1, s, p, hk, h => by
    unfold nextEnd at h
    split at h
    · rename_i hi
      cases h
      exact ⟨Nat.le_refl _, by (first | lia | omega), hi⟩
    · obtain ⟨a, b, c⟩ := nextEnd_some k (s + 1) p (by (first | lia | omega)) h
      exact ⟨by (first | lia | omega), b, c⟩
theorem found41 {text : Array Nat} {s : Nat} {must : Bool} (hs : s ≤ text.size) : match nextEnd text (text.size - s) s with
    | none => foundP (2 ^ 60) (Sre.forSearch code41 text 0 s text.size must) = some none
    | some p => ∃ m, foundP (2 ^ 60) (Sre.forSearch code41 text 0 s text.size must) = some (some m) ∧ m.start = p ∧ m.handed = endOf text p := by
  by_cases hlt : s < text.size
  · obtain ⟨sn, e⟩ := start41 (must := must) hlt
    rw [e]
    split
    · rename_i h
      try rw [h]
      refine (foundP_of (n := 1) (m' := { base41 text s must with seen := sn, answer := some false, outcome := some .failed }) ?_ (by decide)).1 rfl
      kernel_rfl
    · rename_i p h
      try rw [h]
      obtain ⟨a, b, c⟩ := nextEnd_some _ _ _ rfl h
      obtain ⟨n, sn', hn, e⟩ := match41 (sn := sn) b c
      exact ⟨_, (foundP_of e (by (first | lia | omega))).2 rfl, rfl, rfl⟩
  · have : s = text.size := by (first | lia | omega)
    subst this
    rw [end41, Nat.sub_self]
    show foundP _ _ = _
    refine (foundP_of (n := 1) (m' := { base41 text text.size must with lastStart := 0, answer := some false, outcome := some .failed }) ?_ (by decide)).1 rfl
    kernel_rfl
theorem crlf_other {c : Nat} {r : List Nat} (h : inEnd c = false) : crlfL (c :: r) = c :: crlfL r := by
  unfold inEnd at h
  simp only [Bool.or_eq_false_iff, beq_eq_false_iff_ne, ne_eq] at h
  rw [crlfL]
  · intro r h1; exact absurd h1 h.2
  · exact h.1
  · exact h.2
theorem next_crlf {text : Array Nat} : ∀ (k s : Nat), text.size - s = k → s ≤ text.size → match nextEnd text k s with
    | none => crlfL (text.toList.drop s) = text.toList.drop s
    | some p => crlfL (text.toList.drop s) = (text.extract s p).toList ++ 13 :: 10 :: crlfL (text.toList.drop (endOf text p))
  | 0, s, hk, hs => by
    have : text.toList.drop s = [] := by simp; (first | lia | omega)
    simp [nextEnd, this, crlfL]
  | k + 1, s, hk, hs => by
    have hlt : s < text.size := by (first | lia | omega)
    have hd : text.toList.drop s = text[s] :: text.toList.drop (s + 1) := by
      rw [List.drop_eq_getElem_cons (by simpa using hlt)]; simp
    have hg : text.getD s 0 = text[s] := by simp [hlt]
    unfold nextEnd
    cases hi : inEnd (text.getD s 0) with
    | false =>
      rw [if_neg (by simp)]
      have ih := next_crlf (text := text) k (s + 1) (by (first | lia | omega)) (by (first | lia | omega))
      cases hn : nextEnd text k (s + 1) with
      | none =>
        rw [hn] at ih
        dsimp only at ih ⊢
        rw [hd, crlf_other (by rw [← hg]; exact hi), ih]
      | some p =>
        rw [hn] at ih
        dsimp only at ih ⊢
        obtain ⟨a, b, _⟩ := nextEnd_some _ _ _ (by (first | lia | omega)) hn
        rw [hd, crlf_other (by rw [← hg]; exact hi), ih, extract_cons (s := s) (p := p) (by (first | lia | omega)) (by (first | lia | omega))]
        rfl
    | true =>
      rw [if_pos rfl]
      dsimp only
      have hex : (text.extract s s).toList = [] := by simp
      rw [hex, hd]
      by_cases h13 : text[s] = 13
      · by_cases h2 : s + 1 < text.size
        · have hd2 : text.toList.drop (s + 1) = text[s + 1] :: text.toList.drop (s + 2) := by
            rw [List.drop_eq_getElem_cons (by simpa using h2)]; simp
          have hg2 : text.getD (s + 1) 0 = text[s + 1] := by simp [h2]
          by_cases h10 : text[s + 1] = 10
          · have he : endOf text s = s + 2 := by unfold endOf; rw [hg, hg2, h13, h10, if_pos (by simp [h2])]
            rw [he, hd2, h13, h10]
            rfl
          · have he : endOf text s = s + 1 := by unfold endOf; rw [hg, hg2, if_neg (by simp [h10])]
            rw [he, hd2, h13, crlfL]
            · rfl
            · intro r h; exact absurd (List.cons.inj h).1 h10
        · have he : endOf text s = s + 1 := by unfold endOf; rw [if_neg (by simp [h2])]
          have hn : text.toList.drop (s + 1) = [] := by simp; (first | lia | omega)
          rw [he, hn, h13]
          rfl
      · have h10 : text[s] = 10 := by
          unfold inEnd at hi
          rw [hg] at hi
          simpa [h13] using hi
        have he : endOf text s = s + 1 := by unfold endOf; rw [hg, if_neg (by simp [h13])]
        rw [he, h10]
        rfl
theorem sub41 {text : Array Nat} : ∀ (fuel s : Nat) (must : Bool), text.size - s < fuel → s ≤ text.size →
    ∃ ps, subP code41 text 0 ⟨#[13, 10]⟩ fuel s s must = some ps ∧ flatS ps = crlfL (text.toList.drop s)
  | 0, s, must, h, _ => by (first | lia | omega)
  | fuel + 1, s, must, h, hs => by
    have F := found41 (must := must) hs
    have N := next_crlf (text := text) (text.size - s) s rfl hs
    unfold subP
    cases hn : nextEnd text (text.size - s) s with
    | none =>
      rw [hn] at F N
      dsimp only at F N
      rw [F]
      refine ⟨_, rfl, ?_⟩
      rw [N]
      by_cases hlt : s < text.size
      · rw [if_pos hlt]; simp [flatS, List.take_of_length_le]
      · rw [if_neg hlt]
        have : text.toList.drop s = [] := by simp; (first | lia | omega)
        rw [this]; rfl
    | some p =>
      obtain ⟨a1, a2, _⟩ := nextEnd_some _ _ _ rfl hn
      rw [hn] at F N
      dsimp only at F N
      obtain ⟨m, hf, h1, h2⟩ := F
      have he1 : p + 1 ≤ endOf text p ∧ endOf text p ≤ text.size := by
        have a2' := a2
        unfold endOf
        by_cases h2 : p + 1 < text.size
        · generalize (text.getD p 0 == 13 && decide (p + 1 < text.size) && text.getD (p + 1) 0 == 10) = bb
          cases bb
          · rw [if_neg (by simp)]; (first | lia | omega)
          · rw [if_pos rfl]; (first | lia | omega)
        · rw [if_neg (by simp [h2])]; (first | lia | omega)
      obtain ⟨ps, e, he⟩ := sub41 (text := text) fuel (endOf text p) (endOf text p == p) (by (first | lia | omega)) he1.2
      rw [hf]
      dsimp only
      rw [h1, h2, e]
      refine ⟨_, rfl, ?_⟩
      rw [N, ← he]
      by_cases hlt : s < p
      · rw [if_pos hlt]; simp [flatS]
      · rw [if_neg hlt]
        have : p = s := by (first | lia | omega)
        subst this
        simp [flatS]
end Mine
namespace Mine
set_option genSizeOf false
set_option genInjectivity false
theorem join_flat : ∀ (l : List Str), Str.join ⟨#[]⟩ l = ⟨(flatS l).toArray⟩
  | [] => rfl
  | [x] => by
    show x = _
    obtain ⟨c⟩ := x
    simp [flatS]
  | x :: y :: r => by
    have ih := join_flat (y :: r)
    show x ++ ⟨#[]⟩ ++ Str.join ⟨#[]⟩ (y :: r) = _
    rw [ih]
    obtain ⟨c⟩ := x
    show (⟨c ++ #[] ++ (flatS (y :: r)).toArray⟩ : Str) = _
    congr 1
    simp [flatS]
theorem txt_flat (l : List Str) : Txt.join ⟨#[]⟩ l = ⟨(flatS l).toArray⟩ := (StrLaws.glued_eq_join _ _).trans (join_flat l)
theorem flat_len (l : List Str) : (l.map (·.length)).sum = (flatS l).length := by
  induction l with
  | nil => rfl
  | cons x r ih => simp [flatS] at ih ⊢; rw [ih]; rfl
theorem joinOk_flat (l : List Str) (h : (flatS l).length ≤ sizeLine) : JoinOk ⟨#[]⟩ l = true := by
  unfold JoinOk
  rw [StrLaws.joinTotal, flat_len]
  simp [Builtin.Str.tooLong, Str.length]
  exact h
theorem dots_len : ∀ (l : List Nat) (b : Bool), (dotsL b l).length ≤ 2 * l.length
  | [], _ => Nat.le_refl _
  | c :: r, b => by
    rw [dotsL]
    split
    · have := dots_len r false; simp; (first | lia | omega)
    · have := dots_len r (c == 10); simp; (first | lia | omega)
theorem crlf_len : ∀ (n : Nat) (l : List Nat), l.length ≤ n → (crlfL l).length ≤ 2 * l.length
  | 0, l, h => by have : l = [] := by simpa using h
                  subst this; simp [crlfL]
  | n + 1, l, h => by
    unfold crlfL
    split
    · rename_i r; have := crlf_len n r (by simp at h; (first | lia | omega)); simp; (first | lia | omega)
    · rename_i r; have := crlf_len n r (by simpa using h); simp; (first | lia | omega)
    · rename_i r _; have := crlf_len n r (by simpa using h); simp; (first | lia | omega)
    · rename_i c r _ _ _; have := crlf_len n r (by simpa using h); simp; (first | lia | omega)
    · simp
section
variable {W : Ws} {a : Addr} {x : Str}
theorem dots_spec (P : Pat W.B.g a code36 0) (hx : x.cps.size ≤ seqMax) : MethQ W (.obj a) (Str.ofString "sub") [.str ⟨#[46, 46]⟩, .str x] (.str ⟨(dotsL true x.cps.toList).toArray⟩) := by
  have hm : seqMax = 1048576 := rfl
  have hs : sizeLine = 16777216 := rfl
  obtain ⟨ps, e, he⟩ := sub36 (text := x.cps) (by (first | lia | omega)) (2 * x.cps.size + 3) 0 false (by (first | lia | omega)) (Nat.zero_le _)
  rw [show isStart x.cps 0 = true from rfl, List.drop_zero] at he
  have := dots_len x.cps.toList true
  rw [← he, ← txt_flat]
  exact sub_spec P hx (by simp) (by decide) e (joinOk_flat ps (by rw [he]; simp at this; (first | lia | omega)))
theorem crlf_spec (P : Pat W.B.g a code41 0) (hx : x.cps.size ≤ seqMax) : MethQ W (.obj a) (Str.ofString "sub") [.str ⟨#[13, 10]⟩, .str x] (.str ⟨(crlfL x.cps.toList).toArray⟩) := by
  have hm : seqMax = 1048576 := rfl
  have hs : sizeLine = 16777216 := rfl
  obtain ⟨ps, e, he⟩ := sub41 (text := x.cps) (2 * x.cps.size + 3) 0 false (by (first | lia | omega)) (Nat.zero_le _)
  rw [List.drop_zero] at he
  have := crlf_len _ x.cps.toList (Nat.le_refl _)
  rw [← he, ← txt_flat]
  exact sub_spec P hx (by simp) (by decide) e (joinOk_flat ps (by rw [he]; simp at this; (first | lia | omega)))
end
end Mine
namespace Mine
set_option genSizeOf false
set_option genInjectivity false
structure CloFn (B : Bs) (h : Heap) (f : Addr) (fd : FuncData) (names : List Str) (body : List Stmt) : Prop where
  obj : ∃ o, h.get? f = some o ∧ o.data = .func fd
  hbody : fd.body = .stmts body
  gl : fd.globals = mainGlobals
  bu : fd.builtins = builtinsNs
  code : h.CodeRec fd.code fd.qualname
  co : fd.scope.isCoroutine = false
  gen : fd.scope.isGenerator = false
  kind : fd.scope.kind = .function
  nocell : ∀ x ∈ fd.scope.names, x.2 ≠ .cell
  nodup : names.Nodup
  kinds : ∀ x ∈ names, fd.scope.names.lookup x = some .local
  bind : ∀ (s : Shared) (vals : List Value), vals.length = names.length → BindsTo s fd ⟨vals, []⟩ (names.zip vals)
  cells : ∀ x, fd.scope.names.lookup x = some .free → ∃ c v, fd.closure.lookup x = some c ∧ h.IsCell c v ∧ B.g.get? c = none
  apart : ∀ x y c, fd.closure.lookup x = some c → fd.closure.lookup y = some c → x = y
section
variable {ok : Addr → Prop} {h : Heap}
theorem rev_out {β : Type} : ∀ {names : List Str} {vals : List β} {x : Str}, x ∉ names → (names.zip vals).reverse.lookup x = none
  | [], _, _, _ => rfl
  | _ :: _, [], _, _ => rfl
  | n :: ns, v :: vs, x, hx => by
    have hx := fun q => hx (List.mem_cons.mpr q)
    rw [List.zip_cons_cons, List.reverse_cons, List.lookup_append, rev_out fun q => hx (.inr q), List.lookup_cons, beq_eq_false_iff_ne.mpr fun q => hx (.inl q)]
    rfl
theorem rev_look {ps : List PV} {vals : List Value} (hr : Rels ok h vals ps) : ∀ {names : List Str} {x : Str} {r : RV}, names.Nodup → (names.zip (ps.map RV.val)).lookup x = some r → ∃ v p, (names.zip vals).reverse.lookup x = some v ∧ r = .val p ∧ Rel ok h v p ∧ x ∈ names :=
  hr.ind (P := fun vals ps => ∀ {names : List Str} {x : Str} {r : RV}, names.Nodup → (names.zip (ps.map RV.val)).lookup x = some r → ∃ v p, (names.zip vals).reverse.lookup x = some v ∧ r = .val p ∧ Rel ok h v p ∧ x ∈ names)
  (fun {names x r} _ e => by rw [List.map_nil, List.zip_nil_right] at e; cases e) fun {v vs p l} a _ ih {names x r} hn e => by
    cases names with
    | nil => cases e
    | cons n ns =>
      rw [List.map_cons, List.zip_cons_cons, List.lookup_cons] at e
      have hn := List.nodup_cons.mp hn
      rw [List.zip_cons_cons, List.reverse_cons, List.lookup_append]
      cases hx : x == n with
      | true =>
        rw [hx] at e
        obtain rfl := Option.some.inj e
        obtain rfl := eq_of_beq hx
        exact ⟨v, p, by rw [rev_out hn.1, List.lookup_cons, beq_self_eq_true]; rfl, rfl, a, List.mem_cons_self⟩
      | false =>
        rw [hx] at e
        obtain ⟨u, q, h1, h2, h3, h4⟩ := ih hn.2 e
        exact ⟨u, q, by rw [h1]; rfl, h2, h3, List.mem_cons_of_mem _ h4⟩
end
section
variable {W : Ws} {A : Around} {s s₁ : Shared} {f D : Addr} {fd : FuncData} {names : List Str} {body : List Stmt} {vals : List Value} {ps : List PV} {ok : Addr → Prop} {as₀ : Option Addr} {σ₀ : Sto} {ρc : Loc} {R : Result → Shared → Prop}
theorem CloFn.call (C : CloFn W.B s.heap f fd names body) (hR : Room (W.k + 1) A) (G : Glob W.B s.heap) (hr : Rels ok s.heap vals ps) (hl : vals.length = names.length) (hx : ∀ a, as₀ = some a → IsSeq s.heap a ∧ W.B.g.get? a = none ∧ ¬ ok a)
    (hc : ∀ x r, ρc.lookup x = some r → fd.scope.names.lookup x = some .free ∧ ∃ c v, fd.closure.lookup x = some c ∧ s.heap.IsCell c (some v) ∧ RRel as₀ ok s.heap v r) (ho : OwnOk ok s.heap σ₀ as₀)
    (h : ∀ s₁ (E : Ent W (A.deeper (callEnv fd s.heap.objs.size f)) [] (callEnv fd s.heap.objs.size f) s s₁), Inv (Fr.fn E as₀ ok fun _ => False) (names.zip (ps.map RV.val) ++ ρc) σ₀ [] as₀ s₁ →
      wpAny W.M (A.deeper (callEnv fd s.heap.objs.size f)) (execs body (callEnv fd s.heap.objs.size f)) (fun fl s' => R (.ok (.ret (match fl with | .ret v => v | _ => .none))) s') NoE s₁) :
    codeAny W.M A (.call (.ref f) ⟨vals, []⟩) R s := by
  obtain ⟨o, hob, hd⟩ := C.obj
  refine codeAny_call_def (Nat.lt_of_le_of_lt (Nat.le_trans (Nat.le_add_right _ _) hR.depth) (by decide)) hob hd (W.O.nolim.keeps G.1) C.code C.hbody (C.bind s vals hl) C.nocell (fun x hx => C.kinds x.1 (List.of_mem_zip hx).1) (fun h₀ hns keep => wpAny_mono (h _ ?_ ?_) (fun _ _ q => q) fun _ _ q => q.elim) C.co C.gen C.kind
  · exact {
      room := hR.deeper _
      glob := G
      fs := fun _ q => nomatch q
      kind := C.kind
      gl := C.gl
      bu := C.bu
      self := rfl
      new := get_new (Nat.le_refl _)
      form := ⟨_, _, rfl⟩
      keep := keep
      ns := ⟨_, hns⟩
      cndup := fun x y c e1 e2 _ _ => C.apart x y c e1 e2
      cex := fun x e => by
        rcases e with e | e
        · exact (C.nocell _ (mem_of_look (e : fd.scope.names.lookup x = some .cell)) rfl).elim
        · obtain ⟨c, v, h1, ⟨o, h2, h3⟩, h4⟩ := C.cells x e
          exact ⟨c, v, h1, ⟨o, keep c o h2, h3⟩, h4⟩
      cnew := fun x c e _ => (C.nocell _ (mem_of_look (e : fd.scope.names.lookup x = some .cell)) rfl).elim }
  · have kd : ∀ {E : Ent W (A.deeper (callEnv fd s.heap.objs.size f)) [] (callEnv fd s.heap.objs.size f) s { s with heap := h₀, toks := s.toks + (names.zip vals).length }} {b}, ok b → (Fr.fn E as₀ ok fun _ => False).dat as₀ b := fun {E b} q => ⟨fun z => z.2.2.1 q, fun z => (hx b z).2.2 q⟩
    have sk : ∀ {E : Ent W (A.deeper (callEnv fd s.heap.objs.size f)) [] (callEnv fd s.heap.objs.size f) s { s with heap := h₀, toks := s.toks + (names.zip vals).length }}, Sk ok ((Fr.fn E as₀ ok fun _ => False).dat as₀) s.heap h₀ := fun {E} a o xs n e d q => ⟨keep a o e, kd q⟩
    refine Inv.fn _ (fun a e => ⟨(hx a e).1, (hx a e).2.1⟩) (fun x r e => ?_) ⟨ho.1, fun l e => (ho.2 l e).elim fun a z => z.elim fun vs z => z.elim fun n z => ⟨a, vs, n, z.1, keep a _ z.2.1, z.2.2.step sk⟩⟩
    rw [List.lookup_append] at e
    cases e3 : (names.zip (ps.map RV.val)).lookup x with
    | some r' =>
      rw [e3] at e
      obtain rfl := Option.some.inj e
      obtain ⟨v, p, h1, rfl, h2, h3⟩ := rev_look hr C.nodup e3
      exact ⟨v, ⟨fun _ => ⟨_, hns, h1⟩, fun q => by
        have k := C.kinds x h3
        rcases q with q | q <;> (rw [show (callEnv fd s.heap.objs.size f).kindOf x = fd.scope.names.lookup x from rfl, k] at q; cases q)⟩, h2.step sk⟩
    | none =>
      rw [e3] at e
      obtain ⟨h0, c, v, h1, ⟨o, h2, h3⟩, h4⟩ := hc x r e
      exact ⟨v, ⟨fun q => (by rw [show (callEnv fd s.heap.objs.size f).kindOf x = fd.scope.names.lookup x from rfl, h0] at q; cases q), fun _ => ⟨c, h1, o, keep c o h2, h3⟩⟩, h4.step sk fun a e => ⟨e, fun o => keep a o⟩⟩
end
end Mine
namespace Mine
set_option genSizeOf false
set_option genInjectivity false
noncomputable def CodeK (h : Heap) (c : Addr) (qual : Str) : Prop := ∃ o vs t, h.get? c = some o ∧ o.cls = .type "code" ∧ o.data = .fields vs ∧ vs[1]? = some (.str qual t)
noncomputable def TabOk (h : Heap) (P : Addr) (pos : Pos) (qual : Str) : Prop :=
  ∃ ps, h.get? P = some (tabObj ps) ∧ TriplesOk ps.toList ∧ (codeAmong pos ps.toList = none ∨ ∃ c', codeAmong pos ps.toList = some (.ref c') ∧ CodeK h c' qual)
theorem CodeK.keeps {h h' : Heap} {c : Addr} {qual : Str} (x : CodeK h c qual) (k : ∀ o, (∃ vs, o.data = .fields vs) → o.cls = .type "code" → h.get? c = some o → h'.get? c = some o) : CodeK h' c qual := by
  obtain ⟨o, vs, t, e, h1, h2, h3⟩ := x
  exact ⟨o, vs, t, k o ⟨vs, h2⟩ h1 e, h1, h2, h3⟩
theorem CodeK.rec_ {h : Heap} {c : Addr} {qual : Str} (x : CodeK h c qual) : h.CodeRec (.ref c) qual := by
  obtain ⟨o, vs, t, e, h1, h2, h3⟩ := x
  exact ⟨c, o, vs, t, rfl, e, h2, h3⟩
section
variable {M : Model} {A : Around} {E : Value → Shared → Prop} {s : Shared} {name qual : Str} {params : Arguments} {body : List Stmt} {scope : Scope} {env : Env} {c P : Addr} {pos : Pos} {firstLine : Nat} {mg : Str → Option Value} {clos : List (Str × Addr)} {Q : Value → Shared → Prop}
theorem made_new {ps : Array Value} (hcl : closureFor scope env = pure clos) (hcn : clos.isEmpty = false) (hge0 : env.globals = mainGlobals) (hg : s.heap.Ns mainGlobals mg) (hcode : env.code = .ref c) (C : CodeHd s.heap c P) (hP : s.heap.get? P = some (tabObj ps)) (ht : TriplesOk ps.toList)
    (hnf : codeAmong pos ps.toList = none) (hgP : mainGlobals ≠ P) (hb : s.heap.BuiltinsAt mg P) (hdoc : docOf body = none)
    (h : ∀ f c' fd h' tk, (∀ b o, b ≠ P → s.heap.get? b = some o → h'.get? b = some o) → TabOk h' P pos qual → s.heap.get? f = none → s.heap.get? c' = none → h'.get? f = some { cls := .type "function", data := .func fd } →
      (∃ ctv doc, fd = fnX name qual params body scope clos .none .none doc ((mg "__name__").getD .none) none (.ref c') ctv) → CodeK h' c' qual → Q (.ref f) { s with heap := h', toks := tk }) :
    wpAny M A (makeFunction name qual params (.stmts body) scope env [] [] [] pos firstLine) Q E s := by
  obtain ⟨bm, ob, hbm, hne0, _, hneP, hbo, hcls, hdict, hdata⟩ := hb
  rw [makeFunction_eq]
  simp only [List.zip_nil_right, List.filterMap_nil, List.isEmpty_nil, if_true, pure_bind]
  unfold makeTail
  rw [hcl, hge0]
  refine wpAny_bind (wpAny_pure ?_)
  simp only [hcn, Bool.false_eq_true, if_false]
  refine wpAny_bind (wpAny_newTextTuple ?_)
  have kp : ∀ {o : Obj}, ∀ b o', s.heap.get? b = some o' → (s.heap.push o).get? b = some o' := fun b o' e => Heap.get?_push_of_some _ e
  have hP₁ := kp (o := { cls := .type "tuple", data := .seq ((clos.mergeSort fun a b => decide (a.1.cps.toList ≤ b.1.cps.toList)).map (.ref ·.2)).toArray }) _ _ hP
  have C₁ := C.keeps (kp (o := { cls := .type "tuple", data := .seq ((clos.mergeSort fun a b => decide (a.1.cps.toList ≤ b.1.cps.toList)).map (.ref ·.2)).toArray }))
  refine wpAny_bind (wpAny_functionCodeX hcode (C₁.code hP₁ ht) (C₁.tab hP₁) hnf fun c' h' tk hx hge hlt hc1 hrec htb htab => ?_)
  have hg' := (hg.push { cls := .type "tuple", data := .seq ((clos.mergeSort fun a b => decide (a.1.cps.toList ≤ b.1.cps.toList)).map (.ref ·.2)).toArray }).extBut hx hgP
  have hx' : ∀ b o, b ≠ P → s.heap.get? b = some o → h'.get? b = some o := fun b o hb' e => hx b o hb' (kp _ _ e)
  refine wpAny_bind (wpAny_builtinsFor hg' hbm hne0 (hx' _ _ hneP hbo) hcls hdict hdata ?_)
  refine wpAny_bind (wpAny_nsGet hg' ?_)
  rw [hdoc]
  have hsz : s.heap.objs.size ≤ c' := Nat.le_trans (by rw [Heap.size_push]; (first | lia | omega)) hge
  have hf0 : s.heap.get? h'.objs.size = none := get_new (Nat.le_trans hsz (Nat.le_of_lt hlt))
  have hck : CodeK h' c' qual := by
    obtain ⟨P', _, _, ⟨⟨o, vs, e1, e2, e3, _⟩, _⟩⟩ := htab
    obtain ⟨c2, o2, vs2, t2, e4, e5, e6, e7⟩ := hrec
    cases e4
    rw [e1] at e5; cases e5
    exact ⟨o, vs2, t2, e1, e2, e6, e7⟩
  refine wpAny_bind (wpAny_pure (wpAny_newObj_type (h h'.objs.size c' _ _ _ (fun b o hb e => Heap.get?_push_of_some _ (hx' b o hb e)) ?_ hf0 (get_new hsz) (Heap.get?_push_size _ rfl) ⟨_, _, rfl⟩ (hck.keeps fun _ _ _ e => Heap.get?_push_of_some _ e)) (by size_fits)))
  refine ⟨_, Heap.get?_push_of_some _ htb.2, ?_, .inr ⟨c', ?_, hck.keeps fun _ _ _ e => Heap.get?_push_of_some _ e⟩⟩
  · rw [show (ps ++ #[rawInt pos.line, rawInt pos.col, Value.ref c']).toList = ps.toList ++ [rawInt pos.line, rawInt pos.col, .ref c'] by simp]
    exact TriplesOk_snoc _ _ _ _ ht
  · rw [show (ps ++ #[rawInt pos.line, rawInt pos.col, Value.ref c']).toList = ps.toList ++ [rawInt pos.line, rawInt pos.col, .ref c'] by simp]
    exact codeAmong_snoc _ ht hnf
theorem made_ok (hcl : closureFor scope env = pure clos) (hcn : clos.isEmpty = false) (hge0 : env.globals = mainGlobals) (hg : s.heap.Ns mainGlobals mg) (hcode : env.code = .ref c) (C : CodeHd s.heap c P) (TB : TabOk s.heap P pos qual) (hgP : mainGlobals ≠ P) (hb : s.heap.BuiltinsAt mg P) (hdoc : docOf body = none)
    (h : ∀ f c' fd h' tk, (∀ b o, b ≠ P → s.heap.get? b = some o → h'.get? b = some o) → TabOk h' P pos qual → s.heap.get? f = none → (s.heap.get? c' = none ∨ CodeK s.heap c' qual) → h'.get? f = some { cls := .type "function", data := .func fd } →
      (∃ ctv doc, fd = fnX name qual params body scope clos .none .none doc ((mg "__name__").getD .none) none (.ref c') ctv) → CodeK h' c' qual → Q (.ref f) { s with heap := h', toks := tk }) :
    wpAny M A (makeFunction name qual params (.stmts body) scope env [] [] [] pos firstLine) Q E s := by
  obtain ⟨ps, hP, ht, hc⟩ := TB
  rcases hc with hnf | ⟨c', hf, hck⟩
  · exact made_new hcl hcn hge0 hg hcode C hP ht hnf hgP hb hdoc fun f c' fd h' tk h1 h2 h3 h4 => h f c' fd h' tk h1 h2 h3 (.inl h4)
  · refine makeFunction_hit hcl hge0 hg hcode C hP ht hf hb fun ctv doc h' tk hk hsz => ?_
    have hck' : CodeK (h'.push { cls := .type "function", data := .func (fnX name qual params body scope clos .none .none doc ((mg "__name__").getD .none) none (.ref c') ctv) }) c' qual := hck.keeps fun _ _ _ e => Heap.get?_push_of_some _ (hk _ _ e)
    exact h h'.objs.size c' _ _ tk (fun b o _ e => Heap.get?_push_of_some _ (hk b o e)) ⟨ps, Heap.get?_push_of_some _ (hk _ _ hP), ht, .inr ⟨c', hf, hck'⟩⟩ (get_new hsz) (.inr hck) (Heap.get?_push_size _ rfl) ⟨_, _, rfl⟩ hck'
end
structure TabB (B : Bs) (c P : Addr) (pos : Pos) (qual : Str) : Prop where
  t : B.T P
  of : ∀ h, B.TI h → TabOk h P pos qual
  to : ∀ h h', B.TI h → (∀ a o, a ≠ P → h.get? a = some o → h'.get? a = some o) → TabOk h' P pos qual → B.TI h'
  hd : CodeHd B.g c P
  bu : ∀ h, Glob B h → h.BuiltinsAt B.mg P
  ne : mainGlobals ≠ P
  notCode : ∀ h, B.TI h → ∀ a o, B.T a → h.get? a = some o → o.cls ≠ .type "code"
section
variable {W : Ws} {F : Fr W} {sc : Scope} {σ : Sto} {ρ : Loc} {stk : List Pend} {as : Option Addr} {s : Shared} {l l' ps : List PV} {A : Around} {x y z m : Str} {xp yp zp ap cp p : Pos} {es : List Expr} {v u : PV} {a f : Addr} {i : Int}
theorem Inv.keepF (I : Inv F ρ σ stk as s) {K : Addr → Obj → Prop} (h : ∀ a o, K a o → s.heap.get? a = some o ∧ ¬ W.B.T a ∧ ((∃ fd, o.data = .func fd) ∨ ∃ vs, o.data = .fields vs)) : ∃ hk : Kps F K, Inv (F.keep hk) ρ σ stk as s := by
  have nd : ∀ {a o}, K a o → (∀ es n, o.data ≠ .dict es n) ∧ (∀ v, o.data ≠ .cell v) ∧ ∀ xs n, o.data ≠ .seq xs n := fun q => by
    rcases (h _ _ q).2.2 with ⟨fd, d⟩ | ⟨vs, d⟩ <;> exact ⟨fun _ _ => (by rw [d]; nofun), fun _ => (by rw [d]; nofun), fun _ _ => (by rw [d]; nofun)⟩
  refine ⟨⟨fun o q => I.ns.elim fun m y => (Ns.dict y).ne (h _ _ q).1 (nd q).1 rfl, fun _ x c e1 e2 o q => ?_, fun a o q => (h a o q).2.1⟩, I.keep _ fun a o q => ⟨(h a o q).1, fun e => ?_⟩⟩
  · obtain ⟨c', v, e, ⟨o', w, d⟩, _⟩ := I.cex x (.inl e1)
    obtain rfl := Option.some.inj (e2.symm.trans e)
    exact (nd q).2.1 v (Option.some.inj (w.symm.trans (h _ _ q).1) ▸ d)
  · obtain ⟨o', xs, n, w, d⟩ := (I.xk a fun z => z.2 e).1
    exact (nd q).2.2 xs n (Option.some.inj (w.symm.trans (h _ _ q).1) ▸ d)
theorem Inv.def_ (I : Inv F ρ σ stk as s) {name : Str} {params : Arguments} {body : List Stmt} {scope : Scope} {pos : Pos} {c P : Addr} {qual : Str} (TB : TabB W.B c P pos qual) (hcode : F.env.code = .ref c) (hq : qualnameIn F.env name name = qual) (hd0 : params.defaults = []) (hk0 : params.kw_defaults = []) (ha : annTrees params none F.env = [])
    (hdoc : docOf body = none) {clos : List (Str × Addr)} (hcl : closureFor scope F.env = pure clos) (hcn : clos.isEmpty = false) (hx : stoQ F.env.scope name = true) (hro : F.ro = false) {Q : Flow → Shared → Prop}
    (h : ∀ f c' fd oc vs t s' K (hk : Kps F K), Inv (F.keep hk) (setP name (.val (.obj f)) ρ) σ stk as s' → K f { cls := .type "function", data := .func fd } → (∃ ctv doc pm, fd = fnX name qual params body scope clos .none .none doc pm none (.ref c') ctv) → K c' oc → oc.data = .fields vs → vs[1]? = some (.str qual t) → Q .next s') :
    wpAny W.M A (exec (.FunctionDef name params body [] none [] scope none name pos) F.env) Q NoE s := by
  refine nestDef_K hd0 hk0 ha ?_
  rw [hq]
  refine made_ok hcl hcn F.gl (W.O.g1.keeps I.glob.1) hcode (TB.hd.keeps I.glob.1) (TB.of _ I.glob.2) TB.ne (TB.bu _ I.glob) hdoc fun f c' fd h' tk kp tok hf hc hfo hfd hck => ?_
  have ti : W.B.TI h' := TB.to _ _ I.glob.2 kp tok
  have kT : ∀ a o, ¬ W.B.T a → s.heap.get? a = some o → h'.get? a = some o := fun a o h1 e => kp a o (fun q => h1 (q ▸ TB.t)) e
  have J := I.grow (s' := { s with heap := h', toks := tk }) ⟨h', tk, rfl, fun a o _ => kT a o, fun m y => y.at fun o => kT _ o I.LT, fun _ => ti⟩
  have nT : ∀ {a}, s.heap.get? a = none → ¬ W.B.T a := fun e q => (W.O.tex _ _ I.glob.2 q).elim fun o w => by rw [e] at w; cases w
  have hTc : ¬ W.B.T c' := fun q => by
    rcases hc with hc | ⟨o, vs, t, e1, e2, _⟩
    · exact nT hc q
    · exact TB.notCode _ I.glob.2 c' o q e1 e2
  obtain ⟨oc, vs, t, e1, e2, e3, e4⟩ := hck
  obtain ⟨hk, J⟩ := J.keepF (K := fun a o => (a = f ∧ o = { cls := .type "function", data := .func fd }) ∨ (a = c' ∧ o = oc)) fun a o q => by
    rcases q with ⟨rfl, rfl⟩ | ⟨rfl, rfl⟩
    · exact ⟨hfo, nT hf, .inl ⟨_, rfl⟩⟩
    · exact ⟨e1, hTc, .inr ⟨_, e3⟩⟩
  exact go ((J.stk' (stk' := .one (.ref f) (.val (.obj f)) :: stk) fun k => ⟨.obj f, k⟩).put (F := F.keep hk) hx hro) fun _ s₂ J => h f c' fd oc vs t s₂ _ hk J (.inl ⟨rfl, rfl⟩) (hfd.elim fun ctv z => z.elim fun doc z => ⟨ctv, doc, _, z⟩) (.inr ⟨rfl, rfl⟩) e3 e4
theorem Inv.held (I : Inv F ρ σ stk as s) {o : Obj} {fd : FuncData} {Q : Value → Shared → Prop} (hx : locQ F.env.scope x = true) (e : ρ.lookup x = some (.val (.obj f))) (ho : F.Kp f o) (hd : o.data = .func fd) (h : Ars W F.env.scope σ ρ es ps)
    (hc : ∀ s₂ vs, Inv F ρ σ (.mix vs ps :: stk) as s₂ → codeAny W.M F.A (.call (.ref f) ⟨vs, []⟩) (fun res s' => ∃ v, res = .ok (.ret v) ∧ Q v s') s₂) : wpAny W.M F.A (eval (.Call (.Name x xp) es [] p) F.env) Q NoE s :=
  wpAny_Call_NameR (I.load hx e fun fv rf => by
    obtain rfl := Rel.obj' (show Rel _ _ fv (.obj f) from rf)
    exact callWith_function (o := o) (fd := fd) (evalArgs_any (h.pl _ p) (go (h.wp p rfl I) fun vs s₂ J => ⟨⟨J.kp f o ho, hd⟩, wpAny_call (codeAny_mono (hc s₂ vs J) fun res s' q => by obtain ⟨v, rfl, q⟩ := q; exact q)⟩)))
theorem rels_set {ok : Addr → Prop} {h : Heap} {v : Value} {p : PV} (hv : Rel ok h v p) {vs : List Value} {l : List PV} (r : Rels ok h vs l) : ∀ i, Rels ok h (vs.set i v) (l.set i p) :=
  r.ind (P := fun vs l => ∀ i, Rels ok h (vs.set i v) (l.set i p)) (fun _ => .nil) fun a r ih i => by
    cases i with
    | zero => exact .cons hv r
    | succ i => exact .cons a (ih i)
theorem Ex.setItem {c : Bool} {n : Nat} (h1 : Vl W sc (some l) ρ (.Name x xp) v) (hy : locQ sc y = true) (hy' : ρ.lookup y = some .own) (h3 : Rd W sc (some l) ρ (.Name z zp) (.int (n : Int))) (hr : noRd ρ = true) (hn : n < l.length) (hl : l.length ≤ 1048576) :
    Ex c W sc (.Assign [.Subscript (.Name y yp) (.Name z zp) ap] (.Name x xp) p) ρ (some l) .next ρ (some (l.set n v)) := fun {F stk as s} hs hro _ hk I => .of (by
  refine wpAny_Assign_Subscript (go (h1 hs I) fun u s₁ I => I.load (hs ▸ hy) hy' fun ov ro => go (h3 hs I) fun iv s₂ J => ?_)
  obtain ⟨a, rfl, rfl⟩ := ro
  obtain ⟨t, rfl⟩ := Rel.int' J.stk.1.rd0
  have ru := J.stk.2.1
  have J := J.stk' (stk' := stk) fun k => k.2.2
  obtain ⟨vs, m, e, r⟩ := J.ownIs
  have hlen := r.length
  obtain ⟨n', e3⟩ : ∃ n', Obj.mapSeq (·.setIfInBounds n u) (listOb vs m) = listOb (vs.set n u) n' := ⟨_, congrArg (fun x => ({ cls := .type "list", data := .seq x _ } : Obj)) (by simp)⟩
  have hs : Heap.SameBut a s₂.heap (s₂.heap.update a (Obj.mapSeq (·.setIfInBounds n u))) := Heap.SameBut.update ..
  refine ki_setAt (n := m) e (Int.natCast_nonneg n) (Int.ofNat_lt.mpr (Nat.lt_of_lt_of_le hn (Nat.le_trans hl (by decide)))) (Int.ofNat_lt.mpr (show n < vs.length from hlen ▸ hn)) ⟨rfl, ?_⟩
  exact J.setOwn (tk := s₂.toks) hk hr ((Heap.get?_update_self _ e (by rw [Int.toNat_natCast, e3]; rfl)).trans (congrArg some (by rw [Int.toNat_natCast, e3]))) (fun b o q _ w => hs.extBut b o q w) (W.O.tiW (· = a) _ _ (fun b o q w => .inl fun vs d => by
    obtain rfl := Option.some.inj ((q ▸ w).symm.trans e)
    cases d) (fun b o q => hs.extBut b o q) J.glob.2) (rels_set ru r n))
end
end Mine
namespace Mine
set_option genSizeOf false
set_option genInjectivity false
theorem execs_append (env : Env) (ys : List Stmt) (xs : List Stmt) : execs (xs ++ ys) env = execs xs env >>= fun f => match f with | .next => execs ys env | f => pure f := by
  induction xs with
  | nil => rfl
  | cons x xs ih =>
    show (exec x env >>= fun f => match f with | .next => execs (xs ++ ys) env | f => pure f) = (exec x env >>= fun f => match f with | .next => execs xs env | f => pure f) >>= _
    rw [bind_assoc, ih]
    refine congrArg _ (funext fun f => ?_)
    cases f <;> rfl
noncomputable def stAt (l : List Stmt) (i : Nat) : Stmt := l[i]?.getD (.Pass ⟨0, 0, 0, 0⟩)
noncomputable def nI (k : Nat) : PV := .int (k : Int)
noncomputable abbrev nL (l : List Nat) : List PV := l.map nI
theorem nL_scal (l : List Nat) : (nL l).all scal = true := List.all_eq_true.mpr fun p h => (List.mem_map.mp h).elim fun k z => z.2 ▸ rfl
structure Stay (B : Bs) (D : Option Addr) (s s' : Shared) : Prop where
  rest : ∃ h tk, s' = { s with heap := h, toks := tk }
  keep : ∀ a o, ¬ B.T a → D ≠ some a → s.heap.get? a = some o → s'.heap.get? a = some o
  ti : B.TI s'.heap
structure CallIn (B : Bs) (s : Shared) (f : Addr) (fd : FuncData) (names : List Str) (body : List Stmt) (as₀ : Option Addr) (σ₀ : Sto) (ok : Addr → Prop) (ρc : Loc) : Prop where
  fn : CloFn B s.heap f fd names body
  ct : ∀ c, fd.code = .ref c → ¬ B.T c
  hx : ∀ a, as₀ = some a → IsSeq s.heap a ∧ B.g.get? a = none ∧ ¬ ok a
  hc : ∀ x r, ρc.lookup x = some r → fd.scope.names.lookup x = some .free ∧ ∃ c v, fd.closure.lookup x = some c ∧ s.heap.IsCell c (some v) ∧ RRel as₀ ok s.heap v r
  ho : OwnOk ok s.heap σ₀ as₀
section
variable {W : Ws} {F : Fr W} {ρ ρc : Loc} {σ : Sto} {stk : List Pend} {as : Option Addr} {s s' : Shared} {f : Addr} {fd : FuncData} {names : List Str} {body : List Stmt} {h h' : Heap} {B : Bs} {l l' : List PV} {D : Addr}
theorem CloFn.keep (O : B.Ok) (C : CloFn B h f fd names body) (hT : B.TI h) (hc : ∀ c, fd.code = .ref c → ¬ B.T c) (k : ∀ a o, ¬ B.T a → (∀ xs n, o.data ≠ .seq xs n) → h.get? a = some o → h'.get? a = some o) : CloFn B h' f fd names body := by
  have nT : ∀ {a o}, h.get? a = some o → (∀ vs, o.data ≠ .fields vs) → ¬ B.T a := fun e d q => (O.tf _ _ _ hT q e).elim d
  refine { C with obj := ?_, code := ?_, cells := fun x e => ?_ }
  · obtain ⟨o, e, d⟩ := C.obj
    exact ⟨o, k f o (nT e fun vs q => by rw [d] at q; cases q) (fun xs n q => by rw [d] at q; cases q) e, d⟩
  · obtain ⟨c, o, vs, t, e1, e2, e3, e4⟩ := C.code
    exact ⟨c, o, vs, t, e1, k c o (hc c e1) (fun xs n q => by rw [e3] at q; cases q) e2, e3, e4⟩
  · obtain ⟨c, v, e1, ⟨o, e2, e3⟩, e4⟩ := C.cells x e
    exact ⟨c, v, e1, ⟨o, k c o (nT e2 fun vs q => by rw [e3] at q; cases q) (fun xs n q => by rw [e3] at q; cases q) e2, e3⟩, e4⟩
theorem Inv.callIn (I : Inv F ρ σ stk as s) (C : CloFn W.B s.heap f fd names body) (ct : ∀ c, fd.code = .ref c → ¬ W.B.T c) (hρ : ∀ p ∈ ρc, Celly F.env p.1 ∧ fd.scope.names.lookup p.1 = some .free ∧ ρ.lookup p.1 = some p.2 ∧ fd.closure.lookup p.1 = F.env.cells.lookup p.1) : CallIn W.B s f fd names body as σ (F.dat as) ρc where
  fn := C
  ct := ct
  hx a e := have z := I.xk a fun q => q.2 e; ⟨z.1, z.2, fun q => q.2 e⟩
  hc x r e := by
    obtain ⟨h1, h2, h3, h4⟩ := hρ _ (mem_of_look e)
    obtain ⟨v, y, rr⟩ := I.names x r h3
    obtain ⟨c, e1, e2⟩ := y.2 h1
    exact ⟨h2, c, v, h4.trans e1, e2, rr⟩
  ho := I.own
theorem Inv.stay {A : Around} {env : Env} {s₁ : Shared} {as₀ : Option Addr} {ok out : Addr → Prop} (E : Ent W A [] env s s₁) (J : Inv (Fr.fn E as₀ ok out) ρ σ stk as s') : Stay W.B as₀ s s' :=
  ⟨J.rest, fun a o h1 h2 e => J.kp a o ⟨e, List.not_mem_nil, h1, h2⟩, J.glob.2⟩
theorem Stay.clo (O : B.Ok) {D : Option Addr} (x : Stay B D s s') (hD : ∀ a, D = some a → IsSeq s.heap a) (C : CloFn B s.heap f fd names body) (hT : B.TI s.heap) (hc : ∀ c, fd.code = .ref c → ¬ B.T c) : CloFn B s'.heap f fd names body :=
  C.keep O hT hc fun a o h1 h2 e => x.keep a o h1 (fun q => (hD a q).elim fun o' z => z.elim fun xs z => z.elim fun n z => h2 xs n (Option.some.inj (z.1.symm.trans e) ▸ z.2)) e
theorem OwnOk.scal {ok ok' : Addr → Prop} (x : OwnOk ok h (some l) as) (e : l.all scal = true) : OwnOk ok' h (some l) as := ⟨nofun, fun l' q => (x.2 l' q).elim fun a z => z.elim fun vs z => z.elim fun n z => ⟨a, vs, n, z.1, z.2.1, z.2.2.scal (Option.some.inj q ▸ e)⟩⟩
theorem Inv.own_ (I : Inv F ρ (some l) stk (some D) s) (hk : Calm stk) (hr : noRd ρ = true) (x : Stay W.B (some D) s s') {ok : Addr → Prop} (ho : OwnOk ok s'.heap (some l') (some D)) (hl : l'.all scal = true) : Inv F ρ (some l') stk (some D) s' := by
  obtain ⟨h, tk, rfl⟩ := x.rest
  obtain ⟨a, vs, n, e, e1, r⟩ := ho.2 l' rfl
  obtain rfl := Option.some.inj e
  exact I.setOwn hk hr e1 (fun b o q1 q2 => x.keep b o q2 fun z => q1 (Option.some.inj z).symm) x.ti (r.scal hl)
theorem Inv.none_ (I : Inv F ρ σ stk as s) (x : Stay W.B none s s') : Inv F ρ σ stk as s' := by
  obtain ⟨h, tk, rfl⟩ := x.rest
  exact I.grow ⟨h, tk, rfl, fun a o _ h2 => x.keep a o h2 nofun, fun m y => y.at fun o => x.keep _ o I.LT nofun, fun _ => x.ti⟩
end
noncomputable def gam0 (W : Ws) : Gam W := ⟨fun _ _ => .no .none, fun _ => none, fun _ _ _ => .no .none, fun _ _ => none, itemV W⟩
section
variable {l ds es : List Nat} {L n a b s x : Nat} {p : Nat}
theorem nat_and_high : a &&& (a / 2 ^ s * 2 ^ s) = a / 2 ^ s * 2 ^ s := by
  apply Nat.eq_of_testBit_eq
  intro i
  rw [Nat.testBit_and, ← Nat.shiftLeft_eq, Nat.testBit_shiftLeft, Nat.testBit_div_two_pow]
  by_cases h : s ≤ i
  · rw [decide_eq_true h, Bool.true_and, Nat.sub_add_cancel h, Bool.and_self]
  · rw [decide_eq_false h, Bool.false_and, Bool.and_false]
theorem pow_cast : (2 : Int) ^ s = ((2 ^ s : Nat) : Int) := by rw [Int.natCast_pow]; rfl
theorem fdiv_cast : (a : Int).fdiv (b : Int) = ((a / b : Nat) : Int) := by
  rw [Int.fdiv_eq_ediv_of_nonneg _ (Int.natCast_nonneg b), Int.natCast_ediv]
theorem shr_cast : (a : Int).fdiv (2 ^ s) = ((a / 2 ^ s : Nat) : Int) := by rw [pow_cast, fdiv_cast]
theorem xor_low : Builtin.bitXor (a : Int) ((a : Int).fdiv (2 ^ s) * 2 ^ s) = ((a % 2 ^ s : Nat) : Int) := by
  have h := Nat.div_add_mod a (2 ^ s)
  rw [Nat.mul_comm] at h
  rw [shr_cast, pow_cast, ← Int.natCast_mul, bitXor_and, show Builtin.bitAnd (a : Int) ((a / 2 ^ s * 2 ^ s : Nat) : Int) = ((a &&& (a / 2 ^ s * 2 ^ s) : Nat) : Int) from rfl, nat_and_high]
  (first | lia | omega)
noncomputable def digs (x n m : Nat) : List Nat := (List.range m).map fun i => x / 2 ^ (n * i) % 2 ^ n
noncomputable def putD (l : List Nat) (L : Nat) (ds : List Nat) : List Nat := l.take L ++ ds ++ l.drop (L + ds.length)
theorem digs_len {m : Nat} : (digs x n m).length = m := by rw [digs, List.length_map, List.length_range]
theorem putD_len (h : L + ds.length ≤ l.length) : (putD l L ds).length = l.length := by
  rw [putD, List.length_append, List.length_append, List.length_take, List.length_drop]; (first | lia | omega)
theorem digs_one (h1 : x < 2 ^ (n * 1)) : digs x n 1 = [x] := by
  show [x / 2 ^ (n * 0) % 2 ^ n] = [x]
  rw [Nat.mul_zero, Nat.pow_zero, Nat.div_one, Nat.mod_eq_of_lt (Nat.mul_one n ▸ h1)]
theorem putD_one (h : L < l.length) : putD l L [p] = l.set L p := by
  rw [putD, List.set_eq_take_append_cons_drop, if_pos h, List.append_assoc]; rfl
theorem digs_split : digs x n (a + b) = digs (x % 2 ^ (n * a)) n a ++ digs (x / 2 ^ (n * a)) n b := by
  rw [digs, digs, digs, List.range_add, List.map_append, List.map_map]
  congr 1
  · refine List.map_congr_left fun i hi => Nat.eq_of_testBit_eq fun j => ?_
    have hi := List.mem_range.mp hi
    rw [Nat.testBit_mod_two_pow, Nat.testBit_mod_two_pow, Nat.testBit_div_two_pow, Nat.testBit_div_two_pow, Nat.testBit_mod_two_pow]
    by_cases hj : j < n
    · have := Nat.mul_le_mul_left n (show i + 1 ≤ a from hi)
      rw [Nat.mul_add, Nat.mul_one] at this
      rw [decide_eq_true (show j + n * i < n * a by (first | lia | omega)), Bool.true_and]
    · rw [decide_eq_false hj, Bool.false_and, Bool.false_and]
  · refine List.map_congr_left fun i _ => ?_
    show x / 2 ^ (n * (a + i)) % 2 ^ n = x / 2 ^ (n * a) / 2 ^ (n * i) % 2 ^ n
    rw [Nat.div_div_eq_div_mul, ← Nat.pow_add, Nat.mul_add]
theorem putD_split (h : L + ds.length ≤ l.length) : putD (putD l L ds) (L + ds.length) es = putD l L (ds ++ es) := by
  have e : (l.take L ++ ds).length = L + ds.length := by rw [List.length_append, List.length_take]; (first | lia | omega)
  rw [putD, putD, putD, List.take_append_of_le_length (Nat.le_of_eq e.symm), List.take_of_length_le (Nat.le_of_eq e), List.drop_append, List.drop_eq_nil_of_le (by (first | lia | omega)), e, List.drop_drop, List.nil_append, List.length_append, List.append_assoc, List.append_assoc, List.append_assoc, List.append_assoc]
  congr 4
  (first | lia | omega)
end
end Mine
namespace Mine
set_option genSizeOf false
set_option genInjectivity false
noncomputable def inDef (x : String) : Arguments × List Stmt × Scope := (findFn (Str.ofString "inner") (defOf' x).2.1).getD noFn
noncomputable def I69 : Arguments × List Stmt × Scope := inDef "_int2digits"
noncomputable def N69 : List Str := [Str.ofString "x", Str.ofString "L", Str.ofString "R"]
noncomputable def c69 (f : Addr) (n : Nat) : Loc := [nv "a_digits" .own, nv "inner" (.val (.obj f)), nv "n" (.val (nI n))]
noncomputable def ρ69 (f : Addr) (n : Nat) (x L R : Int) : Loc := nv "x" (ri x) :: nv "L" (ri L) :: nv "R" (ri R) :: c69 f n
noncomputable def ρ69' (f : Addr) (n : Nat) (x L R mid sh up lo : Int) : Loc := ρ69 f n x L R ++ [nv "mid" (ri mid), nv "shift" (ri sh), nv "upper" (ri up), nv "lower" (ri lo)]
noncomputable def ifP : Stmt → Expr × List Stmt × List Stmt × Pos
  | .If t a b p => (t, a, b, p)
  | s => (.Name ⟨#[]⟩ ⟨0, 0, 0, 0⟩, [], [], ⟨0, 0, 0, 0⟩)
noncomputable def callA : Stmt → List Expr
  | .Expr (.Call _ es _ _) _ => es
  | _ => []
theorem small_of {i : Int} (h1 : -18446744073709551616 < i) (h2 : i < 18446744073709551616) : small i = true := decide_eq_true (by (first | lia | omega))
theorem small_nat {a : Nat} (h : a < 2 ^ 60) : small (a : Int) = true := small_of (by (first | lia | omega)) (by (first | lia | omega))
theorem mid_of {L m : Nat} : ((L : Int) + ((L + m : Nat) : Int)).fdiv 2 = ((L + m / 2 : Nat) : Int) := by
  rw [show ((L : Int) + ((L + m : Nat) : Int)) = ((2 * L + m : Nat) : Int) by (first | lia | omega), show (2 : Int) = ((2 : Nat) : Int) from rfl, fdiv_cast]
  (first | lia | omega)
section
variable {W : Ws} {f : Addr} {n m L x : Nat} {l : List Nat} {σ : Sto}
noncomputable abbrev T69 : Expr := (ifP (stAt I69.2.1 0)).1
noncomputable abbrev A69 : List Stmt := (I69.2.1.drop 1).take 4
theorem b69 : I69.2.1 = .If T69 (ifP (stAt I69.2.1 0)).2.1 [] (ifP (stAt I69.2.1 0)).2.2.2 :: (A69 ++ [stAt I69.2.1 5, stAt I69.2.1 6]) := by kernel_rfl
theorem t69 {b : Bool} (h : decide ((L : Int) + 1 = (L + m : Nat)) = b) : Tst W I69.2.2 σ (ρ69 f n x L (L + m : Nat)) T69 b :=
  Vc.use (ce (gam0 W) 4 I69.2.2 (ρ69 f n x L (L + m : Nat)) T69).2 (Eq.trans (by kernel_rfl) h) (by kernel_rfl)
theorem a69 (h : L < l.length) (hl : l.length ≤ 1000) : Exs false W I69.2.2 (ifP (stAt I69.2.1 0)).2.1 (ρ69 f n x L (L + m : Nat)) (some (nL l)) (.ret (.val .none)) (ρ69 f n x L (L + m : Nat)) (some ((nL l).set L (nI x))) :=
  Exs.cons (Ex.setItem (Ev.loc (by kernel_rfl) (by kernel_rfl)) (by kernel_rfl) (by kernel_rfl) (Ev.rv (Ev.loc (by kernel_rfl) (by kernel_rfl))) (by kernel_rfl) (by rw [List.length_map]; exact h) (by rw [List.length_map]; (first | lia | omega))) (Exs.ret Ex.ret0)
theorem s69 {x L R mid sh up lo : Int} (h1 : (L + R).fdiv 2 = mid) (h2 : (mid - L) * n = sh) (h3 : x.fdiv (2 ^ sh.toNat) = up) (h4 : Builtin.bitXor x (up * 2 ^ sh.toNat) = lo) (k1 : small (mid - L) = true) (k2 : decide (0 ≤ sh) = true) (k3 : decide (sh ≤ 1000) = true) (k4 : small up = true) :
    Exs false W I69.2.2 A69 (ρ69 f n x L R) σ .next (ρ69' f n x L R mid sh up lo) σ := by
  subst h1 h2 h3 h4
  refine Vc.use (J := ExsJ false W I69.2.2 A69 (ρ69 f n x L R) σ) (a := (.next, ρ69' f n x L R _ _ _ _, σ)) (cs false (gam0 W) 8 I69.2.2 3 A69 (ρ69 f n x L R) σ) (by kernel_rfl) (Eq.trans (b := small ((L + R).fdiv 2 - L) && (decide (0 ≤ ((L + R).fdiv 2 - L) * (n : Int)) && ((((decide (0 ≤ ((L + R).fdiv 2 - L) * (n : Int)) && decide (((L + R).fdiv 2 - L) * (n : Int) ≤ 1000)) && small (x.fdiv (2 ^ (((L + R).fdiv 2 - L) * (n : Int)).toNat))) && true) && true))) (by kernel_rfl) ?_)
  rw [k1, k2, k3, k4]; rfl
theorem r69 {x L R mid sh up lo : Int} : Ars W I69.2.2 σ (ρ69' f n x L R mid sh up lo) (callA (stAt I69.2.1 5)) [.int lo, .int L, .int mid] ∧ Ars W I69.2.2 σ (ρ69' f n x L R mid sh up lo) (callA (stAt I69.2.1 6)) [.int up, .int mid, .int R] :=
  ⟨Vc.use (arsV (fun e => rdV (ce (gam0 W) 4 I69.2.2 (ρ69' f n x L R mid sh up lo) e).1) _) (by kernel_rfl) (by kernel_rfl), Vc.use (arsV (fun e => rdV (ce (gam0 W) 4 I69.2.2 (ρ69' f n x L R mid sh up lo) e).1) _) (by kernel_rfl) (by kernel_rfl)⟩
theorem inner69 (hn : 1 ≤ n) (m : Nat) : 1 ≤ m → n * m ≤ 60 → ∀ {A : Around} {s : Shared} {fd : FuncData} {D : Addr} {ok : Addr → Prop} {x L : Nat} {l : List Nat} {vals : List Value}, Room (m + 1) A → Glob W.B s.heap → fd.scope = I69.2.2 → CallIn W.B s f fd N69 I69.2.1 (some D) (some (nL l)) ok (c69 f n) →
    Rels ok s.heap vals [nI x, nI L, nI (L + m)] → L + m ≤ l.length → l.length ≤ 1000 → x < 2 ^ (n * m) →
    codeAny W.M A (.call (.ref f) ⟨vals, []⟩) (fun res s' => res = .ok (.ret .none) ∧ Stay W.B (some D) s s' ∧ OwnOk (fun _ => False) s'.heap (some (nL (putD l L (digs x n m)))) (some D)) s := by
  induction m using Nat.strongRecOn with
  | _ m ih =>
  intro hm hnm A s fd D ok x L l vals R G hsc C hr hLm hl hx
  have hD : ∀ a, some D = some a → IsSeq s.heap a := fun a e => (C.hx a e).1
  refine CloFn.call (W := { W with k := m }) C.fn R G hr hr.length C.hx C.hc C.ho fun s₁ E I => ?_
  have I : Inv (Fr.fn E (some D) ok fun _ => False) (ρ69 f n x L (L + m : Nat)) (some (nL l)) [] (some D) s₁ := I
  have hs : (Fr.fn E (some D) ok fun _ => False).env.scope = I69.2.2 := hsc
  rw [b69]
  by_cases h1 : m = 1
  · subst h1
    refine go (Exs.ret (Ex.iteT (t69 (decide_eq_true rfl)) (a69 (l := l) hLm hl)) (stk := []) hs rfl nofun ⟨⟩ I).any fun fl s' d => ?_
    obtain ⟨v, rfl, J⟩ := d
    obtain rfl := Rel.none' J.stk.1
    refine ⟨rfl, Inv.stay (W := { W with k := 1 }) E J, ?_⟩
    rw [digs_one hx, putD_one hLm, nL, List.map_set]
    exact J.own.scal (by rw [← List.map_set]; exact nL_scal _)
  · have hm2 : m / 2 < m := by (first | lia | omega)
    have hk1 : n * (m / 2) ≤ n * m := Nat.mul_le_mul_left n (Nat.le_of_lt hm2)
    have hk2 : n * (m - m / 2) ≤ n * m := Nat.mul_le_mul_left n (Nat.sub_le ..)
    have hm60 : m ≤ 60 := Nat.le_trans (Nat.le_mul_of_pos_left m hn) hnm
    have hx60 : x < 2 ^ 60 := Nat.lt_of_lt_of_le hx (Nat.pow_le_pow_right (by decide) hnm)
    have hu : x / 2 ^ (n * (m / 2)) < 2 ^ 60 := Nat.lt_of_le_of_lt (Nat.div_le_self ..) hx60
    have hm' : ((L + m / 2 : Nat) : Int) - L = ((m / 2 : Nat) : Int) := by (first | lia | omega)
    obtain ⟨o, ho, hd⟩ := C.fn.obj
    have hkp : (Fr.fn E (some D) ok fun _ => False).Kp f o := ⟨ho, List.not_mem_nil, G.noT W.O ho fun vs q => (by rw [hd] at q; cases q), fun q => (hD f q).elim fun o' z => z.elim fun xs z => z.elim fun n z => by
      obtain rfl := Option.some.inj (z.1.symm.trans ho)
      rw [hd] at z; cases z.2⟩
    have CF : ∀ {ρ σ stk s'}, Inv (Fr.fn E (some D) ok fun _ => False) ρ σ stk (some D) s' → CloFn W.B s'.heap f fd N69 I69.2.1 := fun J => (Inv.stay (W := { W with k := m }) E J).clo W.O hD C.fn G.2 C.ct
    have hρ : ∀ p ∈ c69 f n, Celly (callEnv fd s.heap.objs.size f) p.1 ∧ fd.scope.names.lookup p.1 = some .free ∧ (ρ69' f n x L (L + m : Nat) (L + m / 2 : Nat) (n * (m / 2) : Nat) (x / 2 ^ (n * (m / 2)) : Nat) (x % 2 ^ (n * (m / 2)) : Nat)).lookup p.1 = some p.2 ∧ fd.closure.lookup p.1 = fd.closure.lookup p.1 := fun p hp => by
      have k : fd.scope.names.lookup p.1 = some .free ∧ (ρ69' f n x L (L + m : Nat) (L + m / 2 : Nat) (n * (m / 2) : Nat) (x / 2 ^ (n * (m / 2)) : Nat) (x % 2 ^ (n * (m / 2)) : Nat)).lookup p.1 = some p.2 := by
        rw [hsc]
        rcases List.mem_cons.mp hp with rfl | hp
        · exact ⟨by kernel_rfl, by kernel_rfl⟩
        · rcases List.mem_cons.mp hp with rfl | hp
          · exact ⟨by kernel_rfl, by kernel_rfl⟩
          · obtain rfl := List.mem_singleton.mp hp
            exact ⟨by kernel_rfl, by kernel_rfl⟩
      exact ⟨.inr k.1, k.1, k.2, rfl⟩
    refine wpAny_execs_cons (go (Ex.iteF (c := false) (t69 (decide_eq_false (by (first | lia | omega)))) Exs.nil (stk := []) hs rfl nofun ⟨⟩ I).any fun fl s₂ d => ?_)
    obtain ⟨rfl, I⟩ := d
    show wpAny _ _ (execs (A69 ++ [stAt I69.2.1 5, stAt I69.2.1 6]) _) _ _ _
    rw [execs_append]
    refine wpAny_bind (go (s69 (sh := (n * (m / 2) : Nat)) (up := (x / 2 ^ (n * (m / 2)) : Nat)) (lo := (x % 2 ^ (n * (m / 2)) : Nat)) mid_of (by rw [hm', Int.mul_comm, Int.natCast_mul]) shr_cast (by rw [← shr_cast]; exact xor_low) (by rw [hm']; exact small_nat (by (first | lia | omega))) (decide_eq_true (by (first | lia | omega))) (decide_eq_true (by (first | lia | omega))) (small_nat hu) (stk := []) hs rfl nofun ⟨⟩ I).any fun fl s₃ d => ?_)
    obtain ⟨rfl, I⟩ := d
    refine wpAny_execs_cons (wpAny_Expr (I.held (o := o) (hs ▸ by kernel_rfl) (by kernel_rfl) hkp hd (by rw [hs]; exact r69.1) fun s₄ vs J => codeAny_mono (ih (m / 2) hm2 (by (first | lia | omega)) (Nat.le_trans hk1 hnm) (E.room.less hm2) J.glob hsc (J.callIn (CF J) C.ct hρ) (J.stk.1.rd0.tight rfl) (l := l) (x := x % 2 ^ (n * (m / 2))) (L := L) (by (first | lia | omega)) hl (Nat.mod_lt _ (Nat.two_pow_pos _))) fun res s₅ h => ?_) (by simp [interactive, E.kind]) rfl)
    obtain ⟨rfl, h1, h2⟩ := h
    have I := (J.stk' (stk' := []) fun k => k.2).own_ ⟨⟩ (by kernel_rfl) h1 h2 (nL_scal _)
    have e1 := @digs_len n (x % 2 ^ (n * (m / 2))) (m / 2)
    have e2 := @digs_len n (x / 2 ^ (n * (m / 2))) (m - m / 2)
    have hl1 := putD_len (l := l) (L := L) (ds := digs (x % 2 ^ (n * (m / 2))) n (m / 2)) (by (first | lia | omega))
    refine ⟨_, rfl, wpAny_execs_cons (wpAny_Expr (I.held (o := o) (hs ▸ by kernel_rfl) (by kernel_rfl) hkp hd (by rw [hs]; exact r69.2) fun s₆ vs J => codeAny_mono (ih (m - m / 2) (by (first | lia | omega)) (by (first | lia | omega)) (Nat.le_trans hk2 hnm) (E.room.less (by show m - m / 2 + 1 ≤ m; (first | lia | omega))) J.glob hsc (J.callIn (CF J) C.ct hρ) (by
      have := J.stk.1.rd0.tight rfl
      rw [show L + m = L + m / 2 + (m - m / 2) by (first | lia | omega)] at this
      exact this) (l := putD l L (digs (x % 2 ^ (n * (m / 2))) n (m / 2))) (x := x / 2 ^ (n * (m / 2))) (L := L + m / 2) (by (first | lia | omega)) (hl1 ▸ hl) (by
      rw [Nat.div_lt_iff_lt_mul (Nat.two_pow_pos _), ← Nat.pow_add, ← Nat.mul_add, show m - m / 2 + m / 2 = m by (first | lia | omega)]
      exact hx)) fun res s₇ h => ?_) (by simp [interactive, E.kind]) rfl)⟩
    obtain ⟨rfl, h1, h2⟩ := h
    have J := (J.stk' (stk' := []) fun k => k.2).own_ ⟨⟩ (by kernel_rfl) h1 h2 (nL_scal _)
    refine ⟨_, rfl, wpAny_execs_nil ⟨rfl, Inv.stay (W := { W with k := m }) E J, ?_⟩⟩
    have e3 := putD_split (l := l) (L := L) (ds := digs (x % 2 ^ (n * (m / 2))) n (m / 2)) (es := digs (x / 2 ^ (n * (m / 2))) n (m - m / 2)) (by (first | lia | omega))
    rw [e1, ← digs_split, show m / 2 + (m - m / 2) = m by (first | lia | omega)] at e3
    exact e3 ▸ h2
end
end Mine
namespace Mine
set_option genSizeOf false
set_option genInjectivity false
noncomputable def valD (n : Nat) : List Nat → Nat
  | [] => 0
  | d :: r => d + 2 ^ n * valD n r
theorem valD_append {n : Nat} {ys : List Nat} : ∀ {xs : List Nat}, valD n (xs ++ ys) = valD n xs + 2 ^ (n * xs.length) * valD n ys
  | [] => by rw [List.nil_append, valD, Nat.zero_add, List.length_nil, Nat.mul_zero, Nat.pow_zero, Nat.one_mul]
  | x :: xs => by rw [List.cons_append, valD, valD, valD_append (xs := xs), List.length_cons, Nat.mul_succ, Nat.pow_add, Nat.mul_comm (2 ^ (n * xs.length)), Nat.mul_add, Nat.add_assoc, Nat.mul_comm (valD n ys), ← Nat.mul_assoc, Nat.mul_comm (2 ^ n) (2 ^ (n * xs.length))]
theorem valD_lt {n : Nat} : ∀ {xs : List Nat}, (∀ x ∈ xs, x < 2 ^ n) → valD n xs < 2 ^ (n * xs.length)
  | [], _ => by rw [valD, List.length_nil, Nat.mul_zero]; decide
  | x :: xs, h => by
    have h1 := h x List.mem_cons_self
    have h2 := Nat.mul_le_mul_left (2 ^ n) (show valD n xs + 1 ≤ _ from valD_lt fun y hy => h y (List.mem_cons_of_mem _ hy))
    rw [Nat.mul_add, Nat.mul_one] at h2
    rw [valD, List.length_cons, Nat.mul_succ, Nat.add_comm (n * xs.length), Nat.pow_add]
    (first | lia | omega)
noncomputable def I76 : Arguments × List Stmt × Scope := inDef "_digits2int"
noncomputable def N76 : List Str := [Str.ofString "L", Str.ofString "R"]
noncomputable def c76 (f : Addr) (n : Nat) (l : List Nat) : Loc := [nv "digits" (.val (.lst (nL l))), nv "inner" (.val (.obj f)), nv "n" (.val (nI n))]
noncomputable def ρ76 (f : Addr) (n : Nat) (l : List Nat) (L R : Int) : Loc := nv "L" (ri L) :: nv "R" (ri R) :: c76 f n l
noncomputable def ρ76' (f : Addr) (n : Nat) (l : List Nat) (L R mid sh : Int) : Loc := ρ76 f n l L R ++ [nv "mid" (ri mid), nv "shift" (ri sh)]
section
variable {W : Ws} {f : Addr} {n m L x : Nat} {l : List Nat} {σ : Sto}
noncomputable abbrev T76 : Expr := (ifP (stAt I76.2.1 0)).1
noncomputable abbrev A76 : List Stmt := (I76.2.1.drop 1).take 2
theorem b76 : I76.2.1 = .If T76 (ifP (stAt I76.2.1 0)).2.1 [] (ifP (stAt I76.2.1 0)).2.2.2 :: (A76 ++ [stAt I76.2.1 3]) := by kernel_rfl
theorem t76 {b : Bool} (h : decide ((L : Int) + 1 = (L + m : Nat)) = b) : Tst W I76.2.2 σ (ρ76 f n l L (L + m : Nat)) T76 b :=
  Vc.use (ce (gam0 W) 4 I76.2.2 (ρ76 f n l L (L + m : Nat)) T76).2 (Eq.trans (by kernel_rfl) h) (by kernel_rfl)
theorem a76 (h : l[L]? = some x) (hl : L < 1000) : Exs false W I76.2.2 (ifP (stAt I76.2.1 0)).2.1 (ρ76 f n l L (L + m : Nat)) σ (.ret (.val (nI x))) (ρ76 f n l L (L + m : Nat)) σ :=
  Exs.ret (Ex.ret (Ev.item (i := L) getQ_lst (Ev.rv (Ev.loc (by kernel_rfl) (by kernel_rfl))) (Ev.rv (Ev.loc (by kernel_rfl) (by kernel_rfl))) (op_itemL (l := nL l) (Bool.and_eq_true_iff.mpr ⟨decide_eq_true (Int.natCast_nonneg L), decide_eq_true (by (first | lia | omega))⟩) (by rw [Int.toNat_natCast, List.getElem?_map, h]; rfl)) (slice_ok rfl)))
theorem s76 {L R mid sh : Int} (h1 : (L + R).fdiv 2 = mid) (h2 : (mid - L) * n = sh) (k1 : small (mid - L) = true) : Exs false W I76.2.2 A76 (ρ76 f n l L R) σ .next (ρ76' f n l L R mid sh) σ := by
  subst h1 h2
  refine Vc.use (J := ExsJ false W I76.2.2 A76 (ρ76 f n l L R) σ) (a := (.next, ρ76' f n l L R _ _, σ)) (cs false (gam0 W) 8 I76.2.2 3 A76 (ρ76 f n l L R) σ) (by kernel_rfl) (Eq.trans (b := small ((L + R).fdiv 2 - L) && true) (by kernel_rfl) ?_)
  rw [k1]; rfl
theorem r76 {L R mid sh : Int} : Ars W I76.2.2 σ (ρ76' f n l L R mid sh) [.Name (Str.ofString "mid") ⟨59, 22, 59, 25⟩, .Name (Str.ofString "R") ⟨59, 27, 59, 28⟩] [.int mid, .int R] ∧ Ars W I76.2.2 σ (ρ76' f n l L R mid sh) [.Name (Str.ofString "L") ⟨59, 48, 59, 49⟩, .Name (Str.ofString "mid") ⟨59, 51, 59, 54⟩] [.int L, .int mid] :=
  ⟨Vc.use (arsV (fun e => rdV (ce (gam0 W) 4 I76.2.2 (ρ76' f n l L R mid sh) e).1) _) (by kernel_rfl) (by kernel_rfl), Vc.use (arsV (fun e => rdV (ce (gam0 W) 4 I76.2.2 (ρ76' f n l L R mid sh) e).1) _) (by kernel_rfl) (by kernel_rfl)⟩
theorem inner76 (hn : 1 ≤ n) (hl : l.length ≤ 1000) (hb : ∀ x ∈ l, x < 2 ^ n) (m : Nat) : 1 ≤ m → n * m ≤ 60 → ∀ {A : Around} {s : Shared} {fd : FuncData} {ok : Addr → Prop} {L : Nat} {vals : List Value}, Room (m + 1) A → Glob W.B s.heap → fd.scope = I76.2.2 → CallIn W.B s f fd N76 I76.2.1 none none ok (c76 f n l) →
    Rels ok s.heap vals [nI L, nI (L + m)] → L + m ≤ l.length →
    codeAny W.M A (.call (.ref f) ⟨vals, []⟩) (fun res s' => ∃ v, res = .ok (.ret v) ∧ Rel (fun _ => False) s'.heap v (nI (valD n ((l.drop L).take m))) ∧ Stay W.B none s s') s := by
  induction m using Nat.strongRecOn with
  | _ m ih =>
  intro hm hnm A s fd ok L vals R G hsc C hr hLm
  refine CloFn.call (W := { W with k := m }) C.fn R G hr hr.length C.hx C.hc C.ho fun s₁ E I => ?_
  have I : Inv (Fr.fn E none ok fun _ => False) (ρ76 f n l L (L + m : Nat)) none [] none s₁ := I
  have hs : (Fr.fn E none ok fun _ => False).env.scope = I76.2.2 := hsc
  rw [b76]
  by_cases h1 : m = 1
  · subst h1
    have hg : l[L]? = some l[L] := List.getElem?_eq_getElem hLm
    refine go (Exs.ret (Ex.iteT (t76 (decide_eq_true rfl)) (a76 hg (by (first | lia | omega)))) (stk := []) hs rfl nofun ⟨⟩ I).any fun fl s' d => ?_
    obtain ⟨v, rfl, J⟩ := d
    refine ⟨v, rfl, ?_, Inv.stay (W := { W with k := 1 }) E J⟩
    rw [List.take_one, List.head?_drop, hg]
    exact Rel.scal J.stk.1 rfl
  · have hm2 : m / 2 < m := by (first | lia | omega)
    have hk1 : n * (m / 2) ≤ n * m := Nat.mul_le_mul_left n (Nat.le_of_lt hm2)
    have hk2 : n * (m - m / 2) ≤ n * m := Nat.mul_le_mul_left n (Nat.sub_le ..)
    have hm60 : m ≤ 60 := Nat.le_trans (Nat.le_mul_of_pos_left m hn) hnm
    have hm' : ((L + m / 2 : Nat) : Int) - L = ((m / 2 : Nat) : Int) := by (first | lia | omega)
    obtain ⟨o, ho, hd⟩ := C.fn.obj
    have hkp : (Fr.fn E none ok fun _ => False).Kp f o := ⟨ho, List.not_mem_nil, G.noT W.O ho fun vs q => (by rw [hd] at q; cases q), nofun⟩
    have CF : ∀ {ρ σ stk s'}, Inv (Fr.fn E none ok fun _ => False) ρ σ stk none s' → CloFn W.B s'.heap f fd N76 I76.2.1 := fun J => (Inv.stay (W := { W with k := m }) E J).clo W.O nofun C.fn G.2 C.ct
    have hρ : ∀ p ∈ c76 f n l, Celly (callEnv fd s.heap.objs.size f) p.1 ∧ fd.scope.names.lookup p.1 = some .free ∧ (ρ76' f n l L (L + m : Nat) (L + m / 2 : Nat) (n * (m / 2) : Nat)).lookup p.1 = some p.2 ∧ fd.closure.lookup p.1 = fd.closure.lookup p.1 := fun p hp => by
      have k : fd.scope.names.lookup p.1 = some .free ∧ (ρ76' f n l L (L + m : Nat) (L + m / 2 : Nat) (n * (m / 2) : Nat)).lookup p.1 = some p.2 := by
        rw [hsc]
        rcases List.mem_cons.mp hp with rfl | hp
        · exact ⟨by kernel_rfl, by kernel_rfl⟩
        · rcases List.mem_cons.mp hp with rfl | hp
          · exact ⟨by kernel_rfl, by kernel_rfl⟩
          · obtain rfl := List.mem_singleton.mp hp
            exact ⟨by kernel_rfl, by kernel_rfl⟩
      exact ⟨.inr k.1, k.1, k.2, rfl⟩
    refine wpAny_execs_cons (go (Ex.iteF (c := false) (t76 (decide_eq_false (by (first | lia | omega)))) Exs.nil (stk := []) hs rfl nofun ⟨⟩ I).any fun fl s₂ d => ?_)
    obtain ⟨rfl, I⟩ := d
    show wpAny _ _ (execs (A76 ++ [stAt I76.2.1 3]) _) _ _ _
    rw [execs_append]
    refine wpAny_bind (go (s76 (sh := (n * (m / 2) : Nat)) mid_of (by rw [hm', Int.mul_comm, Int.natCast_mul]) (by rw [hm']; exact small_nat (by (first | lia | omega))) (stk := []) hs rfl nofun ⟨⟩ I).any fun fl s₃ d => ?_)
    obtain ⟨rfl, I⟩ := d
    have v2 := Nat.lt_of_lt_of_le (valD_lt (n := n) (xs := (l.drop (L + m / 2)).take (m - m / 2)) fun x hx => hb x (List.mem_of_mem_drop (List.mem_of_mem_take hx))) (Nat.pow_le_pow_right (by decide) (Nat.le_trans (Nat.mul_le_mul_left n (List.length_take_le _ _)) (Nat.le_trans hk2 hnm)))
    refine wpAny_execs_cons (wpAny_Return_some (wpAny_BinOp (wpAny_BinOp (I.held (o := o) (hs ▸ by kernel_rfl) (by kernel_rfl) hkp hd (by rw [hs]; exact r76.1) fun s₄ vs J => codeAny_mono (ih (m - m / 2) (by (first | lia | omega)) (by (first | lia | omega)) (Nat.le_trans hk2 hnm) (E.room.less (by show m - m / 2 + 1 ≤ m; (first | lia | omega))) J.glob hsc (J.callIn (CF J) C.ct hρ) (by
      have := J.stk.1.rd0.tight rfl
      rw [show L + m = L + m / 2 + (m - m / 2) by (first | lia | omega)] at this
      exact this) (L := L + m / 2) (by (first | lia | omega))) fun res s₅ h => ?_))))
    obtain ⟨v, rfl, h1, h2⟩ := h
    have I : Inv _ _ none [.one v (.rd (nI (valD n ((l.drop (L + m / 2)).take (m - m / 2)))))] none s₅ := ((J.stk' (stk' := []) fun k => k.2).none_ h2).stk' fun k => ⟨.inl (h1.weak fun _ => False.elim), k⟩
    refine ⟨v, rfl, go (Ev.rv (Ev.loc (by kernel_rfl) (by kernel_rfl)) hs I) fun u s₆ I => go (Op2.use (Vc.use (binII { W with k := m } (valD n ((l.drop (L + m / 2)).take (m - m / 2)) : Nat) (n * (m / 2) : Nat) .LShift) (a := .int (((valD n ((l.drop (L + m / 2)).take (m - m / 2)) : Nat) : Int) * 2 ^ (n * (m / 2)))) rfl ?_) I) fun u s₇ I =>
      I.rd.held (o := o) (hs ▸ by kernel_rfl) (by kernel_rfl) hkp hd (by rw [hs]; exact r76.2) fun s₈ vs J => codeAny_mono (ih (m / 2) hm2 (by (first | lia | omega)) (Nat.le_trans hk1 hnm) (E.room.less hm2) J.glob hsc (J.callIn (CF J) C.ct hρ) (J.stk.1.rd0.tight rfl) (L := L) (by (first | lia | omega))) fun res s₉ h => ?_⟩
    · exact Bool.and_eq_true_iff.mpr ⟨Bool.and_eq_true_iff.mpr ⟨decide_eq_true (Int.natCast_nonneg _), decide_eq_true (by (first | lia | omega))⟩, small_nat v2⟩
    · obtain ⟨v', rfl, h1, h2⟩ := h
      have I : Inv _ _ none [.one v' (.rd (nI (valD n ((l.drop L).take (m / 2))))), .one u (.rd _)] none s₉ := ((J.stk' (stk' := [.one u (.rd _)]) fun k => k.2).none_ h2).stk' fun k => ⟨.inl (h1.weak fun _ => False.elim), k⟩
      refine ⟨v', rfl, go (Op2.use (Vc.use (binII { W with k := m } ((valD n ((l.drop (L + m / 2)).take (m - m / 2)) : Nat) * 2 ^ (n * (m / 2))) (valD n ((l.drop L).take (m / 2)) : Nat) .Add) (a := .int (((valD n ((l.drop (L + m / 2)).take (m - m / 2)) : Nat) : Int) * 2 ^ (n * (m / 2)) + ((valD n ((l.drop L).take (m / 2)) : Nat) : Int))) rfl rfl) I) fun u s₁₀ I => ⟨u, rfl, ?_, Inv.stay (W := { W with k := m }) E I⟩⟩
      have e : valD n ((l.drop L).take m) = valD n ((l.drop (L + m / 2)).take (m - m / 2)) * 2 ^ (n * (m / 2)) + valD n ((l.drop L).take (m / 2)) := by
        rw [show m = m / 2 + (m - m / 2) by (first | lia | omega), List.take_add, List.drop_drop, valD_append, List.length_take, List.length_drop, Nat.min_eq_left (by (first | lia | omega)), show m / 2 + (m - m / 2) = m by (first | lia | omega)]
        rw [Nat.mul_comm, Nat.add_comm]
      rw [e]
      have r : Rel _ _ u _ := I.stk.1
      rw [pow_cast, ← Int.natCast_mul, ← Int.natCast_add] at r
      exact r.scal rfl
end
end Mine
namespace Mine
set_option genSizeOf false
set_option genInjectivity false
noncomputable def defPos : List Stmt → Pos
  | .FunctionDef _ _ _ _ _ _ _ _ _ pos :: _ => pos
  | _ :: r => defPos r
  | [] => ⟨0, 0, 0, 0⟩
section
variable {W : Ws} {F : Fr W} {sc : Scope} {ρ : Loc} {σ : Sto} {stk : List Pend} {as : Option Addr} {s : Shared} {f c' : Addr} {name qual : Str} {params : Arguments} {body : List Stmt} {scope : Scope} {clos : List (Str × Addr)} {doc pm ctv : Value} {oc : Obj} {vs : Array Value} {t : Tok} {names : List Str} {e : Expr} {p1 p2 p3 : Pos} {k m : Nat}
theorem Inv.clo (I : Inv F ρ σ stk as s) (Kf : F.Kp f { cls := .type "function", data := .func (fnX name qual params body scope clos .none .none doc pm none (.ref c') ctv) }) (Kc : F.Kp c' oc) (d : oc.data = .fields vs) (v1 : vs[1]? = some (.str qual t))
    (hst : (scope.names.all fun p => match p.2 with | .free => (clos.lookup p.1).isSome | .cell => false | _ => true) = true) (hcl : ∀ p ∈ clos, Celly F.env p.1 ∧ F.env.cells.lookup p.1 = some p.2) (hnm : (names.all fun x => match scope.names.lookup x with | some .local => true | _ => false) = true) (hnd : names.Nodup)
    (hco : scope.isCoroutine = false) (hge : scope.isGenerator = false) (hk : scope.kind = .function) (hb : ∀ vals : List Value, vals.length = names.length → bindArgs (fnX name qual params body scope clos .none .none doc pm none (.ref c') ctv) ⟨vals, []⟩ = pure (names.zip vals)) :
    CloFn W.B s.heap f (fnX name qual params body scope clos .none .none doc pm none (.ref c') ctv) names body where
  obj := ⟨_, I.kp _ _ Kf, rfl⟩
  hbody := rfl
  gl := rfl
  bu := rfl
  code := ⟨c', oc, vs, t, rfl, I.kp _ _ Kc, d, v1⟩
  co := hco
  gen := hge
  kind := hk
  nocell x hx e := by
    have := List.all_eq_true.mp hst x hx
    rw [e] at this; cases this
  nodup := hnd
  kinds x hx := by
    have := List.all_eq_true.mp hnm x hx
    show scope.names.lookup x = _
    split at this
    · assumption
    · cases this
  bind s vals hl := .of_eq (hb vals hl)
  cells x e := by
    have := List.all_eq_true.mp hst _ (mem_of_look (e : scope.names.lookup x = some .free))
    obtain ⟨c, hc⟩ := Option.isSome_iff_exists.mp this
    obtain ⟨h1, h2⟩ := hcl _ (mem_of_look hc)
    obtain ⟨c2, v, e2, y⟩ := I.cex x h1
    obtain rfl := Option.some.inj (h2.symm.trans e2)
    exact ⟨c, v, hc, y⟩
  apart x y c e1 e2 := have a := hcl _ (mem_of_look e1); have b := hcl _ (mem_of_look e2); F.cndup x y c a.2 b.2 a.1 b.1
theorem rels_rep {ok : Addr → Prop} {h : Heap} {v : Value} {p : PV} (r : Rel ok h v p) : Rels ok h (List.replicate m v) (List.replicate m p) := by
  induction m with
  | zero => exact .nil
  | succ m ih => exact .cons r ih
theorem New.zeros (hm : m ≤ 1000) (h : Rd W sc none ρ e (nI m)) : New W sc (.BinOp (.List [.Constant (.int 0) k p1] p2) .Mult e p3) ρ (nL (List.replicate m 0)) := fun {F s} hs I => by
  refine wpAny_BinOp (wpAny_List (wpAny_items_cons (wpAny_Constant_int (wpAny_items_nil ⟨(by decide : 1 ≤ sizeLine), ?_⟩))))
  have J := I.grow (s' := { s with heap := s.heap.push { cls := .type "list", data := .seq [Value.int 0 s.toks].toArray }, toks := s.toks + 1 }) (grow_all fun _ _ e => Heap.get?_push_of_some _ e)
  have fr := I.free (get_new (Nat.le_refl _))
  have hk : Kps F fun b o => b = s.heap.objs.size ∧ o = { cls := .type "list", data := .seq [Value.int 0 s.toks].toArray } := ⟨fun o q => fr.L q.1.symm, fun _ x c e1 e2 o q => fr.C x c (.inl e1) e2 q.1, fun a o q => q.1 ▸ fr.T⟩
  refine go (h (F := F.keep hk) hs (J.keep hk fun a o q => ⟨by rw [q.1, q.2]; exact Heap.get?_push_size _ rfl, nofun⟩)) fun u s₂ J => ?_
  obtain ⟨t, rfl⟩ := Rel.int' J.stk.1.rd0
  have hD := (J.kept ⟨rfl, rfl⟩).1
  have J := J.unkeep.stk' (stk' := []) fun k => k.2
  obtain ⟨mm, hn⟩ := J.ns
  refine mul_list (fr0 hn) news0 hD (by (first | lia | omega)) (by (first | lia | omega)) (by show 1 * _ ≤ _; (first | lia | omega)) fun h' Fm N => ?_
  obtain ⟨n, hnew⟩ : ∃ n, h'.get? s₂.heap.objs.size = some (listOb (List.replicate m (Value.int 0 s.toks)) n) := by
    rw [(N _ List.mem_cons_self).1, listMul_foldl_if, Int.toNat_natCast, show (List.replicate m ([Value.int 0 s.toks].toArray).toList).flatten = List.replicate m (Value.int 0 s.toks) from List.flatten_replicate_singleton ..]
    exact ⟨_, rfl⟩
  exact ⟨_, J.newOwn (get_new (Nat.le_refl _)) (fr_grow (tk := s₂.toks) hn Fm N) hnew (by rw [nL, List.map_replicate]; exact rels_rep (.int _ _))⟩
end
end Mine
namespace Mine
set_option genSizeOf false
set_option genInjectivity false
theorem len2 {α : Type} : ∀ {l : List α}, l.length = 2 → ∃ a b, l = [a, b]
  | [a, b], _ => ⟨a, b, rfl⟩
theorem len3 {α : Type} : ∀ {l : List α}, l.length = 3 → ∃ a b c, l = [a, b, c]
  | [a, b, c], _ => ⟨a, b, c, rfl⟩
noncomputable abbrev D69 : Arguments × List Stmt × Scope := defOf' "_int2digits"
noncomputable def pos69 : Pos := defPos D69.2.1
noncomputable def qual69 : Str := Str.ofString "_int2digits.<locals>.inner"
noncomputable def count69 (a n : Nat) : Nat := (Builtin.Int.intBits (a : Int) + n - 1) / n
noncomputable def noFns (W : Ws) : FnV W := fun _ _ => .no .none
noncomputable def noMe (W : Ws) : MeV W := fun _ _ _ => .no .none
noncomputable abbrev gamN {W : Ws} (G : GlobOk W) : Gam W := gam G (noFns W) (noMe W)
theorem Vc.rd {W : Ws} {sc : Scope} {σ : Sto} {ρ : Loc} {e : Expr} {p : PV} (x : Vc (Ev W sc σ ρ e)) (h : (rdV x).val = p) (h2 : (rdV x).ob = true) : Rd W sc σ ρ e p := Vc.use (rdV x) h h2
section
variable {W : Ws} {f : Addr} {a n : Nat} {l : List Nat} {σ : Sto} (G : GlobOk W)
noncomputable def ρF69 (a n : Nat) : Loc := [nv "a" (.val (nI a)), nv "n" (.val (nI n))]
noncomputable def ρG69 (a n : Nat) (f : Addr) : Loc := ρF69 a n ++ [nv "a_digits" .own, nv "inner" (.val (.obj f))]
theorem cells69 {k : Nat} : cellsFrom k D69.2.2.names [] = [(Str.ofString "inner", k + 2), (Str.ofString "a_digits", k + 1), (Str.ofString "n", k)] := by kernel_rfl
noncomputable def clos69 (k : Nat) : List (Str × Addr) := [(Str.ofString "n", k), (Str.ofString "inner", k + 2), (Str.ofString "a_digits", k + 1)]
theorem closure69 {env : Env} {k : Nat} (h : env.cells = [(Str.ofString "inner", k + 2), (Str.ofString "a_digits", k + 1), (Str.ofString "n", k)]) : closureFor I69.2.2 env = pure (clos69 k) := by
  obtain ⟨_, _, _, cells, _, _, _, _, _⟩ := env
  dsimp only at h
  subst h
  kernel_rfl
noncomputable def binE : Stmt → Expr
  | .Assign _ (.BinOp _ _ e _) _ => e
  | _ => .Name ⟨#[]⟩ ⟨0, 0, 0, 0⟩
include G in
theorem e69 (h1 : 1 ≤ n) (h2 : n ≤ 60) (ha : a < 2 ^ 60) : Rd W D69.2.2 none (ρF69 a n) (binE (stAt D69.2.1 0)) (nI (count69 a n)) := by
  have e : ((((Builtin.Int.intBits (a : Int) : Nat) : Int) + n - 1).fdiv n) = ((count69 a n : Nat) : Int) := by
    rw [show (((Builtin.Int.intBits (a : Int) : Nat) : Int) + n - 1) = ((Builtin.Int.intBits (a : Int) + n - 1 : Nat) : Int) by (first | lia | omega), fdiv_cast]; rfl
  rw [nI, ← e]
  refine @Vc.rd W D69.2.2 none (ρF69 a n) _ _ (ce (gamN G) 6 D69.2.2 (ρF69 a n) (binE (stAt D69.2.1 0))).1 (by kernel_rfl) (Eq.trans (b := ((small (a : Int) && true) && true) && (true && (!decide ((n : Int) = 0) && decide ((n : Int).natAbs < 2 ^ 30)))) (by kernel_rfl) ?_)
  rw [small_nat ha, decide_eq_false (show ¬ (n : Int) = 0 by (first | lia | omega)), decide_eq_true (show (n : Int).natAbs < 2 ^ 30 by (first | lia | omega))]
  rfl
theorem bF69 : D69.2.1 = [stAt D69.2.1 0, stAt D69.2.1 1, .If (ifP (stAt D69.2.1 2)).1 [stAt (ifP (stAt D69.2.1 2)).2.1 0] [] (ifP (stAt D69.2.1 2)).2.2.2, stAt D69.2.1 3] := by kernel_rfl
include G in
theorem tF69 : Tst W D69.2.2 (some (nL l)) (ρG69 a n f) (ifP (stAt D69.2.1 2)).1 ((a : Int) != 0) ∧ ((nL l).length ≤ 1048576 → Ars W D69.2.2 (some (nL l)) (ρG69 a n f) (callA (stAt (ifP (stAt D69.2.1 2)).2.1 0)) [nI a, nI 0, nI (nL l).length]) :=
  ⟨Vc.use (ce (gamN G) 6 D69.2.2 (ρG69 a n f) (ifP (stAt D69.2.1 2)).1).2 (by kernel_rfl) (by kernel_rfl), fun h => Vc.use (arsV (fun e => rdV (ce (gamN G) 6 D69.2.2 (ρG69 a n f) e).1) _) (by kernel_rfl) (Eq.trans (b := ((true && decide ((nL l).length ≤ 1048576)) && true)) (by kernel_rfl) (by rw [decide_eq_true h]; rfl))⟩
include G in
theorem spec69 {c P a0 : Addr} {fd : FuncData} (TB : TabB W.B c P pos69 qual69) (hf : FnOk W.B a0 fd [Str.ofString "a", Str.ofString "n"] D69.2.1) (hsc : fd.scope = D69.2.2) (hcd : fd.code = .ref c) (hq : fd.qualname = Str.ofString "_int2digits")
    (hbind : ∀ {A : Around} {s : Shared} {vals : List Value} {Q : List (Str × Value) → Shared → Prop} {E : Value → Shared → Prop}, Glob W.B s.heap → vals.length = 2 → Q ([Str.ofString "a", Str.ofString "n"].zip (vals ++ [])) s → wpAny W.M A (bindArgs fd ⟨vals, []⟩) Q E s)
    (hn : 1 ≤ n) (hn60 : n ≤ 60) (hm : n * count69 a n ≤ 60) (hk : count69 a n + 1 ≤ W.k) : Spc false { W with k := W.k + 1 } a0 [nI a, nI n] (.lst (nL (digs a n (count69 a n)))) := by
  have hb1 : Builtin.Int.intBits (a : Int) ≤ n * count69 a n := by
    have h1 := Nat.div_add_mod (Builtin.Int.intBits (a : Int) + n - 1) n
    have h2 := Nat.mod_lt (Builtin.Int.intBits (a : Int) + n - 1) hn
    show _ ≤ n * ((Builtin.Int.intBits (a : Int) + n - 1) / n)
    (first | lia | omega)
  have han : a < 2 ^ (n * count69 a n) := (show a = ((a : Nat) : Int).natAbs from rfl) ▸ intBits_le_iff.mp hb1
  have ha60 : a < 2 ^ 60 := Nat.lt_of_lt_of_le han (Nat.pow_le_pow_right (by decide) hm)
  have hc60 : count69 a n ≤ 60 := Nat.le_trans (Nat.le_mul_of_pos_left _ hn) hm
  refine @FnOk.spcE false W a0 fd _ _ [] [nI a, nI n] [] _ .own (some (nL (digs a n (count69 a n)))) hf .nil hbind (fun {F s₀} L he hro _ I => .of ?_) (.inr ⟨_, rfl, rfl, rfl⟩) rfl
  have I : Inv F (ρF69 a n) none [] none s₀ := I
  have hs : F.env.scope = D69.2.2 := by rw [he]; exact hsc
  have hcode : F.env.code = .ref c := by rw [he]; exact hcd
  have hcells : F.env.cells = [(Str.ofString "inner", L + 1 + 2), (Str.ofString "a_digits", L + 1 + 1), (Str.ofString "n", L + 1)] := by
    rw [he]; show cellsFrom (L + 1) fd.scope.names [] = _; rw [hsc]; exact cells69
  rw [bF69]
  refine wpAny_execs_cons (wpAny_Assign_Name (go (New.zeros (m := count69 a n) (Nat.le_trans hc60 (by decide)) (e69 G hn hn60 ha60) hs I) fun v s₁ d => d.elim fun D I => go (I.put (hs ▸ by kernel_rfl) hro) fun _ s₂ I => ?_) (swapsDep (sc := D69.2.2) (by kernel_rfl) hs))
  have I : Inv F (ρF69 a n ++ [nv "a_digits" .own]) (some (nL (List.replicate (count69 a n) 0))) [] (some D) s₂ := I
  refine wpAny_execs_cons (I.def_ TB hcode ?_ rfl rfl (by kernel_rfl) rfl (closure69 hcells) rfl (hs ▸ by kernel_rfl) hro fun f c' fdi oc vs t s₃ K hkp J Kf hfd Kc hd v1 => ?_)
  · rw [he]
    show qualnameIn (callEnvC fd L a0) _ _ = _
    rw [callEnvC, hsc, hq]; kernel_rfl
  obtain ⟨ctv, doc, pm, rfl⟩ := hfd
  have J : Inv (F.keep hkp) (ρG69 a n f) (some (nL (List.replicate (count69 a n) 0))) [] (some D) s₃ := J
  have hend : ∀ {l s}, Inv (F.keep hkp) (ρG69 a n f) (some (nL l)) [] (some D) s → wpAny W.M F.A (execs [stAt D69.2.1 3] F.env) (fun fl s => ∃ v as ρ', fl = .ret v ∧ Inv F ρ' (some (nL l)) [.one v .own] as s) NoE s := fun I =>
    wpAny_execs_cons (go (Ex.ret (c := false) (Ev.loc (by kernel_rfl) (by kernel_rfl)) (F := F.keep hkp) (stk := []) hs hro nofun ⟨⟩ I).any fun fl s d => by obtain ⟨v, rfl, I⟩ := d; exact ⟨v, _, _, rfl, I.unkeep⟩)
  have hl1 : (List.replicate (count69 a n) 0).length = count69 a n := List.length_replicate ..
  refine wpAny_execs_cons (wpAny_If (go ((tF69 G).1 (F := F.keep hkp) hs J) fun b s₄ k => ?_))
  obtain ⟨rfl, J⟩ := k
  by_cases ha0 : a = 0
  · subst ha0
    rw [if_neg (show ¬ (((0 : Nat) : Int) != 0) = true from Bool.false_ne_true)]
    refine wpAny_execs_nil ?_
    have h0 : count69 0 n = 0 := Nat.div_eq_of_lt (by show Builtin.Int.intBits 0 + n - 1 < n; rw [show Builtin.Int.intBits 0 = 0 from by decide +kernel]; (first | lia | omega))
    rw [h0] at J ⊢
    exact hend J
  · rw [if_pos (show ((a : Int) != 0) = true from bne_iff_ne.mpr (Int.natCast_ne_zero.mpr ha0))]
    have hc1 : 1 ≤ count69 a n := Nat.pos_of_ne_zero fun h => by rw [h, Nat.mul_zero] at han; (first | lia | omega)
    have hcl : ∀ p ∈ clos69 (L + 1), Celly F.env p.1 ∧ F.env.cells.lookup p.1 = some p.2 := fun p hp => by
      rw [hcells]
      have k : F.env.scope.names.lookup p.1 = some .cell ∧ List.lookup p.1 [(Str.ofString "inner", L + 1 + 2), (Str.ofString "a_digits", L + 1 + 1), (Str.ofString "n", L + 1)] = some p.2 := by
        rw [hs]
        rcases List.mem_cons.mp hp with rfl | hp
        · exact ⟨by kernel_rfl, by kernel_rfl⟩
        · rcases List.mem_cons.mp hp with rfl | hp
          · exact ⟨by kernel_rfl, by kernel_rfl⟩
          · obtain rfl := List.mem_singleton.mp hp
            exact ⟨by kernel_rfl, by kernel_rfl⟩
      exact ⟨.inl k.1, k.2⟩
    have hρ : ∀ p ∈ c69 f n, Celly F.env p.1 ∧ I69.2.2.names.lookup p.1 = some .free ∧ (ρG69 a n f).lookup p.1 = some p.2 ∧ List.lookup p.1 (clos69 (L + 1)) = F.env.cells.lookup p.1 := fun p hp => by
      rw [hcells]
      have k : F.env.scope.names.lookup p.1 = some .cell ∧ I69.2.2.names.lookup p.1 = some .free ∧ (ρG69 a n f).lookup p.1 = some p.2 ∧ List.lookup p.1 (clos69 (L + 1)) = List.lookup p.1 [(Str.ofString "inner", L + 1 + 2), (Str.ofString "a_digits", L + 1 + 1), (Str.ofString "n", L + 1)] := by
        rw [hs]
        rcases List.mem_cons.mp hp with rfl | hp
        · exact ⟨by kernel_rfl, by kernel_rfl, by kernel_rfl, by kernel_rfl⟩
        · rcases List.mem_cons.mp hp with rfl | hp
          · exact ⟨by kernel_rfl, by kernel_rfl, by kernel_rfl, by kernel_rfl⟩
          · obtain rfl := List.mem_singleton.mp hp
            exact ⟨by kernel_rfl, by kernel_rfl, by kernel_rfl, by kernel_rfl⟩
      exact ⟨.inl k.1, k.2⟩
    refine wpAny_execs_cons (wpAny_Expr (Inv.held (F := F.keep hkp) J (o := { cls := .type "function", data := .func (fnX "inner" qual69 I69.1 I69.2.1 I69.2.2 (clos69 (L + 1)) .none .none doc pm none (.ref c') ctv) }) (hs ▸ by kernel_rfl) (by kernel_rfl) (.inr Kf) rfl (by
      rw [show (F.keep hkp).env.scope = D69.2.2 from hs]; exact (tF69 G).2 (by rw [List.length_map, hl1]; (first | lia | omega))) fun s₅ vs J => codeAny_mono (inner69 hn (count69 a n) hc1 hm (F.room.less hk) J.glob rfl (J.callIn (ρc := c69 f n) (J.clo (.inr Kf) (.inr Kc) hd v1 (by kernel_rfl) hcl (by kernel_rfl) (by decide +kernel) rfl rfl rfl (fun vals hl => ?_)) (fun c hc => ?_) hρ) (by
      have := J.stk.1.rd0.tight rfl
      rw [List.length_map, hl1] at this
      rw [Nat.zero_add]
      exact this) (l := List.replicate (count69 a n) 0) (x := a) (L := 0) (by (first | lia | omega)) (by (first | lia | omega)) han) fun res s₆ h => ?_) (by simp [interactive, F.kind]) rfl)
    · obtain ⟨v1, v2, v3, rfl⟩ := len3 hl
      kernel_rfl
    · obtain rfl := Value.ref.inj hc
      exact (F.keep hkp).kpF _ _ (.inr Kc)
    · obtain ⟨rfl, h1, h2⟩ := h
      have J := (J.stk' (stk' := []) fun k => k.2).own_ ⟨⟩ (by kernel_rfl) h1 h2 (nL_scal _)
      have e : putD (List.replicate (count69 a n) 0) 0 (digs a n (count69 a n)) = digs a n (count69 a n) := by
        rw [putD, digs_len, List.drop_eq_nil_of_le (by rw [hl1]; (first | lia | omega)), List.append_nil]; rfl
      rw [e] at J
      exact ⟨_, rfl, wpAny_execs_nil (hend J)⟩
end
end Mine
namespace Mine
set_option genSizeOf false
set_option genInjectivity false
noncomputable abbrev D76 : Arguments × List Stmt × Scope := defOf' "_digits2int"
noncomputable def pos76 : Pos := defPos D76.2.1
noncomputable def qual76 : Str := Str.ofString "_digits2int.<locals>.inner"
noncomputable def retP : Stmt → Expr × Expr × Expr × Pos × Pos
  | .Return (some (.IfExp t a b p)) q => (t, a, b, p, q)
  | _ => (.Name ⟨#[]⟩ ⟨0, 0, 0, 0⟩, .Name ⟨#[]⟩ ⟨0, 0, 0, 0⟩, .Name ⟨#[]⟩ ⟨0, 0, 0, 0⟩, ⟨0, 0, 0, 0⟩, ⟨0, 0, 0, 0⟩)
noncomputable def callE : Expr → List Expr
  | .Call _ es _ _ => es
  | _ => []
section
variable {W : Ws} {f : Addr} {n : Nat} {l : List Nat} {σ : Sto} (G : GlobOk W)
noncomputable def ρF76 (l : List Nat) (n : Nat) : Loc := [nv "digits" (.val (.lst (nL l))), nv "n" (.val (nI n))]
noncomputable def ρG76 (l : List Nat) (n : Nat) (f : Addr) : Loc := ρF76 l n ++ [nv "inner" (.val (.obj f))]
theorem cells76 {k : Nat} : cellsFrom k D76.2.2.names [] = [(Str.ofString "inner", k + 2), (Str.ofString "n", k + 1), (Str.ofString "digits", k)] := by kernel_rfl
noncomputable def clos76 (k : Nat) : List (Str × Addr) := [(Str.ofString "n", k + 1), (Str.ofString "inner", k + 2), (Str.ofString "digits", k)]
theorem closure76 {env : Env} {k : Nat} (h : env.cells = [(Str.ofString "inner", k + 2), (Str.ofString "n", k + 1), (Str.ofString "digits", k)]) : closureFor I76.2.2 env = pure (clos76 k) := by
  obtain ⟨_, _, _, cells, _, _, _, _, _⟩ := env
  dsimp only at h
  subst h
  kernel_rfl
noncomputable abbrev R76 : Expr × Expr × Expr × Pos × Pos := retP (stAt D76.2.1 1)
theorem bF76 : D76.2.1 = [stAt D76.2.1 0, .Return (some (.IfExp R76.1 R76.2.1 R76.2.2.1 R76.2.2.2.1)) R76.2.2.2.2] := by kernel_rfl
include G in
theorem tF76 (h : (nL l).length ≤ 1048576) : Tst W D76.2.2 none (ρG76 l n f) R76.1 (!(nL l).isEmpty) ∧ Ars W D76.2.2 none (ρG76 l n f) (callE R76.2.1) [nI 0, nI (nL l).length] ∧ Vl W D76.2.2 none (ρG76 l n f) R76.2.2.1 (nI 0) :=
  ⟨Vc.use (ce (gamN G) 6 D76.2.2 (ρG76 l n f) R76.1).2 (by kernel_rfl) (Eq.trans (b := (true && decide ((nL l).length ≤ 1048576))) (by kernel_rfl) (by rw [decide_eq_true h]; rfl)), Vc.use (arsV (fun e => rdV (ce (gamN G) 6 D76.2.2 (ρG76 l n f) e).1) _) (by kernel_rfl) (Eq.trans (b := ((true && decide ((nL l).length ≤ 1048576)) && true)) (by kernel_rfl) (by rw [decide_eq_true h]; rfl)),
    Vc.use (ce (gamN G) 6 D76.2.2 (ρG76 l n f) R76.2.2.1).1 (by kernel_rfl) (by kernel_rfl)⟩
include G in
theorem spec76 {c P a0 : Addr} {fd : FuncData} (TB : TabB W.B c P pos76 qual76) (hf : FnOk W.B a0 fd [Str.ofString "digits", Str.ofString "n"] D76.2.1) (hsc : fd.scope = D76.2.2) (hcd : fd.code = .ref c) (hq : fd.qualname = Str.ofString "_digits2int")
    (hbind : ∀ {A : Around} {s : Shared} {vals : List Value} {Q : List (Str × Value) → Shared → Prop} {E : Value → Shared → Prop}, Glob W.B s.heap → vals.length = 2 → Q ([Str.ofString "digits", Str.ofString "n"].zip (vals ++ [])) s → wpAny W.M A (bindArgs fd ⟨vals, []⟩) Q E s)
    (hn : 1 ≤ n) (hm : n * l.length ≤ 60) (hb : ∀ x ∈ l, x < 2 ^ n) (hk : l.length + 1 ≤ W.k) : Spc false { W with k := W.k + 1 } a0 [.lst (nL l), nI n] (nI (valD n l)) := by
  have hl60 : l.length ≤ 60 := Nat.le_trans (Nat.le_mul_of_pos_left _ hn) hm
  have hl : (nL l).length ≤ 1048576 := by rw [List.length_map]; (first | lia | omega)
  refine @FnOk.spcE false W a0 fd _ _ [] [.lst (nL l), nI n] [] _ (.val (nI (valD n l))) none hf .nil hbind (fun {F s₀} L he hro _ I => .of ?_) (.inl rfl) rfl
  have I : Inv F (ρF76 l n) none [] none s₀ := I
  have hs : F.env.scope = D76.2.2 := by rw [he]; exact hsc
  have hcode : F.env.code = .ref c := by rw [he]; exact hcd
  have hcells : F.env.cells = [(Str.ofString "inner", L + 1 + 2), (Str.ofString "n", L + 1 + 1), (Str.ofString "digits", L + 1)] := by
    rw [he]; show cellsFrom (L + 1) fd.scope.names [] = _; rw [hsc]; exact cells76
  rw [bF76]
  refine wpAny_execs_cons (I.def_ TB hcode ?_ rfl rfl (by kernel_rfl) rfl (closure76 hcells) rfl (hs ▸ by kernel_rfl) hro fun f c' fdi oc vs t s₃ K hkp J Kf hfd Kc hd v1 => ?_)
  · rw [he]
    show qualnameIn (callEnvC fd L a0) _ _ = _
    rw [callEnvC, hsc, hq]; kernel_rfl
  obtain ⟨ctv, doc, pm, rfl⟩ := hfd
  have J : Inv (F.keep hkp) (ρG76 l n f) none [] none s₃ := J
  obtain ⟨h1, h2, h3⟩ := @tF76 W f n l G hl
  by_cases hl0 : (nL l).isEmpty = true
  · refine wpAny_execs_cons (go (Ex.ret (c := false) (Ev.ifF (by rw [hl0] at h1; exact h1) h3) (F := F.keep hkp) (stk := []) hs hro nofun ⟨⟩ J).any fun fl s d => ?_)
    obtain ⟨v, rfl, I⟩ := d
    rw [show valD n l = 0 by cases l with | nil => rfl | cons => cases hl0]
    exact ⟨v, _, _, rfl, I.unkeep⟩
  · rw [eq_false_of_ne_true hl0] at h1
    have hcl : ∀ p ∈ clos76 (L + 1), Celly F.env p.1 ∧ F.env.cells.lookup p.1 = some p.2 := fun p hp => by
      rw [hcells]
      have k : F.env.scope.names.lookup p.1 = some .cell ∧ List.lookup p.1 [(Str.ofString "inner", L + 1 + 2), (Str.ofString "n", L + 1 + 1), (Str.ofString "digits", L + 1)] = some p.2 := by
        rw [hs]
        rcases List.mem_cons.mp hp with rfl | hp
        · exact ⟨by kernel_rfl, by kernel_rfl⟩
        · rcases List.mem_cons.mp hp with rfl | hp
          · exact ⟨by kernel_rfl, by kernel_rfl⟩
          · obtain rfl := List.mem_singleton.mp hp
            exact ⟨by kernel_rfl, by kernel_rfl⟩
      exact ⟨.inl k.1, k.2⟩
    have hρ : ∀ p ∈ c76 f n l, Celly F.env p.1 ∧ I76.2.2.names.lookup p.1 = some .free ∧ (ρG76 l n f).lookup p.1 = some p.2 ∧ List.lookup p.1 (clos76 (L + 1)) = F.env.cells.lookup p.1 := fun p hp => by
      rw [hcells]
      have k : F.env.scope.names.lookup p.1 = some .cell ∧ I76.2.2.names.lookup p.1 = some .free ∧ (ρG76 l n f).lookup p.1 = some p.2 ∧ List.lookup p.1 (clos76 (L + 1)) = List.lookup p.1 [(Str.ofString "inner", L + 1 + 2), (Str.ofString "n", L + 1 + 1), (Str.ofString "digits", L + 1)] := by
        rw [hs]
        rcases List.mem_cons.mp hp with rfl | hp
        · exact ⟨by kernel_rfl, by kernel_rfl, by kernel_rfl, by kernel_rfl⟩
        · rcases List.mem_cons.mp hp with rfl | hp
          · exact ⟨by kernel_rfl, by kernel_rfl, by kernel_rfl, by kernel_rfl⟩
          · obtain rfl := List.mem_singleton.mp hp
            exact ⟨by kernel_rfl, by kernel_rfl, by kernel_rfl, by kernel_rfl⟩
      exact ⟨.inl k.1, k.2⟩
    have hc1 : 1 ≤ l.length := by cases l with | nil => exact (hl0 rfl).elim | cons => exact Nat.succ_le_succ (Nat.zero_le _)
    refine wpAny_execs_cons (wpAny_Return_some (wpAny_IfExp (go (h1 (F := F.keep hkp) hs J) fun b s₄ k => ?_)))
    obtain ⟨rfl, J⟩ := k
    rw [if_pos (show (!false) = true from rfl)]
    refine Inv.held (F := F.keep hkp) J (o := { cls := .type "function", data := .func (fnX "inner" qual76 I76.1 I76.2.1 I76.2.2 (clos76 (L + 1)) .none .none doc pm none (.ref c') ctv) }) (hs ▸ by kernel_rfl) (by kernel_rfl) (.inr Kf) rfl (by
      rw [show (F.keep hkp).env.scope = D76.2.2 from hs]; exact h2) fun s₅ vs J => codeAny_mono (inner76 hn (by (first | lia | omega)) hb l.length hc1 hm (F.room.less hk) J.glob rfl (J.callIn (ρc := c76 f n l) (J.clo (.inr Kf) (.inr Kc) hd v1 (by kernel_rfl) hcl (by kernel_rfl) (by decide +kernel) rfl rfl rfl (fun vals hl => ?_)) (fun c hc => ?_) hρ) (by
      have := J.stk.1.rd0.tight rfl
      rw [List.length_map] at this
      rw [Nat.zero_add]
      exact this) (L := 0) (by (first | lia | omega))) fun res s₆ h => ?_
    · obtain ⟨v1, v2, rfl⟩ := len2 hl
      kernel_rfl
    · obtain rfl := Value.ref.inj hc
      exact (F.keep hkp).kpF _ _ (.inr Kc)
    · obtain ⟨v, rfl, h1, h2⟩ := h
      rw [List.drop_zero, List.take_length] at h1
      exact ⟨v, rfl, v, _, _, rfl, (((J.stk' (stk' := []) fun k => k.2).none_ h2).unkeep).stk' fun k => ⟨h1.weak fun _ => False.elim, k⟩⟩
end
end Mine
namespace Mine
set_option genSizeOf false
set_option genInjectivity false
section
variable {c : Bool} {α : Type} {M : Model} {A : Around} {E : Value → Shared → Prop} {s : Shared}
theorem wpX_holding {vs : List Value} {m : Sem α} {Q : α → Shared → Prop} (h : wpX c M A m Q E s) : wpX c M A (holding vs m) Q E s := fun Γ p hΓ hC => by rw [Sem.wp_holding]; exact h Γ p hΓ hC
end
theorem fromObject_eq {x : Str} {t : Tok} : (int_private% "intFromObject") (.str x t) = (int_private% "intFromText") (.str x t) (numTextOf x) 10 := by
  have f3 := KIN.str_int
  have f4 := KIN.str_idx
  have f5 := KIN.str_trunc
  have f6 : typeOf (.str x t) = pure (.type "str") := rfl
  show ((int_private% "intFromObject") (.str x t)) = _
  kernel_rfl
section
variable {α : Type} {M : Model} {A : Around} {E : Value → Shared → Prop} {s : Shared}
theorem wpX_if_pos {c : Prop} [Decidable c] {a b : Sem α} {Q : α → Shared → Prop} (hc : c) (h : wpX true M A a Q E s) : wpX true M A (if c then a else b) Q E s := by rw [if_pos hc]; exact h
theorem wpX_if_neg {c : Prop} [Decidable c] {a b : Sem α} {Q : α → Shared → Prop} (hc : ¬ c) (h : wpX true M A b Q E s) : wpX true M A (if c then a else b) Q E s := by rw [if_neg hc]; exact h
end
noncomputable def Bad (s : Shared) (e : Value) (s' : Shared) : Prop := ∃ a h tk args, e = .ref a ∧ s' = { s with heap := h, toks := tk } ∧ Heap.MadeExc s.heap h a "ValueError" args
theorem Bad.toks {s : Shared} {e : Value} {s' : Shared} {k : Nat} (h : Bad { s with toks := k } e s') : Bad s e s' := by
  obtain ⟨a, h, tk, args, h1, h2, h3⟩ := h
  exact ⟨a, h, tk, args, h1, h2, h3⟩
noncomputable def asciiS (x : Str) : Bool := x.cps.all (· < 128)
section
variable {prog : Program} {w : World} {A : Around} {E : Value → Shared → Prop} {s : Shared} {x : Str} {t : Tok} {n : Int}
theorem fromText_bad {Q : Value → Shared → Prop} (hl : x.length ≤ 640) (ha : asciiS x = true) (hn : PySem.intText? x = none) (hh : A.handled = none) (hE : ∀ e s', Bad s e s' → E e s') :
    wpX true (model prog w) A ((int_private% "intFromText") (.str x t) (numTextOf x) 10) Q E s := by
  have hs : (numSeenOf x).length ≤ 640 := Nat.le_trans (seen_length x) hl
  have hr : (int_private% "readNumeral") 0 10 (numSeenOf x) = int_private% "Numeral.invalid" ∨ ∃ i, (int_private% "readNumeral") 0 10 (numSeenOf x) = (int_private% "Numeral.value") i ∧ ¬ ((numSeenOf x).length == (numTextOf x).length) = true := by
    rcases PySem.read0 x hs with ⟨m, h1, _⟩ | ⟨_, h⟩
    · rw [hn] at h1; cases h1
    · exact h
  have hrep : (reprText x).length ≤ 10 * x.length + 2 := StrLaws.reprText_len x fun c hc => by
    have := Array.all_eq_true.mp ha
    obtain ⟨i, hi, e⟩ := List.getElem_of_mem hc
    have h2 := this i (by simpa using hi)
    simp at h2
    simp at e
    have : (16 : Nat) ^ 8 = 4294967296 := by decide
    (first | lia | omega)
  have hsz : sizeLine = 16777216 := rfl
  have tail : wpX true (model prog w) A (do
      rule "int.__new__.invalid-literal"
      let shown ← pyRepr (.str x t)
      let m ← mkStr (Str.ofString (toString "invalid literal for int() with base " ++ toString 10 ++ toString ": ") ++ (⟨shown.cps.extract 0 200⟩ : Str))
      let refusal ← newExc (.type "ValueError") [m]
      markTheRefusal ["int.__new__"] refusal
      raiseNew refusal) Q E s := by
    refine wpX_then (wpAny_rule (wpX_then (wpAny_pyRepr_str ?_ (by (first | lia | omega)))))
    refine wpX_then (wpAny_mkStr ?_ ?_)
    · refine wpX_then (wpAny_newExc_plain plainExc_ValueError fun h' e hm => wpX_bind (wpX_refusal (.of (wpAny_raiseNew_none hh (hE _ _ ⟨e, h', _, _, rfl, rfl, hm⟩)))))
    · have h1 : (Str.ofString (toString "invalid literal for int() with base " ++ toString 10 ++ toString ": ")).length = 40 := by decide +kernel
      show (Str.ofString _ ++ (⟨(reprText x).cps.extract 0 200⟩ : Str)).length ≤ sizeLine
      have h2 : (⟨(reprText x).cps.extract 0 200⟩ : Str).length ≤ 200 := by
        show ((reprText x).cps.extract 0 200).size ≤ 200
        rw [Array.size_extract]; (first | lia | omega)
      have h3 : (Str.ofString (toString "invalid literal for int() with base " ++ toString 10 ++ toString ": ") ++ (⟨(reprText x).cps.extract 0 200⟩ : Str)).length = (Str.ofString (toString "invalid literal for int() with base " ++ toString 10 ++ toString ": ")).length + (⟨(reprText x).cps.extract 0 200⟩ : Str).length := Array.size_append ..
      rw [h3]; (first | lia | omega)
  change wpX true _ A (ite _ _ _) Q E s
  refine wpX_if_pos hs ?_
  rw [pure_bind]
  rcases hr with hr | ⟨i, hr, hne⟩
  · dsimp only
    rw [show List.takeWhile (fun x => x != 0) (numTextOf x) = numSeenOf x from rfl, hr]
    exact tail
  · dsimp only
    rw [show List.takeWhile (fun x => x != 0) (numTextOf x) = numSeenOf x from rfl, hr]
    dsimp only
    rw [if_neg hne]
    exact tail
end
end Mine
namespace Mine
set_option genSizeOf false
set_option genInjectivity false
section
variable {x : Str} {t u : Tok}
theorem index10 : Builtin.Int.intIndex "int.__new__" (.int 10 u) = pure 10 := by kernel_rfl
theorem newInt_eq : Builtin.«int.__new__» ⟨[.type "int", .str x t], []⟩ = ((int_private% "intFromText") (.str x t) (numTextOf x) 10 >>= fun v => ret v) := by
  have f1 := F.conv_sub_int
  have f2 := F.madeHere_int
  unfold Builtin.«int.__new__»
  dsimp only
  simp only [f1, f2, pure_bind, isType, Bool.not_true, Bool.false_eq_true, if_false, List.length_cons, List.length_nil, List.isEmpty_nil, List.forIn_nil]
  simp (config := { decide := true }) only [List.head?_cons, List.head?_nil, if_false, Bool.and_true, beq_self_eq_true, Option.map_none, pure_bind]
  kernel_rfl
theorem newInt10_eq : Builtin.«int.__new__» ⟨[.type "int", .str x t, .int 10 u], []⟩ = ((int_private% "intFromText") (.str x t) (numTextOf x) 10 >>= fun v => ret v) := by
  have f1 := F.conv_sub_int
  have f2 := F.madeHere_int
  unfold Builtin.«int.__new__»
  dsimp only
  simp only [f1, f2, pure_bind, isType, Bool.not_true, Bool.false_eq_true, if_false, List.length_cons, List.length_nil, List.isEmpty_nil, List.forIn_nil]
  simp (config := { decide := true }) only [List.head?_cons, List.head?_nil, if_false, Bool.and_true, beq_self_eq_true, Option.map_none, pure_bind]
  kernel_rfl
end
theorem typeCall_int_2 (a : Value) (u : Tok) : checkTypeCall "int" ⟨[a, .int 10 u], []⟩ = pure () := by kernel_rfl
theorem newCall_int_2 (a : Value) (u : Tok) : checkBuiltinCall "int.__new__" ⟨[.type "int", a, .int 10 u], []⟩ = pure () := by kernel_rfl
section
variable {prog : Program} {w : World} {A : Around} {E : Value → Shared → Prop} {s : Shared} {x : Str} {t u : Tok} {n : Int}
theorem codeX_builtin {id : String} {args : Args} {b : Builtin} {R : Result → Shared → Prop} (hb : entryFor table id = some b)
    (h : wpX true (model prog w) (A.under (.builtin id args)) (b args) (fun fin s' => match fin with | .done f => R (.ok f) s' | .again c' => c'.quiet = true ∧ codeX true (model prog w) A c' R s') (fun e s' => R (.error e) s') s) :
    codeX true (model prog w) A (.builtin id args) R s := by
  refine codeX_of_tree ?_
  show wpX true _ _ (match entryFor table id with | some b => b args | none => unsupported ((withoutEnding? id "#data").getD id)) _ _ s
  rw [hb]; exact h
theorem codeX_call_builtin {id : String} {args : Args} {b : Builtin} {R : Result → Shared → Prop} (hp : plainId id = true) (hb : entryFor table id = some b) (hc : checkBuiltinCall id args = pure ())
    (h : wpX true (model prog w) A.in1 (b args) (fun fin s' => match fin with | .done f => R (.ok f) s' | .again c' => c'.quiet = true ∧ codeX true (model prog w) A c' R s') (fun e s' => R (.error e) s') s) :
    codeX true (model prog w) A (.call (.builtin id) args) R s := by
  refine codeX_of_tree ?_
  show wpX true _ A.in1 (do checkBuiltinCall id args; again (.builtin id args)) _ _ s
  rw [hc]
  refine wpX_bind (wpX_pure (wpX_pure ⟨plainId_quiet hp args, codeX_builtin hb ?_⟩))
  rw [Around.under_plainId hp args]
  exact h
theorem callInt_bad {rest : List Value} {Q : Value → Shared → Prop} (hrest : rest = [] ∨ ∃ u, rest = [.int 10 u]) (hl : x.length ≤ 640) (ha : asciiS x = true) (hn : PySem.intText? x = none) (hh : A.handled = none) (hE : ∀ e s', Bad s e s' → E e s') :
    wpX true (model prog w) A (call (.type "int") (.str x t :: rest)) Q E s := by
  obtain ⟨c, tl, hmro⟩ := F.called_int.mro
  have hmade := F.called_int.made
  have h1 := F.called_int.notType
  have h2 := F.called_int.canCreate
  have hct : checkTypeCall "int" ⟨.str x t :: rest, []⟩ = pure () := by
    rcases hrest with rfl | ⟨u, rfl⟩
    · exact F.typeCall_int_1 _
    · exact typeCall_int_2 _ _
  have hcn : checkBuiltinCall "int.__new__" ⟨.type "int" :: .str x t :: rest, []⟩ = pure () := by
    rcases hrest with rfl | ⟨u, rfl⟩
    · exact F.newCall_int_1 _
    · exact newCall_int_2 _ _
  have hnew : Builtin.«int.__new__» ⟨.type "int" :: .str x t :: rest, []⟩ = ((int_private% "intFromText") (.str x t) (numTextOf x) 10 >>= fun v => ret v) := by
    rcases hrest with rfl | ⟨u, rfl⟩
    · exact newInt_eq
    · exact newInt10_eq
  refine wpX_call (codeX_of_tree ?_)
  show wpX true _ _ (callAny (.type "int") _) _ _ _
  refine wpX_pure ⟨Code.quiet_builtin _ (by decide +kernel), codeX_builtin F.entry_type_call ?_⟩
  rw [Around.under_plain (weight_type_call_type "int" (.str x t :: rest) []) (units_type_call_type "int" (.str x t :: rest) [])]
  unfold Builtin.«type.__call__»
  dsimp only
  simp only [h1, h2, hct, hmro, hmade, pure_bind, Bool.false_eq_true, if_false, List.isEmpty_cons]
  refine wpX_bind (wpX_holding (wpX_call (codeX_call_builtin (by decide +kernel) F.entry_int_new hcn ?_)))
  rw [hnew]
  exact wpX_bind (fromText_bad hl ha hn hh hE)
end
theorem gives_int10 {x : Str} {t u : Tok} {n : Int} (hl : x.length ≤ 640) (hn : PySem.intText? x = some n) : Gives (Builtin.«int.__new__» ⟨[.type "int", .str x t, .int 10 u], []⟩) (.int n) := by
  rw [newInt10_eq, ← newInt_eq]
  exact KIN.gives_text hl hn
section
variable {prog : Program} {w : World} {A : Around} {E : Value → Shared → Prop} {s : Shared} {x : Str} {t u : Tok} {n : Int}
theorem callInt10 {Q : Value → Shared → Prop} (hn : PySem.intText? x = some n) (hl : x.length ≤ 640) (h : Q (.int n s.toks) { s with toks := s.toks + 1 }) : wpAny (model prog w) A (call (.type "int") [.str x t, .int 10 u]) Q E s :=
  callType_new F.called_int F.newNe_int (typeCall_int_2 _ _) (newCall_int_2 _ _) (fun obj => by unfold argsOk; kernel_rfl) F.entry_int_new (gives_int10 hl hn).meets (show (Made.int n).post _ s from ⟨rfl, h⟩)
end
end Mine
namespace Mine
set_option genSizeOf false
set_option genInjectivity false
namespace FM
theorem mro_map : mroOf (.type "map") = pure [.type "map", .type "object"] := by rw [mroOf_type]; kernel_rfl
theorem lookup_map_new : typeLookup (.type "map") "__new__" = pure (some (.builtin "map.__new__")) := by rw [typeLookup_type, builtinLookup_eq_fast]; kernel_rfl
theorem slot_map_init : Slot "map" "__init__" "object.__init__" :=
  .of (owner := "object") (n := "__init__") (by rw [typeLookup_type, builtinLookup_eq_fast]; kernel_rfl) (by decide +kernel) (by decide +kernel) (by decide +kernel)
    (by first | exact .inl (by decide +kernel) | exact .inr (by decide +kernel)) (by rw [isSubtype_type]; kernel_rfl)
theorem slot_map_iter : Slot "map" "__iter__" "map.__iter__" :=
  .of (owner := "map") (n := "__iter__") (by rw [typeLookup_type, builtinLookup_eq_fast]; kernel_rfl) (by decide +kernel) (by decide +kernel) (by decide +kernel)
    (by first | exact .inl (by decide +kernel) | exact .inr (by decide +kernel)) (by rw [isSubtype_type]; kernel_rfl)
theorem slot_map_next : Slot "map" "__next__" "map.__next__" :=
  .of (owner := "map") (n := "__next__") (by rw [typeLookup_type, builtinLookup_eq_fast]; kernel_rfl) (by decide +kernel) (by decide +kernel) (by decide +kernel)
    (by first | exact .inl (by decide +kernel) | exact .inr (by decide +kernel)) (by rw [isSubtype_type]; kernel_rfl)
theorem called_map : TypeCalled "map" "map.__new__" "object.__init__" :=
  ⟨by decide +kernel, by decide +kernel, ⟨_, _, mro_map⟩, madeBy_type mro_map lookup_map_new (by decide +kernel), by decide +kernel, by rw [isSubtype_type]; kernel_rfl, slot_map_init⟩
theorem typeCall_map_2 (a b : Value) : checkTypeCall "map" ⟨[a, b], []⟩ = pure () := by kernel_rfl
theorem newCall_map_2 (a b : Value) : checkBuiltinCall "map.__new__" ⟨[.type "map", a, b], []⟩ = pure () := by kernel_rfl
theorem entry_map_new : entryFor table "map.__new__" = some Builtin.«map.__new__» := entryFor_of_tree (by kernel_rfl)
theorem entry_map_next : entryFor table "map.__next__" = some Builtin.«map.__next__» := entryFor_of_tree (by kernel_rfl)
theorem entry_map_iter : entryFor table "map.__iter__" = some Builtin.«dict_keyiterator.__iter__» :=
  entryFor_alias (id' := "dict_keyiterator.__iter__") (by kernel_rfl) (by first | rfl | decide +kernel | (unfold String.splitOn; simp +decide [String.splitOnAux])) (by decide +kernel) (by kernel_rfl)
theorem owner_map : Manifest.owners.lookup (String.ofList ['p', 'a', 'm'].reverse) = some Manifest.sig_map := by kernel_rfl
theorem args_map_next (a : Value) : argsOk "map.__next__" ⟨[a], []⟩ := by
  unfold argsOk; rw [signature?_of (id := "map.__next__") (n := ['_', '_', 't', 'x', 'e', 'n', '_', '_']) (o := ['p', 'a', 'm']) (by kernel_rfl) owner_map]; kernel_rfl
theorem args_map_iter (a : Value) : argsOk "map.__iter__" ⟨[a], []⟩ := by
  unfold argsOk; rw [signature?_of (id := "map.__iter__") (n := ['_', '_', 'r', 'e', 't', 'i', '_', '_']) (o := ['p', 'a', 'm']) (by kernel_rfl) owner_map]; kernel_rfl
theorem map_no_len : typeLookup (.type "map") "__len__" = pure none := by rw [typeLookup_type, builtinLookup_eq_fast]; kernel_rfl
theorem map_no_hint : typeLookup (.type "map") "__length_hint__" = pure none := by rw [typeLookup_type, builtinLookup_eq_fast]; kernel_rfl
theorem sub_map : isSubtype (.type "map") (.type "map") = pure true := by rw [isSubtype_type]; kernel_rfl
end FM
noncomputable abbrev IsMap (h : Heap) (m T : Addr) (f : Value) : Prop := h.get? m = some { cls := .type "map", dict := none, data := .fields #[.ref T, f], slots := #[] }
noncomputable abbrev IsOne (h : Heap) (T : Addr) (v : Value) : Prop := h.get? T = some { cls := .type "tuple", data := .seq #[v] }
section
variable {prog : Program} {w : World} {A : Around} {E : Value → Shared → Prop} {s : Shared}
theorem wpAny_pyIter_map {m T : Addr} {f : Value} {Q : Value → Shared → Prop} (hz : IsMap s.heap m T f) (h : Q (.ref m) s) : wpAny (model prog w) A (pyIter (.ref m)) Q E s := by
  have hT : s.TypeIs (.ref m) "map" := ⟨_, hz, rfl⟩
  refine wpAny_pyIter_slot hT FM.slot_map_iter (wpAny_call_entry FM.slot_map_iter hT FM.entry_map_iter ?_ (FM.args_map_iter _))
  show wpAny _ _ (ret (.ref m)) _ _ s
  exact wpAny_pure ⟨_, rfl, "map", _, hT, FM.slot_map_next.lookup, h⟩
noncomputable abbrev mapA (h : Heap) (l : Addr) : Heap := h.push { cls := .type "list_iterator", data := .fields #[.ref l, .int 0 0] }
noncomputable abbrev mapT (h : Heap) (i : Addr) : Heap := h.push { cls := .type "tuple", data := .seq #[.ref i] }
noncomputable abbrev mapM (h : Heap) (T : Addr) (f : Value) : Heap := h.push { cls := .type "map", data := .fields #[.ref T, f] }
theorem meets_map_list (f : String) (l : Addr) (xs : Array Value) :
    Meets (Builtin.«map.__new__» ⟨[.type "map", .type f, .ref l], []⟩) (fun _ R s => s.heap.IsList l xs ∧
      R (.ok (.ret (.ref (mapT (mapA s.heap l) s.heap.objs.size).objs.size))) { s with heap := mapM (mapT (mapA s.heap l) s.heap.objs.size) (mapA s.heap l).objs.size (.type f) }) :=
  .of_wp fun prog w A R s h => by
    obtain ⟨hp, g, d, tk, os⟩ := s; obtain ⟨hl1, h⟩ := h
    have hsub := FM.sub_map
    have hL1 : Heap.IsList (Shared.heap ⟨hp, g, d, tk, os⟩) l xs := hl1
    wp_walk using wpAny_pyIter_list hL1
    exact ⟨_, rfl, h⟩
theorem meets_map_map (f : String) (m T : Addr) (g : Value) :
    Meets (Builtin.«map.__new__» ⟨[.type "map", .type f, .ref m], []⟩) (fun _ R s => IsMap s.heap m T g ∧
      R (.ok (.ret (.ref (mapT s.heap m).objs.size))) { s with heap := mapM (mapT s.heap m) s.heap.objs.size (.type f) }) :=
  .of_wp fun prog w A R s h => by
    obtain ⟨hp, g, d, tk, os⟩ := s; obtain ⟨hl1, h⟩ := h
    have hsub := FM.sub_map
    have hL1 : IsMap (Shared.heap ⟨hp, g, d, tk, os⟩) m T _ := hl1
    wp_walk using wpAny_pyIter_map hL1
    exact ⟨_, rfl, h⟩
end
end Mine
namespace Mine
set_option genSizeOf false
set_option genInjectivity false
section
variable {prog : Program} {w : World} {A : Around} {E : Value → Shared → Prop} {s : Shared}
theorem call_map_list {f : String} {l : Addr} {xs : Array Value} {Q : Value → Shared → Prop} (hl : s.heap.IsList l xs)
    (h : ∀ h', IsMap h' (s.heap.objs.size + 2) (s.heap.objs.size + 1) (.type f) → IsOne h' (s.heap.objs.size + 1) (.ref s.heap.objs.size) → h'.IsListIter s.heap.objs.size l 0 → h'.objs.size = s.heap.objs.size + 3 →
      (∀ c o, s.heap.get? c = some o → h'.get? c = some o) → Q (.ref (s.heap.objs.size + 2)) { s with heap := h' }) : wpAny (model prog w) A (call (.type "map") [.type f, .ref l]) Q E s := by
  refine callType_new FM.called_map (by decide) (FM.typeCall_map_2 _ _) (FM.newCall_map_2 _ _) (fun obj => PySem.F.args_object_init_3 obj _ _) FM.entry_map_new (meets_map_list f l xs) ⟨hl, ?_⟩
  have z1 : (mapA s.heap l).objs.size = s.heap.objs.size + 1 := Heap.size_push ..
  have z2 : (mapT (mapA s.heap l) s.heap.objs.size).objs.size = s.heap.objs.size + 2 := by rw [Heap.size_push, z1]
  have z3 : (mapM (mapT (mapA s.heap l) s.heap.objs.size) (mapA s.heap l).objs.size (.type f)).objs.size = s.heap.objs.size + 3 := by rw [Heap.size_push, z2]
  have g3 : (mapM (mapT (mapA s.heap l) s.heap.objs.size) (mapA s.heap l).objs.size (.type f)).get? (mapT (mapA s.heap l) s.heap.objs.size).objs.size = some _ := Heap.get?_push_size _ rfl
  have g2 : (mapM (mapT (mapA s.heap l) s.heap.objs.size) (mapA s.heap l).objs.size (.type f)).get? (mapA s.heap l).objs.size = some _ := Heap.get?_push_of_some _ (Heap.get?_push_size _ rfl)
  have g1 : (mapM (mapT (mapA s.heap l) s.heap.objs.size) (mapA s.heap l).objs.size (.type f)).get? s.heap.objs.size = some _ := Heap.get?_push_of_some _ (Heap.get?_push_of_some _ (Heap.get?_push_size _ rfl))
  show _ ∧ _
  refine ⟨⟨_, g3, rfl⟩, ?_⟩
  have := h (mapM (mapT (mapA s.heap l) s.heap.objs.size) (mapA s.heap l).objs.size (.type f)) (by rw [z1]; rw [z2, z1] at g3; exact g3) (by rw [z1]; rw [z1] at g2; exact g2) ⟨_, g1, rfl, rfl⟩ z3 fun c o x => Heap.get?_push_of_some _ (Heap.get?_push_of_some _ (Heap.get?_push_of_some _ x))
  rw [z2]
  exact this
theorem call_map_map {f : String} {m T : Addr} {g : Value} {Q : Value → Shared → Prop} (hm : IsMap s.heap m T g)
    (h : ∀ h', IsMap h' (s.heap.objs.size + 1) s.heap.objs.size (.type f) → IsOne h' s.heap.objs.size (.ref m) → h'.objs.size = s.heap.objs.size + 2 →
      (∀ c o, s.heap.get? c = some o → h'.get? c = some o) → Q (.ref (s.heap.objs.size + 1)) { s with heap := h' }) : wpAny (model prog w) A (call (.type "map") [.type f, .ref m]) Q E s := by
  refine callType_new FM.called_map (by decide) (FM.typeCall_map_2 _ _) (FM.newCall_map_2 _ _) (fun obj => PySem.F.args_object_init_3 obj _ _) FM.entry_map_new (meets_map_map f m T g) ⟨hm, ?_⟩
  have z1 : (mapT s.heap m).objs.size = s.heap.objs.size + 1 := Heap.size_push ..
  have z2 : (mapM (mapT s.heap m) s.heap.objs.size (.type f)).objs.size = s.heap.objs.size + 2 := by rw [Heap.size_push, z1]
  have g2 : (mapM (mapT s.heap m) s.heap.objs.size (.type f)).get? (mapT s.heap m).objs.size = some _ := Heap.get?_push_size _ rfl
  have g1 : (mapM (mapT s.heap m) s.heap.objs.size (.type f)).get? s.heap.objs.size = some _ := Heap.get?_push_of_some _ (Heap.get?_push_size _ rfl)
  show _ ∧ _
  refine ⟨⟨_, g2, rfl⟩, ?_⟩
  have := h _ (by rw [z1] at g2; exact g2) g1 z2 fun c o x => Heap.get?_push_of_some _ (Heap.get?_push_of_some _ x)
  rw [z1]
  exact this
theorem callSpecial_X {M : Model} {self : Value} {T : String} {name : Str} {id : String} {args : List Value} {Q : Option Value → Shared → Prop} (hT : s.TypeIs self T) (h : Slot T name id)
    (hc : wpX true M A (call (.builtin id) (self :: args) []) (fun v => Q (some v)) E s) : wpX true M A (callSpecial? self name args []) Q E s := by
  simp only [callSpecial?]
  refine wpX_then (wpAny_specialOf hT h.lookup ?_)
  simp only [h.bind]
  exact wpX_holding (wpX_bind (wpX_pure (wpX_bind (wpX_mono hc (fun v s' h' => wpX_pure h') fun _ _ h' => h'))))
theorem call_next_cl {m T : Addr} {f : Value} {Q : Value → Shared → Prop} (hm : IsMap s.heap m T f)
    (h : wpX true (model prog w) A.in1 (Builtin.«map.__next__» ⟨[.ref m], []⟩) (fun fin s' => ∃ v, fin = .done (.ret v) ∧ Q v s') E s) : wpX true (model prog w) A (call (.builtin "map.__next__") [.ref m]) Q E s := by
  have hT : s.TypeIs (.ref m) "map" := ⟨_, hm, rfl⟩
  refine wpX_call (codeX_of_tree ?_)
  show wpX true _ A.in1 (do checkBuiltinCall "map.__next__" ⟨[.ref m], []⟩; again (.builtin "map.__next__" ⟨[.ref m], []⟩)) _ _ s
  refine wpX_then (FM.slot_map_next.check _ _ _ _ _ _ _ _ hT (FM.args_map_next _) ?_)
  refine wpX_pure ⟨plainId_quiet FM.slot_map_next.plain _, codeX_builtin FM.entry_map_next ?_⟩
  rw [Around.under_plainId FM.slot_map_next.plain _]
  refine wpX_mono h (fun fin s' q => ?_) fun _ _ q => q
  obtain ⟨v, rfl, hv⟩ := q; exact hv
theorem mapNext_cl {m T it : Addr} {f : Value} {Q : Value → Shared → Prop} (hm : IsMap s.heap m T f) (hT : IsOne s.heap T (.ref it))
    (h : wpX true (model prog w) A.in1 (Builtin.SmallTypes.nextOf (.ref it)) (fun v s₁ => IsMap s₁.heap m T f ∧ wpX true (model prog w) A.in1 (call f [v] []) Q E s₁) E s) :
    wpX true (model prog w) A (callSpecial? (.ref m) (Str.ofString "__next__") [] []) (fun r s' => ∃ v, r = some v ∧ Q v s') E s := by
  refine callSpecial_X (T := "map") ⟨_, hm, rfl⟩ FM.slot_map_next (call_next_cl hm ?_)
  show wpX true _ _ (field (.ref m) 0 >>= _) _ _ s
  refine wpX_then (wpAny_field hm rfl (x := .ref T) rfl ?_)
  refine wpX_then (wpAny_seqItems hT rfl ?_)
  simp only [List.forIn_toArray, List.forIn_cons, List.forIn_nil]
  refine wpX_bind (wpX_bind (wpX_bind (wpX_holding ?_)))
  refine wpX_mono h (fun v s₁ q => ?_) fun _ _ q => q
  refine wpX_pure (wpX_pure ?_)
  refine wpX_then (wpAny_field q.1 rfl (x := f) rfl ?_)
  refine wpX_bind (wpX_holding ?_)
  refine wpX_mono q.2 (fun v s₂ q => ?_) fun _ _ q => q
  refine wpX_then (wpAny_letGo (wpX_pure ⟨_, rfl, _, rfl, q⟩))
end
structure MapSt (h : Heap) (M2 T2 M1 T1 I0 al : Addr) (vs : Array Value) (i : Nat) : Prop where
  m2 : IsMap h M2 T2 (.type "str")
  t2 : IsOne h T2 (.ref M1)
  m1 : IsMap h M1 T1 (.type "int")
  t1 : IsOne h T1 (.ref I0)
  it : h.IsListIter I0 al i
  l : h.IsList al vs
theorem sub_value_stop : isSubtype (.type "ValueError") (.type "StopIteration") = pure false := by rw [isSubtype_type]; kernel_rfl
section
variable {prog : Program} {w : World} {A : Around} {E : Value → Shared → Prop} {s : Shared} {M2 T2 M1 T1 I0 al : Addr} {vs : Array Value} {i : Nat}
theorem MapSt.ne (x : MapSt s.heap M2 T2 M1 T1 I0 al vs i) : M2 ≠ I0 ∧ T2 ≠ I0 ∧ M1 ≠ I0 ∧ T1 ≠ I0 ∧ al ≠ I0 := by
  obtain ⟨o, h1, h2, h3⟩ := x.it
  obtain ⟨ol, h4, h5, _⟩ := x.l
  refine ⟨fun e => ?_, fun e => ?_, fun e => ?_, fun e => ?_, fun e => ?_⟩
  · have := x.m2; rw [IsMap, e, h1] at this; cases this; simp at h2
  · have := x.t2; rw [IsOne, e, h1] at this; cases this; simp at h2
  · have := x.m1; rw [IsMap, e, h1] at this; cases this; simp at h2
  · have := x.t1; rw [IsOne, e, h1] at this; cases this; simp at h2
  · rw [e, h1] at h4; cases h4; rw [h2] at h5; simp at h5
theorem MapSt.next {h' : Heap} {j : Nat} (x : MapSt s.heap M2 T2 M1 T1 I0 al vs i) (it : h'.IsListIter I0 al j) (k : ∀ b o, b ≠ I0 → s.heap.get? b = some o → h'.get? b = some o) : MapSt h' M2 T2 M1 T1 I0 al vs j := by
  obtain ⟨n1, n2, n3, n4, n5⟩ := x.ne
  obtain ⟨o, q1, q2⟩ := x.l
  exact ⟨k _ _ n1 x.m2, k _ _ n2 x.t2, k _ _ n3 x.m1, k _ _ n4 x.t1, it, o, k _ _ n5 q1, q2⟩
theorem callInt1 {x : Str} {t : Tok} {n : Int} {Q : Value → Shared → Prop} (hn : PySem.intText? x = some n) (hl : x.length ≤ 640) (h : Q (.int n s.toks) { s with toks := s.toks + 1 }) : wpAny (model prog w) A (call (.type "int") [.str x t]) Q E s :=
  callType_new F.called_int F.newNe_int (F.typeCall_int_1 _) (F.newCall_int_1 _) (fun obj => by unfold argsOk; kernel_rfl) F.entry_int_new (KIN.gives_text hl hn).meets (show (Made.int n).post _ s from ⟨rfl, h⟩)
theorem maps_item (x : MapSt s.heap M2 T2 M1 T1 I0 al vs i) {y : Str} {t : Tok} (hv : vs[i]? = some (.str y t)) (hl : y.length ≤ 640) (ha : asciiS y = true) (hh : A.handled = none) (hsm : ∀ n, PySem.intText? y = some n → 0 ≤ n ∧ n < 100) {Q : Option Value → Shared → Prop}
    (hQ : ∀ n h' tk tt, PySem.intText? y = some n → h'.IsListIter I0 al (i + 1) → Heap.SameBut I0 s.heap h' → Q (some (.str (figures n.toNat) tt)) { s with heap := h', toks := tk })
    (hE : PySem.intText? y = none → ∀ h' e s', h'.IsListIter I0 al (i + 1) → Heap.SameBut I0 s.heap h' → Bad { s with heap := h' } e s' → E e s') : wpX true (model prog w) A (pyNext (.ref M2)) Q E s := by
  unfold pyNext
  refine wpX_bind (wpX_attempt (wpX_mono (mapNext_cl (Q := fun v s' => Q (some v) s') (E := fun e s' => (∃ o, (∃ a, e = .ref a ∧ s'.heap.get? a = some o) ∧ o.cls = .type "ValueError") ∧ E e s') x.m2 x.t2 ?_) (fun r s' q => ?_) fun e s' q => ?_))
  · unfold Builtin.SmallTypes.nextOf
    refine wpX_bind (wpX_mono (mapNext_cl (Q := fun v s₁ => IsMap s₁.heap M2 T2 (.type "str") ∧ wpX true (model prog w) A.in1 (call (.type "str") [v] []) (fun v s' => Q (some v) s') (fun e s' => (∃ o, (∃ a, e = .ref a ∧ s'.heap.get? a = some o) ∧ o.cls = .type "ValueError") ∧ E e s') s₁) x.m1 x.t1 ?_) (fun r s' q => ?_) fun e s' q => q)
    · refine .of (wpAny_nextOf_list_item x.it x.l hv fun h' it' sb => ?_)
      have x' := x.next it' fun b o hb => sb.extBut b o hb
      refine ⟨x'.m1, ?_⟩
      cases hn : PySem.intText? y with
      | some n =>
        refine .of (callInt1 hn hl ⟨x'.m2, .of ?_⟩)
        obtain ⟨q1, q2⟩ := hsm n hn
        refine str_of_int_fit (N := 100) (by split <;> (first | lia | omega)) (by (first | lia | omega)) fun _ => ?_
        have hf := figures_eq ⟨n.toNat, (Int.toNat_lt q1).mpr q2⟩
        rw [show ((n.toNat : Nat) : Int) = n from Int.toNat_of_nonneg q1] at hf
        rw [hf]
        exact hQ n h' _ _ hn it' sb
      | none =>
        refine callInt_bad (.inl rfl) hl ha hn hh fun e s' hb => ⟨?_, hE hn h' e s' it' sb hb⟩
        obtain ⟨a, h1, tk, args, rfl, rfl, hm⟩ := hb
        obtain ⟨tt, hea, ht0, htt⟩ := hm.there
        exact ⟨_, ⟨a, rfl, hea⟩, rfl⟩
    · obtain ⟨v, rfl, q⟩ := q
      exact wpX_pure q
  · obtain ⟨v, rfl, q⟩ := q
    exact wpX_pure q
  · obtain ⟨⟨o, ⟨a, rfl, q1⟩, q2⟩, q3⟩ := q
    refine wpX_then (wpAny_isInstance (T := "ValueError") (b := false) ⟨o, q1, q2⟩ sub_value_stop ?_)
    exact .of (wpAny_throw q3)
theorem maps_end (x : MapSt s.heap M2 T2 M1 T1 I0 al vs i) (hv : vs[i]? = none) (hh : A.handled = none) {Q : Option Value → Shared → Prop}
    (hQ : ∀ h', Heap.ExtBut I0 s.heap h' → Q none { s with heap := h' }) : wpX true (model prog w) A (pyNext (.ref M2)) Q E s := by
  unfold pyNext
  refine wpX_bind (wpX_attempt (wpX_mono (mapNext_cl (Q := fun v s' => False) (E := fun e s' => ∃ a o h', e = .ref a ∧ s' = { s with heap := h' } ∧ h'.get? a = some o ∧ o.cls = .type "StopIteration" ∧ Heap.ExtBut I0 s.heap h') x.m2 x.t2 ?_) (fun r s' q => ?_) fun e s' q => ?_))
  · unfold Builtin.SmallTypes.nextOf
    refine wpX_bind (wpX_mono (mapNext_cl (Q := fun v s₁ => False) x.m1 x.t1 ?_) (fun r s' q => ?_) fun e s' q => q)
    · refine .of (wpAny_nextOf_list_end hh x.it x.l hv fun h' e sb he => ?_)
      obtain ⟨o, h1, h2⟩ := he
      exact ⟨e, o, h', rfl, rfl, h1, h2, sb⟩
    · obtain ⟨v, rfl, q⟩ := q
      exact q.elim
  · obtain ⟨v, rfl, q⟩ := q
    exact q.elim
  · obtain ⟨a, o, h', rfl, rfl, q1, q2, q3⟩ := q
    refine wpX_then (wpAny_isInstance (T := "StopIteration") (b := true) ⟨o, q1, q2⟩ isSubtype_stop ?_)
    exact wpX_pure (hQ _ q3)
end
end Mine
namespace Mine
set_option genSizeOf false
set_option genInjectivity false
noncomputable def ReadAs (ys : List Str) (j : Nat) (v : Value) : Prop := ∃ y n tt, ys[j]? = some y ∧ PySem.intText? y = some n ∧ v = .str (figures n.toNat) tt
structure Texts (ys : List Str) (vs : Array Value) : Prop where
  size : vs.size = ys.length
  at_ : ∀ (j : Nat) (y : Str), ys[j]? = some y → ∃ t, vs[j]? = some (.str y t)
  ok : ∀ y ∈ ys, y.length ≤ 640 ∧ asciiS y = true ∧ ∀ n, PySem.intText? y = some n → 0 ≤ n ∧ n < 100
noncomputable abbrev IsSeqL (h : Heap) (S : Addr) (acc : Array Value) (c : Nat) : Prop := h.get? S = some { cls := .type "list", dict := none, data := .seq acc c, slots := #[] }
section
variable {prog : Program} {w : World} {A : Around} {E : Value → Shared → Prop} {R : Result → Shared → Prop} {M2 T2 M1 T1 I0 al S : Addr} {vs : Array Value} {ys : List Str}
theorem MapSt.neS {h : Heap} {i c : Nat} {acc : Array Value} (x : MapSt h M2 T2 M1 T1 I0 al vs i) (hS : IsSeqL h S acc c) : M2 ≠ S ∧ T2 ≠ S ∧ M1 ≠ S ∧ T1 ≠ S ∧ I0 ≠ S := by
  refine ⟨fun e => ?_, fun e => ?_, fun e => ?_, fun e => ?_, fun e => ?_⟩
  · have := x.m2; rw [IsMap, e, hS] at this; simp at this
  · have := x.t2; rw [IsOne, e, hS] at this; simp at this
  · have := x.m1; rw [IsMap, e, hS] at this; simp at this
  · have := x.t1; rw [IsOne, e, hS] at this; simp at this
  · obtain ⟨o, h1, h2, _⟩ := x.it; rw [e, hS] at h1; cases h1; simp at h2
theorem MapSt.upd {h h' : Heap} {i c : Nat} {acc : Array Value} (x : MapSt h M2 T2 M1 T1 I0 al vs i) (hS : IsSeqL h S acc c) (hal : al ≠ S) (k : ∀ b o, b ≠ S → h.get? b = some o → h'.get? b = some o) : MapSt h' M2 T2 M1 T1 I0 al vs i := by
  obtain ⟨n1, n2, n3, n4, n5⟩ := x.neS hS
  obtain ⟨o, q1, q2⟩ := x.l
  exact ⟨k _ _ n1 x.m2, k _ _ n2 x.t2, k _ _ n3 x.m1, k _ _ n4 x.t1, x.it.at fun o e => k _ o n5 e, o, k _ _ hal q1, q2⟩
theorem extend_maps (hX : Texts ys vs) (hn : ys.length ≤ sizeLine) (hal : al ≠ S) (hh : A.handled = none) (res : Value) : ∀ (k i : Nat) (s : Shared) (acc : Array Value) (c : Nat), ys.length - i = k → i ≤ ys.length → MapSt s.heap M2 T2 M1 T1 I0 al vs i → IsSeqL s.heap S acc c → ItemsOf (ReadAs ys) acc i →
    (∀ h' tk acc' c', (∀ b o, b ≠ I0 → b ≠ S → s.heap.get? b = some o → h'.get? b = some o) → IsSeqL h' S acc' c' → ItemsOf (ReadAs ys) acc' ys.length → R (.ok (.ret res)) { s with heap := h', toks := tk }) →
    ((∃ y ∈ ys, PySem.intText? y = none) → ∀ h' tk e s', (∀ b o, b ≠ I0 → b ≠ S → s.heap.get? b = some o → h'.get? b = some o) → Bad { s with heap := h', toks := tk } e s' → R (.error e) s') →
    codeX true (model prog w) A (.builtin "list.extend.loop" ⟨[.ref S, .ref M2, res], []⟩) R s := by
  intro k
  induction k with
  | zero =>
    intro i s acc c hk hi x hS hacc hQ hE
    have hin : i = ys.length := by (first | lia | omega)
    subst hin
    refine codeX_builtin F.entry_extend_loop ?_
    rw [Around.under_plainId F.plain_extend_loop _]
    show wpX true _ A.in1 (pyNext (.ref M2) >>= _) _ _ s
    refine wpX_bind (maps_end (A := A.in1) x (by rw [Array.getElem?_eq_none]; rw [hX.size]; exact Nat.le_refl _) hh fun h' sb => ?_)
    exact wpX_pure (hQ h' s.toks acc c (fun b o h1 _ e => sb _ _ h1 e) (sb _ _ (x.neS hS).2.2.2.2.symm hS) hacc)
  | succ k ih =>
    intro i s acc c hk hi x hS hacc hQ hE
    have hlt : i < ys.length := by (first | lia | omega)
    obtain ⟨y, hy⟩ : ∃ y, ys[i]? = some y := ⟨_, List.getElem?_eq_getElem hlt⟩
    have hm : y ∈ ys := List.mem_of_getElem? hy
    obtain ⟨t, hv⟩ := hX.at_ i y hy
    obtain ⟨o1, o2, o3⟩ := hX.ok y hm
    have nIS := (x.neS hS).2.2.2.2
    refine codeX_builtin F.entry_extend_loop ?_
    rw [Around.under_plainId F.plain_extend_loop _]
    show wpX true _ A.in1 (pyNext (.ref M2) >>= _) _ _ s
    refine wpX_bind (maps_item (A := A.in1) x hv o1 o2 hh o3 (fun n h' tk tt hr it sb => ?_) fun hr h' e s' it sb hb => ?_)
    · have x' := x.next it fun b o hb => sb.extBut b o hb
      have hS' : IsSeqL h' S acc c := sb.extBut _ _ nIS.symm hS
      show wpX true _ A.in1 (updateSeq S (·.push _) >>= _) _ _ _
      refine wpX_then (wpAny_updateSeq hS' rfl (wpX_pure ⟨plainId_quiet F.plain_extend_loop _, ?_⟩) (by rw [hacc.1]; (first | lia | omega)) (by show (acc.push _).size ≤ sizeLine + 1; rw [Array.size_push, hacc.1]; (first | lia | omega)))
      have kp : ∀ b o, b ≠ S → h'.get? b = some o → (h'.update S (Obj.mapSeq (·.push (Value.str (figures n.toNat) tt)))).get? b = some o := fun b o hb q => (Heap.get?_update_other _ _ (Ne.symm hb)).trans q
      refine ih (i + 1) _ (acc.push _) _ (by (first | lia | omega)) hlt (x'.upd hS' hal kp) (Heap.get?_update_self _ hS' rfl) (hacc.push ⟨y, n, tt, hy, hr, rfl⟩) (fun h2 tk2 acc2 c2 k2 hS2 ha2 => ?_) fun hb h2 tk2 e s2 k2 hb2 => ?_
      · exact hQ h2 tk2 acc2 c2 (fun b o h1 h3 q => k2 b o h1 h3 (kp b o h3 (sb.extBut b o h1 q))) hS2 ha2
      · exact hE hb h2 tk2 e s2 (fun b o h1 h3 q => k2 b o h1 h3 (kp b o h3 (sb.extBut b o h1 q))) hb2
    · exact hE ⟨y, hm, hr⟩ h' s.toks e s' (fun b o h1 _ q => sb.extBut b o h1 q) hb
end
section
variable {prog : Program} {w : World} {A : Around} {E : Value → Shared → Prop} {R : Result → Shared → Prop} {M2 T2 M1 T1 I0 al S : Addr} {vs : Array Value} {ys : List Str} {s : Shared}
theorem extendWith_maps (hX : Texts ys vs) (hn : ys.length ≤ sizeLine) (hal : al ≠ S) (hh : A.handled = none) (x : MapSt s.heap M2 T2 M1 T1 I0 al vs 0) (res : Value) {c₀ : Nat} (hS : IsSeqL s.heap S #[] c₀)
    (hQ : ∀ h' tk acc' c', (∀ b o, b ≠ I0 → b ≠ S → s.heap.get? b = some o → h'.get? b = some o) → IsSeqL h' S acc' c' → ItemsOf (ReadAs ys) acc' ys.length → R (.ok (.ret res)) { s with heap := h', toks := tk })
    (hE : (∃ y ∈ ys, PySem.intText? y = none) → ∀ h' tk e s', (∀ b o, b ≠ I0 → b ≠ S → s.heap.get? b = some o → h'.get? b = some o) → Bad { s with heap := h', toks := tk } e s' → R (.error e) s') :
    wpX true (model prog w) A.in1 (Builtin.List.listExtendWith (.ref S) (.ref M2) res)
      (fun fin s' => match fin with | .done f => R (.ok f) s' | .again c' => c'.quiet = true ∧ codeX true (model prog w) A c' R s') (fun e s' => R (.error e) s') s := by
  have hSI : S ≠ M2 := (x.neS hS).1.symm
  have hT : s.TypeIs (.ref M2) "map" := ⟨_, x.m2, rfl⟩
  unfold Builtin.List.listExtendWith
  refine wpX_then (wpAny_typeOf hT ?_)
  have h1 : Builtin.List.listSameRef (.ref S) (.ref M2) = false := by simp [Builtin.List.listSameRef, hSI]
  have h2 : (Value.type "map" == Value.type "list") = false := by decide
  have h3 : (Value.type "map" == Value.type "tuple") = false := by decide
  simp only [h1, h2, h3, Bool.or_false, Bool.false_eq_true, if_false]
  refine wpX_then (wpAny_pyIter_map x.m2 ?_)
  refine wpX_then (wpAny_holding ?_)
  unfold Builtin.List.listLengthHint
  refine wpAny_bind (wpAny_specialOf hT FM.map_no_len ?_)
  show wpAny _ A.in1 (specialOf (Value.ref M2) (Str.ofString "__length_hint__") >>= _) _ _ _
  refine wpAny_bind (wpAny_specialOf hT FM.map_no_hint ?_)
  refine wpAny_pure ?_
  show wpX true _ A.in1 (rule "list.extend.makes-room" >>= fun _ => Builtin.List.listTouch (.ref S) >>= fun _ =>
    again (.builtin "list.extend.loop" ⟨[.ref S, .ref M2, res], []⟩)) _ _ _
  refine wpX_then (wpAny_rule ?_)
  refine wpX_then ?_
  show wpAny _ A.in1 (updateSeq S (·.push .none) >>= fun _ => updateSeq S (·.pop)) _ _ _
  refine wpAny_bind (wpAny_updateSeq hS rfl ?_)
  have hS₂ := Heap.get?_update_self (Obj.mapSeq (·.push Value.none)) hS rfl
  refine wpAny_updateSeq (hz := by seq_fits) hS₂ rfl ?_
  have hS₃ := Heap.get?_update_self (Obj.mapSeq (·.pop)) hS₂ rfl
  have oth : ∀ b o, b ≠ S → s.heap.get? b = some o → ((s.heap.update S (Obj.mapSeq (·.push Value.none))).update S (Obj.mapSeq (·.pop))).get? b = some o :=
    fun b o hb e => (Heap.get?_update_other _ _ (Ne.symm hb)).trans ((Heap.get?_update_other _ _ (Ne.symm hb)).trans e)
  refine wpX_pure ⟨plainId_quiet F.plain_extend_loop _, extend_maps hX hn hal hh res _ 0 _ _ _ rfl (Nat.zero_le _) (x.upd hS hal oth) hS₃ (ItemsOf.nil _) (fun h' tk acc' c' hk hS' hacc => ?_) fun hb h' tk e s' hk hbad => ?_⟩
  · exact hQ h' tk acc' c' (fun b o q1 q2 q => hk b o q1 q2 (oth b o q2 q)) hS' hacc
  · exact hE hb h' tk e s' (fun b o q1 q2 q => hk b o q1 q2 (oth b o q2 q)) hbad
theorem list_init_maps (hX : Texts ys vs) (hn : ys.length ≤ sizeLine) (hal : al ≠ S) (hh : A.handled = none) (x : MapSt s.heap M2 T2 M1 T1 I0 al vs 0) {c₀ : Nat} (hS : IsSeqL s.heap S #[] c₀)
    (hQ : ∀ h' tk acc' c', (∀ b o, b ≠ I0 → b ≠ S → s.heap.get? b = some o → h'.get? b = some o) → IsSeqL h' S acc' c' → ItemsOf (ReadAs ys) acc' ys.length → R (.ok (.ret .none)) { s with heap := h', toks := tk })
    (hE : (∃ y ∈ ys, PySem.intText? y = none) → ∀ h' tk e s', (∀ b o, b ≠ I0 → b ≠ S → s.heap.get? b = some o → h'.get? b = some o) → Bad { s with heap := h', toks := tk } e s' → R (.error e) s') :
    wpX true (model prog w) A.in1 (Builtin.«list.__init__» ⟨[.ref S, .ref M2], []⟩)
      (fun fin s' => match fin with | .done f => R (.ok f) s' | .again c' => c'.quiet = true ∧ codeX true (model prog w) A c' R s') (fun e s' => R (.error e) s') s := by
  show wpX true _ A.in1 (do let old ← Builtin.List.listItems (.ref S); Builtin.List.listUpdate (.ref S) (fun _ => #[]); letGo old.toList.reverse; Builtin.List.listExtendWith (.ref S) (.ref M2) .none) _ _ s
  refine wpX_then ?_
  unfold Builtin.List.listItems
  refine wpAny_bind (wpAny_seqItems hS rfl (wpAny_pure ?_))
  show wpX true _ A.in1 (updateSeq S (fun _ => #[]) >>= fun _ => letGo (#[] : Array Value).toList.reverse >>= fun _ => Builtin.List.listExtendWith (.ref S) (.ref M2) .none) _ _ s
  refine wpX_then (wpAny_updateSeq hS rfl ?_)
  have hS₂ := Heap.get?_update_self (Obj.mapSeq (fun _ => (#[] : Array Value))) hS rfl
  have oth : ∀ b o, b ≠ S → s.heap.get? b = some o → (s.heap.update S (Obj.mapSeq (fun _ => (#[] : Array Value)))).get? b = some o :=
    fun b o hb e => (Heap.get?_update_other _ _ (Ne.symm hb)).trans e
  refine wpX_then (wpAny_letGo ?_)
  refine extendWith_maps hX hn hal hh (x.upd hS hal oth) .none hS₂ (fun h' tk acc' c' hk hS' hacc => ?_) fun hb h' tk e s' hk hbad => ?_
  · exact hQ h' tk acc' c' (fun b o q1 q2 q => hk b o q1 q2 (oth b o q2 q)) hS' hacc
  · exact hE hb h' tk e s' (fun b o q1 q2 q => hk b o q1 q2 (oth b o q2 q)) hbad
theorem call_list_maps {Q : Value → Shared → Prop} (hX : Texts ys vs) (hn : ys.length ≤ sizeLine) (hh : A.handled = none) (x : MapSt s.heap M2 T2 M1 T1 I0 al vs 0)
    (hQ : ∀ h' tk acc' c', (∀ b o, b ≠ I0 → s.heap.get? b = some o → h'.get? b = some o) → IsSeqL h' s.heap.objs.size acc' c' → ItemsOf (ReadAs ys) acc' ys.length → Q (.ref s.heap.objs.size) { s with heap := h', toks := tk })
    (hE : (∃ y ∈ ys, PySem.intText? y = none) → ∀ h' tk e s', (∀ b o, b ≠ I0 → s.heap.get? b = some o → h'.get? b = some o) → Bad { s with heap := h', toks := tk } e s' → E e s') :
    wpX true (model prog w) A (call (.type "list") [.ref M2]) Q E s := by
  obtain ⟨c, tl, hmro⟩ := F.called_list.mro
  have hmade := F.called_list.made
  have h1 := F.called_list.notType
  have h2 := F.called_list.canCreate
  have hct := F.typeCall_list_1 (.ref M2)
  have lt : ∀ {b o}, s.heap.get? b = some o → b ≠ s.heap.objs.size := fun e h => by rw [h] at e; exact absurd (Heap.lt_size e) (Nat.lt_irrefl _)
  have hk0 : ∀ b o, s.heap.get? b = some o → (s.heap.push { cls := .type "list", data := .seq #[] }).get? b = some o := fun b o e => Heap.get?_push_of_some _ e
  have hS : IsSeqL (s.heap.push { cls := .type "list", data := .seq #[] }) s.heap.objs.size #[] 0 := Heap.get?_push_size _ rfl
  have x' : MapSt (s.heap.push { cls := .type "list", data := .seq #[] }) M2 T2 M1 T1 I0 al vs 0 := x.next (x.it.at fun o e => hk0 _ o e) fun b o _ e => hk0 b o e
  refine wpX_call (codeX_of_tree ?_)
  show wpX true _ _ (callAny (.type "list") _) _ _ _
  refine wpX_pure ⟨Code.quiet_builtin _ (by decide +kernel), codeX_builtin F.entry_type_call ?_⟩
  rw [Around.under_plain (weight_type_call_type "list" [.ref M2] []) (units_type_call_type "list" [.ref M2] [])]
  unfold Builtin.«type.__call__»
  dsimp only
  simp only [h1, h2, hct, hmro, hmade, pure_bind, Bool.false_eq_true, if_false, List.isEmpty_cons]
  refine wpX_then (wpAny_holding (wpAny_call (codeAny_mono (code_list_new (E := fun _ _ => False) (Q₁ := fun obj s₁ => obj = .ref s.heap.objs.size ∧ s₁ = { s with heap := s.heap.push { cls := .type "list", data := .seq #[] } }) (.ref M2) ⟨rfl, rfl⟩) fun r s₁ hr => ?_)))
  cases r with
  | error e => exact hr.elim
  | ok fl =>
    cases fl with
    | ret obj =>
      obtain ⟨rfl, rfl⟩ := hr
      have hT : Shared.TypeIs { s with heap := s.heap.push { cls := .type "list", data := .seq #[] } } (.ref s.heap.objs.size) "list" := ⟨_, hS, rfl⟩
      dsimp only
      refine wpX_then (wpAny_isInstance (T := "list") (b := true) hT sub_list_self ?_)
      simp only [Bool.not_true, Bool.false_eq_true, if_false, pure_bind]
      refine wpX_bind (wpX_holding (callSpecial_X hT F.slot_list_init (wpX_call (codeX_mono (R := wants (fun r s₂ => r = .none ∧ Q (.ref s.heap.objs.size) s₂) E) (codeX_of_tree ?_) fun r s₂ hr => ?_))))
      · show wpX true _ _ (do checkBuiltinCall "list.__init__" ⟨[.ref s.heap.objs.size, .ref M2], []⟩; again (.builtin "list.__init__" ⟨[.ref s.heap.objs.size, .ref M2], []⟩)) _ _ _
        refine wpX_then (F.slot_list_init.check _ _ _ _ _ _ _ _ hT (F.args_list_init_2 _ _) ?_)
        refine wpX_pure ⟨plainId_quiet F.slot_list_init.plain _, codeX_builtin F.entry_list_init ?_⟩
        rw [Around.under_plainId F.slot_list_init.plain _]
        obtain ⟨oa, ga, _⟩ := id x.l
        refine list_init_maps (A := A.in1) (R := wants (fun r s₂ => r = .none ∧ Q (.ref s.heap.objs.size) s₂) E) (s := { s with heap := s.heap.push { cls := .type "list", data := .seq #[] } }) hX hn (lt ga) hh x' hS (fun h' tk acc' c' hk hS' hacc => ?_) fun hb h' tk e s' hk hbad => ?_
        · exact ⟨rfl, hQ h' tk acc' c' (fun b o q1 q => hk b o q1 (lt q) (hk0 b o q)) hS' hacc⟩
        · exact hE hb h' tk e s' (fun b o q1 q => hk b o q1 (lt q) (hk0 b o q)) hbad
      · cases r with
        | error e => exact hr
        | ok fl₂ =>
          cases fl₂ with
          | ret r =>
            obtain ⟨rfl, hq⟩ := hr
            dsimp only
            exact wpX_pure hq
          | _ => exact hr.elim
    | _ => exact hr.elim
end
end Mine
namespace Mine
set_option genSizeOf false
set_option genInjectivity false
noncomputable def Raises (W : Ws) (sc : Scope) (ss : List Stmt) (ρ : Loc) (σ : Sto) : Prop :=
  ∀ {F : Fr W} {stk : List Pend} {as : Option Addr} {s₀ : Shared}, F.env.scope = sc → F.ro = false → F.Cl → Calm stk → Inv F ρ σ stk as s₀ → wpX true W.M F.A (execs ss F.env) (fun _ _ => False) (fun e s' => ∃ s₁, Inv F ρ σ stk as s₁ ∧ Bad s₁ e s') s₀
noncomputable def Hnd (W : Ws) (sc : Scope) (ss : List Stmt) (ρ : Loc) (σ : Sto) (ρ' : Loc) : Prop :=
  ∀ {F : Fr W} {stk : List Pend} {as : Option Addr} {s₀ : Shared} {A : Around}, F.env.scope = sc → F.ro = false → Calm stk → Inv F ρ σ stk as s₀ → wpAny W.M A (execs ss F.env) (fun f s => f = .next ∧ Inv F ρ' σ stk as s) NoE s₀
section
variable {W : Ws} {F : Fr W} {sc : Scope} {ρ ρ' : Loc} {σ σ' : Sto} {stk : List Pend} {as : Option Addr} {s s' : Shared} {ss body : List Stmt} {st : Stmt} {x ve : Str} {p xp vp hp pos : Pos} {e : Value} {h₀ : ExceptHandler} {hs : List ExceptHandler} {fl : Fl}
theorem funFrames_of {base h' : Heap} (l : List Env) : FrStat l → (∀ a ∈ framesOf l, base.get? a = none ∧ ∃ o, h'.get? a = some o ∧ ∀ vs, o.data ≠ .fields vs) → h'.FunFrames base l := by
  induction l with
  | nil => exact fun _ _ => trivial
  | cons e l ih =>
    intro h2 h3
    obtain ⟨hk, L, hL⟩ := h2 e List.mem_cons_self
    have hm : ∀ a, a ∈ framesOf l → a ∈ framesOf (e :: l) := fun a q => by
      show a ∈ List.filterMap _ (e :: l)
      rw [List.filterMap_cons, hL]; exact List.mem_cons_of_mem _ q
    obtain ⟨q1, o, q2, q3⟩ := h3 L (by show L ∈ List.filterMap _ (e :: l); rw [List.filterMap_cons, hL]; exact List.mem_cons_self)
    exact ⟨hk, ⟨L, o, hL, q1, q2, q3⟩, ih (fun e' he' => h2 e' (List.mem_cons_of_mem _ he')) fun a q => h3 a (hm a q)⟩
theorem Inv.caught (I : Inv F ρ σ stk as s) (T : F.Cl) (hb : Bad s e s') (hg : gloQ F.env.scope ve = true) (hve : GlobV W ve (.ty "ValueError")) {b₀ : Stmt} {suite : List Stmt} {Q : Flow → Shared → Prop}
    (h : ∀ s₃, Inv F ρ σ stk as s₃ → wpAny W.M (F.A.mark (some e)) (execs (b₀ :: suite) F.env) Q NoE s₃) :
    wpAny W.M F.A (noteFrame e F.env) (fun _ s₂ => wpAny W.M F.A (setFlight e none) (fun _ s₃ => wpAny W.M F.A (handleBy e F.env [.ExceptHandler (some (.Name ve vp)) none (b₀ :: suite) pos]) Q NoE s₃) NoE s₂) NoE s' := by
  obtain ⟨a, h1, tk, args, rfl, rfl, hm⟩ := hb
  obtain ⟨t, hea, ht0, htt⟩ := hm.there
  obtain ⟨tl, ho⟩ := T.top
  have hF : ∀ b ∈ framesOf F.outer, (hideAll s.heap (framesOf F.outer)).get? b = none ∧ ∃ o, h1.get? b = some o ∧ ∀ vs, o.data ≠ .fields vs := fun b hb => by
    obtain ⟨o, es, n, q1, q2⟩ := (I.fs b hb).1
    exact ⟨hideAll_none _ hb, o, hm.keeps b o q1, fun vs q => by rw [q2] at q; cases q⟩
  have hl := funFrames_of (base := hideAll s.heap (framesOf F.outer)) (h' := h1) F.outer T.stat hF
  have hkb : (hideAll s.heap (framesOf F.outer)).StaysIn h1 := fun b o q => hm.keeps b o (of_hideAll _ q)
  have hen : (hideAll s.heap (framesOf F.outer)).get? a = none := by
    cases q : (hideAll s.heap (framesOf F.outer)).get? a with
    | none => rfl
    | some o => have := of_hideAll _ q; rw [hm.new] at this; cases this
  unfold noteFrame
  rw [T.self]
  refine wpAny_bind (wpAny_field (x := .none) hea rfl rfl ?_)
  rw [if_neg (by decide)]
  refine wpAny_newEntry (ho ▸ T.frames) (ho ▸ hl) T.self hea hkb hen rfl (Nat.lt_of_sub_pos (Nat.zero_lt_succ 4) : 1 < 6) fun h2 hL => ?_
  rw [← ho] at hL
  obtain ⟨k1, k2, ⟨oe, vs, Tb, oT, ts, e1, e2, e3, e4, e5, e6, e7, e8, e9⟩, k4⟩ := hL
  have hsz : 3 < ts.size := (Array.getElem?_eq_some_iff.mp e9).1
  have hTF : Tb ∉ framesOf F.outer := fun q => by
    obtain ⟨o, es, n, q1, q2⟩ := (I.fs Tb q).1
    obtain ⟨sl, q3⟩ := k4 Tb o (hm.keeps _ _ q1) fun vs q => by rw [q2] at q; cases q
    obtain rfl := Option.some.inj (e7.symm.trans q3)
    rw [show Obj.data { o with slots := sl } = o.data from rfl, q2] at e8; cases e8
  have G2 : ∀ (h3 : Heap) (tk3 : Nat), (∀ b o, b ≠ Tb → h2.get? b = some o → h3.get? b = some o) → GrowS W.B (framesOf F.outer) s { s with heap := h3, toks := tk3 } := fun h3 tk3 kp => by
    have keep : ∀ b o, b ∉ framesOf F.outer → s.heap.get? b = some o → h3.get? b = some o := fun b o hbF q => by
      have q1 := hideAll_get _ q hbF
      exact kp b o (fun z => by rw [z, e5] at q1; cases q1) (k1 b o q1)
    refine ⟨h3, tk3, rfl, fun b o hbF _ q => keep b o hbF q, fun b hb o q => ?_, fun ti => W.O.tiW (· ∈ framesOf F.outer) s.heap h3 (fun b o hb q => .inl fun vs z => ?_) (fun b o hb q => keep b o hb q) ti⟩
    · obtain ⟨o', es, n, q1, q2⟩ := (I.fs b hb).1
      obtain rfl := Option.some.inj (q.symm.trans q1)
      obtain ⟨sl, q3⟩ := k4 b o (hm.keeps _ _ q) fun vs z => by rw [q2] at z; cases z
      exact ⟨sl, kp b _ (fun z => hTF (z ▸ hb)) q3⟩
    · obtain ⟨o', es, n, q1, q2⟩ := (I.fs b hb).1
      obtain rfl := Option.some.inj (q.symm.trans q1)
      rw [q2] at z; cases z
  refine wpAny_mono (E := NoE) (wpAny_handleBy_builtin (X := "ValueError") (T := "ValueError") (b := true) (by rw [isSubtype_type]; kernel_rfl) (by rw [isSubtype_type]; kernel_rfl) (by rw [isSubtype_type]; kernel_rfl) (wpAny_mono (E := NoE) ?_ (fun _ _ q => q) fun _ _ q => q.elim)) (fun _ _ q => q) fun _ _ q => q.elim
  refine (I.growS T (G2 h2 tk fun b o _ q => q)).loadG hg hve fun v hv => ?_
  obtain rfl := Rel.ty' (hv (ok := fun _ => True))
  refine ⟨rfl, ⟨oe, e1, e2⟩, ?_⟩
  rw [if_pos rfl]
  refine wpAny_setFlight_none e1 e3 e4 e7 e8 hsz (wpAny_mono (E := NoE) (h _ (I.growS T (G2 _ tk fun b o hb q => (Heap.get?_update_other _ _ (Ne.symm hb)).trans q))) (fun _ _ q => q) fun _ _ q => q.elim)
theorem Ex.tryOk (h : Exs true W sc body ρ σ .next ρ' σ') : Ex true W sc (.Try body (h₀ :: hs) [] [] pos) ρ σ .next ρ' σ' := fun hs hr hc hk I => try_X (goX (h hs hr hc hk I) fun f s d => d)
theorem Ex.tryBad {b₀ : Stmt} {suite : List Stmt} (hg : gloQ sc ve = true) (hve : GlobV W ve (.ty "ValueError")) (h1 : Raises W sc body ρ σ) (h2 : Hnd W sc (b₀ :: suite) ρ σ ρ') : Ex true W sc (.Try body [.ExceptHandler (some (.Name ve vp)) none (b₀ :: suite) hp] [] [] pos) ρ σ .next ρ' σ := fun hs hr hc hk I =>
  try_X (wpX_mono (h1 hs hr (hc rfl) hk I) (fun _ _ q => q.elim) fun e s' q => q.elim fun s₁ q => q.1.caught (hc rfl) q.2 (hs ▸ hg) hve fun s₃ J => h2 hs hr hk J)
end
end Mine
namespace Mine
set_option genSizeOf false
set_option genInjectivity false
theorem type_dget : typeOf (.builtin "dict.get") = pure (.type "method_descriptor") := by show builtinType _ = _; rw [builtinType_eq_fast]; kernel_rfl
noncomputable def StagesOk (W : Ws) : Prop := ∃ f, W.B.g.MapOf (PySem.strKind W.prog W.w) 103 f ∧ f (Str.ofString "x") = none
section
variable {W : Ws} {F : Fr W} {sc : Scope} {ρ ρ' : Loc} {σ σ' : Sto} {stk : List Pend} {as : Option Addr} {s s' : Shared} {x v t o y : Str} {p xp vp tp op ap kp cp p1 p2 p3 p4 p5 p6 p7 p8 pos : Pos} {k : Nat} {i : Int} {q : PV} {r : RV} {ys : List Str} {A : Around} {E : Value → Shared → Prop} {rest : List Stmt} {l : List PV} {z : Str} {n1 n2 n3 n4 n5 : Str}
theorem Inv.loadGA {Q : Value → Shared → Prop} (I : Inv F ρ σ stk as s) (hq : gloQ F.env.scope x = true) (e : GlobV W x q) (hQ : ∀ v, (∀ {ok}, Rel ok s.heap v q) → Q v s) : wpAny W.M A (eval (.Name x pos) F.env) Q E s := by
  obtain ⟨v, hr, h⟩ := e
  unfold gloQ at hq
  rw [Bool.and_eq_true] at hq
  have hQ := hQ v (hr.step fun _ _ _ _ _ _ q => q.elim)
  have n1 : s.heap.Ns F.env.globals W.B.mg := F.gl ▸ W.O.g1.keeps I.glob.1
  refine Name_function_global F.kind (eq_of_beq hq.2) ?_ (Bool.not_eq_true' _ ▸ hq.1)
  rcases h with h | ⟨h1, h2⟩
  · exact loadGlobal_global n1 h hQ
  · exact loadGlobal_builtin n1 h1 (F.bu ▸ W.O.b1.keeps I.glob.1) h2 hQ
theorem hnd_get (S : StagesOk W) (ho : gloQ sc o = true) (hg : GlobV W o (.obj 103)) (hv : locQ sc v = true) (hv' : ρ.lookup v = some (.val (.str (Str.ofString "x")))) (ht : stoQ sc t = true) (hl : (ap.endLine == cp.line) = true) :
    Hnd W sc [.Assign [.Name t tp] (.Call (.Attribute (.Name o op) (Str.ofString "get") ap) [.Name v vp, .Constant (.int 0) k kp] [] cp) p] ρ σ (setP t (.val (.int 0)) ρ) := fun {F stk as s A} hs hro hk I => by
  obtain ⟨f, hm, hx⟩ := S
  obtain ⟨ob, es, ep, e1, hex, hd, hkd⟩ := id hm
  refine wpAny_execs_cons (wpAny_Assign_Name (wpAny_Call_method rfl rfl hl PySem.F.plainAttrs_dict PySem.F.slot_dict_get type_dget (I.loadGA (hs ▸ ho) hg fun ov ro => ?_)) rfl)
  obtain rfl := Rel.obj' (ro (ok := fun _ => True))
  have e2 := I.glob.1 _ _ e1
  refine ⟨⟨ob, e2, hex.1⟩, fun b e => ⟨ob, Value.ref.inj e ▸ e2, hex.2.1⟩, Calls.callWith_builtin rfl (evalArgs_any rfl (wpAny_items_cons (I.load (hs ▸ hv) hv' fun w rw => wpAny_items_cons (wpAny_Constant_int (wpAny_items_nil ?_)))))⟩
  obtain ⟨tt, rfl⟩ := Rel.str' (show Rel _ _ w (.str _) from rw)
  have hm' : s.heap.MapOf (PySem.strKind W.prog W.w) 103 f := ⟨ob, es, ep, e2, hex, hd, hkd⟩
  refine call_meetsIn PySem.F.slot_dict_get hm'.typeIs PySem.F.entry_dict_get (PySem.F.args_dict_get_3 _ _ _) (meets_dict_get_default (k := Str.ofString "x") (PySem.strKind W.prog W.w) 103 (key := .str (Str.ofString "x") tt) (by simp [PySem.strKind, Value.isStrOf]) (by decide) (.int 0 s.toks)) ⟨f, hm', ?_⟩
  rw [hx]
  exact go ((((I.toks (s.toks + 1 + 1)).push (.int _ _)) : Inv F ρ σ (.one (.int 0 s.toks) (.val (.int 0)) :: stk) as _).put (hs ▸ ht) hro) fun _ _ J => wpAny_execs_nil ⟨rfl, J⟩
theorem hnd_name (hx : locQ sc x = true) (hx' : ρ.lookup x = some r) (hy : stoQ sc y = true) : Hnd W sc [.Assign [.Name y tp] (.Name x xp) p] ρ σ (setP y r ρ) := fun {F stk as s A} hs hro hk I =>
  wpAny_execs_cons (wpAny_Assign_Name (I.load (hs ▸ hx) hx' fun v rv => go ((I.stk' fun k => ⟨rv, k⟩ : Inv F ρ σ (.one v r :: stk) as s).put (hs ▸ hy) hro) fun _ _ J => wpAny_execs_nil ⟨rfl, J⟩) rfl)
theorem callWith_type_X {c : Bool} {M : Model} {T : String} {args : List (Bool × Sem Value)} {Q : Value → Shared → Prop} (hplain : args.any (·.1) = false)
    (h : wpAny M A (evalArgs (.type T) true args []) (fun a s₁ => wpX c M A (call (.type T) a.pos a.kw) Q E s₁) E s) : wpX c M A (callWith pos (.type T) [] args []) Q E s := by
  unfold callWith
  refine wpX_then (wpAny_holding (wpAny_mono h (fun a s₁ h₁ => wpX_stand ?_) fun _ _ x => x))
  simp only [hplain, List.any_nil, Bool.or_false]
  exact wpX_bind (wpX_pure (wpX_bind (wpX_mono h₁ (fun r s₂ hr => .of (wpAny_bind (wpAny_holding (wpAny_point (wpAny_pure hr))))) fun _ _ x => x)))
theorem int10_ok (hn : PySem.intText? z = some i) (hl : z.length ≤ 640) : OpN W (fun vs => call (.type "int") vs []) [.str z, .int 10] (.int i) := fun C rs => by
  obtain ⟨a, ws, rfl, ra, rs⟩ := rs.cons'
  obtain ⟨b, ws, rfl, rb, rs⟩ := rs.cons'
  obtain rfl := rs.nil'
  obtain ⟨t, rfl⟩ := Rel.str' (show Rel _ _ a (.str _) from ra)
  obtain ⟨u, rfl⟩ := Rel.int' (show Rel _ _ b (.int _) from rb)
  exact callInt10 hn hl (outV (.int _ _))
theorem raises_int (hx : stoQ sc v = true) (hf : gloQ sc n1 = true) (hg : GlobV W n1 (.ty "int")) (hv : locQ sc v = true) (hv' : ρ.lookup v = some (.val (.str z))) (hn : PySem.intText? z = none) (hl : z.length ≤ 640) (ha : asciiS z = true) :
    Raises W sc (.Assign [.Name v xp] (.Call (.Name n1 p1) [.Name v vp, .Constant (.int 10) k kp] [] cp) p :: rest) ρ σ := fun {F stk as s} hs hro hc hk I =>
  execs_X (assignName_X (evalCall_X (I.loadG (hs ▸ hf) hg fun fv rf => by
    obtain rfl := Rel.ty' (rf (ok := fun _ => True))
    refine callWith_type_X rfl (evalArgs_any rfl (wpAny_items_cons (I.load (hs ▸ hv) hv' fun w rw => wpAny_items_cons (wpAny_Constant_int (wpAny_items_nil ?_)))))
    obtain ⟨tt, rfl⟩ := Rel.str' (show Rel _ _ w (.str _) from rw)
    exact callInt_bad (.inr ⟨_, rfl⟩) hl ha hn F.room.handled fun e s' hb => ⟨_, I.toks (s.toks + 1), hb⟩)) rfl)
end
end Mine
namespace Mine
set_option genSizeOf false
set_option genInjectivity false
noncomputable def reStr (y : Str) : Str := figures ((PySem.intText? y).getD 0).toNat
noncomputable def okText (y : Str) : Bool := decide (y.length ≤ 640) && asciiS y && (match PySem.intText? y with | some n => decide (0 ≤ n) && decide (n < 100) | none => true)
section
variable {W : Ws} {F : Fr W} {sc : Scope} {ρ ρ' : Loc} {σ σ' : Sto} {stk : List Pend} {as : Option Addr} {s s' : Shared} {x y : Str} {p xp yp p1 p2 p3 p4 p5 p6 p7 p8 : Pos} {ys : List Str} {E : Value → Shared → Prop} {rest : List Stmt} {n1 n2 n3 n4 : Str} {ok : Addr → Prop} {h : Heap} {acc : Array Value} {a : Addr}
theorem rels_of {zs : List Str} : ∀ {vs : List Value}, vs.length = zs.length → (∀ (j : Nat) (v : Value), vs[j]? = some v → ReadAs zs j v) → Rels ok h vs (zs.map fun y => .str (reStr y)) ∧ ∀ y ∈ zs, (PySem.intText? y).isSome = true := by
  induction zs with
  | nil => intro vs hl _; cases vs with
    | nil => exact ⟨.nil, nofun⟩
    | cons => cases hl
  | cons z zs ih =>
    intro vs hl hh
    cases vs with
    | nil => cases hl
    | cons v vs =>
      obtain ⟨y, n, tt, h1, h2, rfl⟩ := hh 0 v rfl
      obtain rfl := Option.some.inj h1
      have := ih (Nat.succ.inj hl) fun j v hj => (hh (j + 1) v hj).elim fun y q => q.elim fun n q => q.elim fun tt q => ⟨y, n, tt, q⟩
      refine ⟨?_, fun y hy => (List.mem_cons.mp hy).elim (fun e => by rw [e, h2]; rfl) (this.2 y)⟩
      rw [List.map_cons, reStr, h2]
      exact .cons (.str _ _) this.1
theorem texts_of (r : Rels ok h acc.toList (ys.map .str)) (hall : ys.all okText = true) : Texts ys acc := by
  refine ⟨by have := r.length; rw [List.length_map] at this; exact this, fun j y e => ?_, fun y hy => ?_⟩
  · obtain ⟨v, e1, rv⟩ := r.get (i := j) (p := .str y) (by rw [List.getElem?_map, e]; rfl)
    obtain ⟨t, rfl⟩ := Rel.str' rv
    exact ⟨t, by rw [← Array.getElem?_toList]; exact e1⟩
  · have := List.all_eq_true.mp hall y hy
    rw [okText, Bool.and_eq_true, Bool.and_eq_true] at this
    refine ⟨of_decide_eq_true this.1.1, this.1.2, fun n hn => ?_⟩
    have h3 := this.2
    rw [hn] at h3
    exact ⟨of_decide_eq_true (and1 h3), of_decide_eq_true (and2 h3)⟩
theorem Inv.maps (I : Inv F ρ (some (ys.map .str)) stk (some a) s) (hs : F.env.scope = sc) (q1 : gloQ sc n1 = true) (g1 : GlobV W n1 (.ty "list")) (q2 : gloQ sc n2 = true) (g2 : GlobV W n2 (.ty "map")) (q3 : gloQ sc n3 = true) (g3 : GlobV W n3 (.ty "str")) (q4 : gloQ sc n4 = true) (g4 : GlobV W n4 (.ty "int"))
    (hx : locQ sc x = true) (hx' : ρ.lookup x = some .own) (hlen : ys.length ≤ 1000) (hall : ys.all okText = true) {Q : Value → Shared → Prop}
    (hQ : (∀ y ∈ ys, (PySem.intText? y).isSome = true) → ∀ v s', Inv F ρ (some (ys.map .str)) (.one v (.val (.lst (ys.map fun y => .str (reStr y)))) :: stk) (some a) s' → Q v s')
    (hE : (∃ y ∈ ys, PySem.intText? y = none) → ∀ s₁ e s', Inv F ρ (some (ys.map .str)) stk (some a) s₁ → Bad s₁ e s' → E e s') :
    wpX true W.M F.A (eval (.Call (.Name n1 p1) [.Call (.Name n2 p2) [.Name n3 p3, .Call (.Name n2 p4) [.Name n4 p5, .Name x xp] [] p6] [] p7] [] p8) F.env) Q E s := by
  refine evalCall_X (I.loadGA (hs ▸ q1) g1 fun fv rf => ?_)
  obtain rfl := Rel.ty' (rf (ok := fun _ => True))
  refine callWith_type_X rfl (evalArgs_any rfl (wpAny_items_cons (wpAny_Call_NameR (I.loadGA (hs ▸ q2) g2 fun fv rf => ?_))))
  obtain rfl := Rel.ty' (rf (ok := fun _ => True))
  refine PySem.callWith_type rfl (evalArgs_any rfl (wpAny_items_cons (I.loadGA (hs ▸ q3) g3 fun fv rf => wpAny_items_cons (wpAny_Call_NameR (I.loadGA (hs ▸ q2) g2 fun fv' rf' => ?_)))))
  obtain rfl := Rel.ty' (rf (ok := fun _ => True))
  obtain rfl := Rel.ty' (rf' (ok := fun _ => True))
  refine PySem.callWith_type rfl (evalArgs_any rfl (wpAny_items_cons (I.loadGA (hs ▸ q4) g4 fun fv rf => wpAny_items_cons (I.load (hs ▸ hx) hx' fun v rv => wpAny_items_nil ?_))))
  obtain rfl := Rel.ty' (rf (ok := fun _ => True))
  obtain ⟨b, hb, rfl⟩ := rv
  obtain rfl := Option.some.inj hb
  obtain ⟨vs, n, e, r⟩ := I.ownIs
  have hL : s.heap.IsList a vs.toArray := ⟨_, e, rfl, n, rfl⟩
  have hX : Texts ys vs.toArray := texts_of r hall
  refine call_map_list hL fun h1 m1 o1 it1 z1 k1 => wpAny_items_nil (call_map_map (s := { s with heap := h1 }) m1 fun h2 m2 o2 z2 k2 => wpAny_items_nil ?_)
  have St : MapSt h2 (h1.objs.size + 1) h1.objs.size (s.heap.objs.size + 2) (s.heap.objs.size + 1) s.heap.objs.size a vs.toArray 0 :=
    ⟨m2, o2, k2 _ _ m1, k2 _ _ o1, it1.at fun o e => k2 _ o e, _, k2 _ _ (k1 _ _ e), rfl, n, rfl⟩
  have lt : ∀ {b o}, s.heap.get? b = some o → b ≠ s.heap.objs.size := fun e h => by rw [h] at e; exact absurd (Heap.lt_size e) (Nat.lt_irrefl _)
  refine call_list_maps (s := { s with heap := h2 }) hX (Nat.le_trans hlen (by decide +kernel)) F.room.handled St (fun h3 tk acc' c' hk hS' hacc => ?_) fun hbad h3 tk ee s' hk hb => hE hbad _ ee s' (I.grow (s' := { s with heap := h3, toks := tk }) (grow_all fun b o q => hk b o (lt q) (k2 _ _ (k1 _ _ q)))) hb
  obtain ⟨r, hg⟩ := rels_of (ok := F.dat (some a)) (h := h3) (zs := ys) (vs := acc'.toList) hacc.1 fun j v hj => hacc.2 j v (by rw [← Array.getElem?_toList]; exact hj)
  have hnew : s.heap.get? h2.objs.size = none := by
    cases q : s.heap.get? h2.objs.size with
    | none => rfl
    | some o => exact absurd (Heap.lt_size (k2 _ _ (k1 _ _ q))) (Nat.lt_irrefl _)
  exact hQ hg _ _ ((I.grow (s' := { s with heap := h3, toks := tk }) (grow_all fun b o q => hk b o (lt q) (k2 _ _ (k1 _ _ q)))).stk' fun k => ⟨Rel.lst (vs := acc'.toList) (I.fresh hnew) ⟨_, hS', rfl, c', rfl⟩ r, k⟩)
end
end Mine
namespace Mine
set_option genSizeOf false
set_option genInjectivity false
open Builtin.Str StrLaws
noncomputable def txt (l : List Nat) : Str := ⟨l.toArray⟩
theorem txt_len (l : List Nat) : (txt l).length = l.length := by simp [txt, Str.length]
theorem txt_size (l : List Nat) : (txt l).cps.size = l.length := by simp [txt]
theorem txt_list (l : List Nat) : (txt l).cps.toList = l := by simp [txt]
theorem txt_app (a b : List Nat) : txt a ++ txt b = txt (a ++ b) := by
  show (⟨a.toArray ++ b.toArray⟩ : Str) = _
  simp [txt]
theorem txt_of (x : Str) : x = txt x.cps.toList := by
  obtain ⟨c⟩ := x
  simp [txt]
theorem txt_inj {a b : List Nat} (h : txt a = txt b) : a = b := by rw [← txt_list a, ← txt_list b, h]
noncomputable def joinT (y : List Nat) : List (List Nat) → List Nat
  | [] => []
  | [p] => p
  | p :: q :: r => p ++ y ++ joinT y (q :: r)
theorem join_txt (y : List Nat) : ∀ (ps : List (List Nat)), Txt.join (txt y) (ps.map txt) = txt (joinT y ps) := by
  intro ps
  rw [show Txt.join (txt y) (ps.map txt) = Str.join (txt y) (ps.map txt) from glued_eq_join _ _]
  induction ps with
  | nil => rfl
  | cons p r ih =>
    cases r with
    | nil => rfl
    | cons q r =>
      show txt p ++ txt y ++ Str.join (txt y) ((q :: r).map txt) = _
      rw [ih, txt_app, txt_app, joinT]
theorem joinOk_txt {y : List Nat} {ps : List (List Nat)} (h : (ps.map List.length).sum + ps.length * y.length ≤ sizeLine) : JoinOk (txt y) (ps.map txt) = true := by
  unfold JoinOk
  rw [joinTotal, List.map_map, List.length_map, txt_len]
  rw [show (fun x : Str => x.length) ∘ txt = List.length from funext fun l => txt_len l]
  simp [Builtin.Str.tooLong]
  exact h
section
variable {c : Nat} {ys : List Nat} {x : Str}
theorem at_head {k : Nat} (h : At x (txt (c :: ys)) x.length k) : x.cps.toList[k]? = some c := by
  have h2 := h.2
  rw [subAt_eq, txt_list, txt_len] at h2
  have h3 := eq_of_beq h2
  have : ((x.cps.toList.drop k).take (c :: ys).length)[0]? = some c := by rw [h3]; rfl
  rw [List.getElem?_take_of_lt (by simp), List.getElem?_drop] at this
  simpa using this
theorem at_of {k : Nat} {r : List Nat} (h : x.cps.toList.drop k = c :: ys ++ r) : At x (txt (c :: ys)) x.length k := by
  constructor
  · have := congrArg List.length h
    rw [List.length_drop, List.length_append, Array.length_toList] at this
    rw [txt_len]
    show k + _ ≤ x.cps.size
    simp at this ⊢
    (first | lia | omega)
  · rw [subAt_eq, h, txt_list, txt_len, List.take_append_of_le_length (Nat.le_refl _), List.take_length]
    exact beq_self_eq_true _
theorem parts_joined : ∀ (ps : List (List Nat)) (a : Nat) (cuts : List Nat) (f : Nat), ps ≠ [] → (∀ p ∈ ps, c ∉ p) → a ≤ x.length → x.cps.toList.drop a = joinT (c :: ys) ps → ChainG x (txt (c :: ys)) x.length a cuts f → (∀ k, f ≤ k → ¬ At x (txt (c :: ys)) x.length k) →
    partsFrom x (txt (c :: ys)).length a cuts = ps.map txt
  | [], _, _, _, h, _, _, _, _, _ => (h rfl).elim
  | [p], a, cuts, f, _, hp, ha, hx, hc, hf => by
    have hx : x.cps.toList.drop a = p := hx
    have none : ∀ k, a ≤ k → ¬ At x (txt (c :: ys)) x.length k := fun k hk q => by
      have h1 := at_head q
      have : (x.cps.toList.drop a)[k - a]? = some c := by rw [List.getElem?_drop, show a + (k - a) = k by (first | lia | omega)]; exact h1
      rw [hx] at this
      exact hp p (List.mem_cons_self ..) (List.mem_of_getElem? this)
    cases cuts with
    | nil =>
      show [strSub x a x.length] = [txt p]
      rw [txt_of (strSub x a x.length), strSub_toList, hx]
      have hl := congrArg List.length hx
      rw [List.length_drop, Array.length_toList] at hl
      rw [List.take_of_length_le (by show p.length ≤ x.cps.size - a; (first | lia | omega))]
    | cons d r => exact (none d hc.1 hc.2.1).elim
  | p :: q :: r, a, cuts, f, _, hp, ha, hx, hc, hf => by
    have hx : x.cps.toList.drop a = p ++ (c :: ys) ++ joinT (c :: ys) (q :: r) := hx
    have hx2 : x.cps.toList.drop (a + p.length) = (c :: ys) ++ joinT (c :: ys) (q :: r) := by
      rw [← List.drop_drop, hx, List.append_assoc, List.drop_left]
    have hA : At x (txt (c :: ys)) x.length (a + p.length) := at_of hx2
    have before : ∀ k, a ≤ k → k < a + p.length → ¬ At x (txt (c :: ys)) x.length k := fun k h1 h2 q' => by
      have h3 := at_head q'
      have : (x.cps.toList.drop a)[k - a]? = some c := by rw [List.getElem?_drop, show a + (k - a) = k by (first | lia | omega)]; exact h3
      rw [hx, List.append_assoc, List.getElem?_append_left (by (first | lia | omega))] at this
      exact hp p (List.mem_cons_self ..) (List.mem_of_getElem? this)
    cases cuts with
    | nil =>
      have e : f = a := hc
      exact (hf (a + p.length) (by (first | lia | omega)) hA).elim
    | cons d r' =>
      have hd : d = a + p.length := by
        rcases Nat.lt_trichotomy d (a + p.length) with h | h | h
        · exact (before d hc.1 h hc.2.1).elim
        · exact h
        · exact (hc.2.2.1 (a + p.length) (by (first | lia | omega)) h hA).elim
      subst hd
      show strSub x a (a + p.length) :: partsFrom x _ (a + p.length + (txt (c :: ys)).length) r' = txt p :: (q :: r).map txt
      have h2 : x.cps.toList.drop (a + p.length + (txt (c :: ys)).length) = joinT (c :: ys) (q :: r) := by
        rw [← List.drop_drop, hx2, txt_len, List.drop_left]
      rw [parts_joined (q :: r) _ r' f (by simp) (fun z hz => hp z (List.mem_cons_of_mem _ hz)) (by have := hA.1; (first | lia | omega)) h2 hc.2.2.2 hf]
      congr 1
      rw [txt_of (strSub x a (a + p.length)), strSub_toList, hx, List.append_assoc, show a + p.length - a = p.length by (first | lia | omega), List.take_left]
theorem split_joined {ps : List (List Nat)} (hne : ps ≠ []) (hp : ∀ p ∈ ps, c ∉ p) (hk : ∀ d ∈ c :: ys, d < 256) : Txt.split (txt (joinT (c :: ys) ps)) (txt (c :: ys)) = ps.map txt := by
  generalize hx : txt (joinT (c :: ys) ps) = x
  have hl : x.cps.toList = joinT (c :: ys) ps := by rw [← hx, txt_list]
  obtain ⟨f, hG, hn⟩ := occ_tight x (txt (c :: ys)) (by rw [txt_len]; simp)
  have hkind : Builtin.Str.strKind (txt (c :: ys)) = 1 := by
    unfold Builtin.Str.strKind
    rw [if_pos]
    rw [← Array.all_toList, txt_list]
    exact List.all_eq_true.mpr fun d hd => decide_eq_true (hk d hd)
  have hmain := parts_joined (x := x) (ys := ys) ps 0 _ f hne hp (Nat.zero_le _) hl hG hn
  have hge : 1 ≤ Builtin.Str.strKind x := by unfold Builtin.Str.strKind; split; exact Nat.le_refl _; split <;> (first | lia | omega)
  unfold Txt.split
  split
  · rename_i hc
    rw [Bool.or_eq_true, decide_eq_true_eq, decide_eq_true_eq, hkind] at hc
    have hlt : x.length < (txt (c :: ys)).length := by (first | lia | omega)
    match ps, hne, hl with
    | [p], _, hl => rw [← hx]; rfl
    | p :: q :: r, _, hl =>
      have := congrArg List.length hl
      rw [joinT, List.length_append, List.length_append, Array.length_toList] at this
      rw [txt_len] at hlt
      have : x.length = x.cps.size := rfl
      (first | lia | omega)
  · split
    · rename_i he
      have e0 := List.isEmpty_iff.mp he
      rw [e0] at hmain
      rw [← hmain]
      show [x] = [strSub x 0 x.length]
      rw [sub_whole]
    · rw [partsBetween_eq]; exact hmain
end
end Mine
namespace Mine
set_option genSizeOf false
set_option genInjectivity false
noncomputable def normL (v b : Str) : List Str := Txt.split v (Str.ofString ".") ++ (if (((b.length : Nat) : Int) != 0) = true then [b] else [])
noncomputable def strsOf (ys : List Str) : List Str := if (ys.all fun y => (PySem.intText? y).isSome) = true then ys.map reStr else ys
noncomputable def normP (v b : Str) : Str := Txt.join (Str.ofString ".") ((strsOf (normL v b)).take 3)
noncomputable def normOk (v b : Str) : Bool := (decide (v.length ≤ 1000) && decide (b.length ≤ 1000)) && ((decide ((normL v b).length ≤ 100) && (normL v b).all okText) && JoinOk (Str.ofString ".") ((strsOf (normL v b)).take 3))
noncomputable abbrev D118 : Arguments × List Stmt × Scope := defOf' "_norm_version"
section
variable {W : Ws} {F : Fr W} {sc : Scope} {ρ ρ' : Loc} {σ σ' : Sto} {x y : Str} {ap cp : Pos} {e : Expr} {es : List Expr} {v b : Str} {zs : List Str} {r : RV} (G : GlobOk W)
theorem New.split (hb : plainBase e = true) (hl : (ap.endLine == cp.line) = true) (hlen : es.length < 29) (h1 : Rd W sc none ρ e (.str x)) (h : Ars W sc none ρ es [.str y]) (hx : x.length ≤ 1048576) (hy : 1 ≤ y.length) : New W sc (.Call (.Attribute e (Str.ofString "split") ap) es [] cp) ρ ((Txt.split x y).map .str) := fun {F s} hs I => by
  refine wpAny_Call_method (base_ok hb) (few h.pl hlen _ cp) hl PySem.F.plainAttrs_str PySem.F.slot_str_split PySem.F.type_str_split (go (h1 hs I) fun f s₁ I => ?_)
  obtain ⟨t, rfl⟩ := Rel.str' I.stk.1.rd0
  refine ⟨rfl, nofun, Calls.callWith_builtin (h.pl _ cp) (evalArgs_any (h.pl _ cp) (go (h.wp cp hs I) fun vs s₂ I => ?_))⟩
  obtain ⟨u, ws, rfl, z, y⟩ := I.stk.1.rd0.cons'
  obtain rfl := y.nil'
  obtain ⟨u', rfl⟩ := Rel.str' (show Rel _ _ u (.str _) from z)
  refine go (split_core hx hy) fun v s' q => ?_
  obtain ⟨l, tk, rfl, rfl, e⟩ := q
  rw [← e]
  exact ⟨_, (I.stk' (stk' := []) fun _ => ⟨⟩).newOwn (get_new (Nat.le_refl _)) (grow_all fun _ _ e => Heap.get?_push_of_some _ e) (Heap.get?_push_size _ rfl) strs_rels⟩
noncomputable def ρ118 (v b : Str) : Loc := [nv "version" (.val (.str v)), nv "build" (.val (.str b)), nv "l" .own]
noncomputable def ρ118' (v b : Str) (r : RV) : Loc := ρ118 v b ++ [nv "strings" r]
noncomputable abbrev st118 (i : Nat) : Stmt := stAt D118.2.1 i
theorem toS_map : (zs.map PV.str).map toS = zs := by rw [List.map_map]; exact List.map_id _
theorem isS_map : (zs.map PV.str).all isS = true := List.all_eq_true.mpr fun p h => (List.mem_map.mp h).elim fun z q => q.2 ▸ rfl
noncomputable abbrev sl3 (Q : List PV) : List PV := (Q.drop (PySem.W.kms_lo none Q.length)).take (PySem.W.kms_hi (some 3) Q.length - PySem.W.kms_lo none Q.length)
theorem sl3_eq : sl3 (zs.map .str) = (zs.take 3).map .str := by
  show ((zs.map PV.str).drop 0).take _ = _
  rw [List.drop_zero, List.map_take]
  show (zs.map PV.str).take (min 3 (zs.map PV.str).length - 0) = _
  rw [Nat.sub_zero]
  exact List.take_eq_take_min.symm
noncomputable def fin118 (v b : Str) (r : RV) (Q : List PV) (σ : Sto) : St3 := (.ret (.val (.str (Txt.join (Str.ofString ".") ((sl3 Q).map toS)))), ρ118' (Txt.join (Str.ofString ".") ((sl3 Q).map toS)) b r, σ)
noncomputable def ob118 (Q : List PV) : Bool := ((decide (Q.length ≤ 1048576) && true) && ((sl3 Q).all isS && JoinOk (Str.ofString ".") ((sl3 Q).map toS))) && true
theorem ob118_ok (hl : zs.length ≤ 1000) (hj : JoinOk (Str.ofString ".") (zs.take 3) = true) : ob118 (zs.map .str) = true := by
  rw [ob118, sl3_eq, isS_map, toS_map, hj, decide_eq_true (show (zs.map PV.str).length ≤ 1048576 by rw [List.length_map]; (first | lia | omega))]
  rfl
theorem fin118_eq : fin118 v b r (zs.map .str) σ = (.ret (.val (.str (Txt.join (Str.ofString ".") (zs.take 3)))), ρ118' (Txt.join (Str.ofString ".") (zs.take 3)) b r, σ) := by rw [fin118, sl3_eq, toS_map]
noncomputable abbrev J118 (W : Ws) (v b : Str) (r : RV) (σ : Sto) : St3 → Prop := ExsJ true W D118.2.2 [st118 3, st118 4] (ρ118' v b r) σ
include G in
theorem s118v {Q : List PV} (h : ob118 Q = true) : J118 W v b (.val (.lst Q)) σ (fin118 v b (.val (.lst Q)) Q σ) :=
  Vc.use (J := J118 W v b (.val (.lst Q)) σ) (cs true (gamN G) 12 D118.2.2 4 [st118 3, st118 4] (ρ118' v b (.val (.lst Q))) σ) (by kernel_rfl) (Eq.trans (by kernel_rfl) h)
include G in
theorem s118o {Q : List PV} (h : ob118 Q = true) : J118 W v b .own (some Q) (fin118 v b .own Q (some Q)) :=
  Vc.use (J := J118 W v b .own (some Q)) (cs true (gamN G) 12 D118.2.2 4 [st118 3, st118 4] (ρ118' v b .own) (some Q)) (by kernel_rfl) (Eq.trans (by kernel_rfl) h)
end
end Mine
namespace Mine
set_option genSizeOf false
set_option genInjectivity false
section
variable {W : Ws} {ρ : Loc} {σ : Sto} {v b : Str} {L : List PV} {ys : List Str} {r : RV} (G : GlobOk W)
theorem b118 : D118.2.1 = [st118 0, .If (ifP (st118 1)).1 (ifP (st118 1)).2.1 [] (ifP (st118 1)).2.2.2, st118 2, st118 3, st118 4] := by kernel_rfl
include G in
theorem if118 (hb : b.length ≤ 1000) (hL : L.length ≤ 1000) : Ex true W D118.2.2 (.If (ifP (st118 1)).1 (ifP (st118 1)).2.1 [] (ifP (st118 1)).2.2.2) (ρ118 v b) (some L) .next (ρ118 v b) (some (L ++ if (((b.length : Nat) : Int) != 0) = true then [.str b] else [])) := by
  have t : Tst W D118.2.2 (some L) (ρ118 v b) (ifP (st118 1)).1 (((b.length : Nat) : Int) != 0) := Vc.use (ce (gamN G) 4 D118.2.2 (ρ118 v b) (ifP (st118 1)).1).2 (by kernel_rfl) (Eq.trans (b := true && decide (b.length ≤ 1048576)) (by kernel_rfl) (by rw [decide_eq_true (show b.length ≤ 1048576 by (first | lia | omega))]; rfl))
  have a : ExsJ true W D118.2.2 (ifP (st118 1)).2.1 (ρ118 v b) (some L) (.next, ρ118 v b, some (L ++ [.str b])) := Vc.use (cs true (gamN G) 6 D118.2.2 4 (ifP (st118 1)).2.1 (ρ118 v b) (some L)) (by kernel_rfl) (Eq.trans (b := (true && decide (L.length < 1048576)) && true) (by kernel_rfl) (by rw [decide_eq_true (show L.length < 1048576 by (first | lia | omega))]; rfl))
  cases h : (((b.length : Nat) : Int) != 0) with
  | true => rw [h] at t; exact fun {F stk as s} => Ex.iteT t a (F := F)
  | false =>
    rw [h] at t
    rw [if_neg Bool.false_ne_true, List.append_nil]
    exact fun {F stk as s} => Ex.iteF t Exs.nil (F := F)
noncomputable def strsR (ys : List Str) : RV := if (ys.all fun y => (PySem.intText? y).isSome) = true then .val (.lst (ys.map fun y => .str (reStr y))) else .own
include G in
theorem try118 (hlen : ys.length ≤ 1000) (hall : ys.all okText = true) : Ex true W D118.2.2 (st118 2) (ρ118 v b) (some (ys.map .str)) .next (ρ118' v b (strsR ys)) (some (ys.map .str)) := by
  by_cases hg : (ys.all fun y => (PySem.intText? y).isSome) = true
  · rw [strsR, if_pos hg]
    refine Ex.tryOk (Exs.cons (Ex.asgX (by kernel_rfl) (fun hs hF I => ?_) (by kernel_rfl)) Exs.nil)
    obtain ⟨a, vs, n, rfl, _⟩ := I.own.2 _ rfl
    exact I.maps hs (by kernel_rfl) (G _ _ (by kernel_rfl)) (by kernel_rfl) (G _ _ (by kernel_rfl)) (by kernel_rfl) (G _ _ (by kernel_rfl)) (by kernel_rfl) (G _ _ (by kernel_rfl)) (by kernel_rfl) (by kernel_rfl) hlen hall (fun _ v s' J => J) fun h => h.elim fun y q => by
      have := List.all_eq_true.mp hg y q.1
      rw [q.2] at this; cases this
  · rw [strsR, if_neg hg]
    refine Ex.tryBad (by kernel_rfl) (G _ _ (by kernel_rfl)) (fun hs hro hc hk I => execs_X (assignName_X ?_ (swapsDep (sc := D118.2.2) (by kernel_rfl) hs))) (hnd_name (by kernel_rfl) (r := .own) (by kernel_rfl) (by kernel_rfl))
    obtain ⟨a, vs, n, rfl, _⟩ := I.own.2 _ rfl
    exact I.maps hs (by kernel_rfl) (G _ _ (by kernel_rfl)) (by kernel_rfl) (G _ _ (by kernel_rfl)) (by kernel_rfl) (G _ _ (by kernel_rfl)) (by kernel_rfl) (G _ _ (by kernel_rfl)) (by kernel_rfl) (by kernel_rfl) hlen hall (fun h => (hg (List.all_eq_true.mpr h)).elim) fun _ s₁ e s' J hb => ⟨s₁, J, hb⟩
include G in
theorem spec118 {a0 : Addr} {fd : FuncData} {ps dps : List PV} {dv : List Value} (he : ps ++ dps = [.str v, .str b]) (hf : FnOk W.B a0 fd [Str.ofString "version", Str.ofString "build"] D118.2.1) (hsc : fd.scope = D118.2.2) (hdv : Rels (fun _ => False) W.B.g dv dps)
    (hbind : ∀ {A : Around} {s : Shared} {vals : List Value} {Q : List (Str × Value) → Shared → Prop} {E : Value → Shared → Prop}, Glob W.B s.heap → vals.length = ps.length → Q ([Str.ofString "version", Str.ofString "build"].zip (vals ++ dv)) s → wpAny W.M A (bindArgs fd ⟨vals, []⟩) Q E s) (hok : normOk v b = true) :
    Spc true { W with k := W.k + 1 } a0 ps (.str (normP v b)) := by
  have h1 := of_decide_eq_true (and1 (and1 hok))
  have h2 := of_decide_eq_true (and2 (and1 hok))
  have h3 := of_decide_eq_true (and1 (and1 (and2 hok)))
  have h4 := and2 (and1 (and2 hok))
  have h5 := and2 (and2 hok)
  have hs : (Txt.split v (Str.ofString ".")).length ≤ 100 := Nat.le_trans (by rw [normL, List.length_append]; exact Nat.le_add_right ..) h3
  refine @FnOk.spc true W a0 fd _ _ dv ps dps _ (.val (.str (normP v b))) (some ((normL v b).map .str)) hf hdv hbind ?_ (.inl rfl) (Bool.or_eq_true_iff.mpr (.inr rfl))
  rw [he, hsc, b118]
  have e : (Txt.split v (Str.ofString ".")).map PV.str ++ (if (((b.length : Nat) : Int) != 0) = true then [PV.str b] else []) = (normL v b).map .str := by
    rw [normL, List.map_append]; split <;> rfl
  intro F s₀
  refine Bd.new (ρ' := ρ118' (normP v b) b (strsR (normL v b))) (by kernel_rfl) (New.split (x := v) (y := Str.ofString ".") (by rfl) (by rfl) (by decide) (Ev.rv (Ev.loc (by kernel_rfl) (by kernel_rfl))) (Vc.use (arsV (fun e => rdV (ce (gamN G) 4 D118.2.2 [nv "version" (.val (.str v)), nv "build" (.val (.str b))] e).1) _) (by kernel_rfl) (by kernel_rfl)) (by (first | lia | omega)) (by decide)) (by kernel_rfl) ?_
  have f := @if118 W v b ((Txt.split v (Str.ofString ".")).map PV.str) G h2 (by rw [List.length_map]; (first | lia | omega))
  rw [e] at f
  have g : J118 W v b (strsR (normL v b)) (some ((normL v b).map .str)) (.ret (.val (.str (normP v b))), ρ118' (normP v b) b (strsR (normL v b)), some ((normL v b).map .str)) := by
    by_cases hg : ((normL v b).all fun y => (PySem.intText? y).isSome) = true
    · rw [strsOf, if_pos hg] at h5
      rw [normP, strsOf, strsR, if_pos hg, if_pos hg, ← fin118_eq, show (normL v b).map (fun y => PV.str (reStr y)) = ((normL v b).map reStr).map .str by rw [List.map_map]; rfl]
      exact s118v G (ob118_ok (by rw [List.length_map]; (first | lia | omega)) h5)
    · rw [strsOf, if_neg hg] at h5
      rw [normP, strsOf, strsR, if_neg hg, if_neg hg, ← fin118_eq]
      exact s118o G (ob118_ok (by (first | lia | omega)) h5)
  intro F stk as s₀
  exact Exs.cons f (Exs.cons (try118 (b := b) (v := v) G (by (first | lia | omega)) h4) g)
end
end Mine
namespace Mine
set_option genSizeOf false
set_option genInjectivity false
noncomputable def partQ (x : Str) : Bool := !(!(Builtin.Str.occurrences (Str.ofString "._+-") x 0 (Str.ofString "._+-").length 1).isEmpty)
noncomputable def verItem (x : Str) : List PV := if partQ x = true then (match PySem.intText? x with | some i => [.int 100, .int i] | none => [.int 0, .str x]) else []
noncomputable def verOk (x : Str) : Bool := !partQ x || ((decide (x.length ≤ 640) && asciiS x) && ((PySem.intText? x).isSome || x == Str.ofString "x"))
noncomputable abbrev D110 : Arguments × List Stmt × Scope := defOf' "_comparable_version"
noncomputable abbrev st110 (i : Nat) : Stmt := stAt D110.2.1 i
noncomputable def forP : Stmt → Expr × Expr × List Stmt × Pos
  | .For t it b _ p => (t, it, b, p)
  | _ => (.Name ⟨#[]⟩ ⟨0, 0, 0, 0⟩, .Name ⟨#[]⟩ ⟨0, 0, 0, 0⟩, [], ⟨0, 0, 0, 0⟩)
noncomputable def P110 (ρ : Loc) : Prop := ρ.lookup (Str.ofString "result") = some .own ∧ noRd ρ = true
section
variable {W : Ws} {ρ : Loc} {σ : Sto} {v x : Str} {L : List PV} {parts : List Str} {p : PV} (G : GlobOk W) (S : StagesOk W)
theorem noRd_set (h : noRd ρ = true) : noRd (setP x (.val p) ρ) = true := by
  induction ρ with
  | nil => rfl
  | cons q ρ ih =>
    obtain ⟨y, r⟩ := q
    rw [noRd, List.all_cons] at h
    have h' := Bool.and_eq_true_iff.mp h
    rw [setP]
    split
    · exact h'.2
    · rw [noRd, List.all_cons]; exact Bool.and_eq_true_iff.mpr ⟨h'.1, ih h'.2⟩
theorem P110.set (h : P110 ρ) (hx : (Str.ofString "result" == x) = false) : P110 (setP x (.val p) ρ) := ⟨by rw [setP_look, hx]; exact h.1, noRd_set h.2⟩
theorem set_same : (setP x (.val p) ρ).lookup x = some (.val p) := by rw [setP_look, beq_self_eq_true]; rfl
theorem set_other {y : Str} {r : RV} (h : (y == x) = false) (e : ρ.lookup y = some r) : (setP x (.val p) ρ).lookup y = some r := by rw [setP_look, h]; exact e
structure F110 (W : Ws) (t it ti : Expr) (tb : List Stmt) (th : List ExceptHandler) (p1 : Pos) (ex : Stmt) : Prop where
  asg : ∀ {ρ : Loc} {p : PV}, Asg W false D110.2.2 t p ρ (setP (Str.ofString "v") (.val p) ρ)
  tst : ∀ {ρ : Loc} {σ : Sto} {x : Str}, ρ.lookup (Str.ofString "v") = some (.val (.str x)) → Tst W D110.2.2 σ ρ ti (partQ x)
  num : ∀ {ρ : Loc} {σ : Sto} {x : Str} {i : Int}, ρ.lookup (Str.ofString "v") = some (.val (.str x)) → PySem.intText? x = some i → x.length ≤ 640 → Ex true W D110.2.2 (.Try tb th [] [] p1) ρ σ .next (setP (Str.ofString "t") (.val (.int 100)) (setP (Str.ofString "v") (.val (.int i)) ρ)) σ
  bad : ∀ {ρ : Loc} {σ : Sto}, ρ.lookup (Str.ofString "v") = some (.val (.str (Str.ofString "x"))) → Ex true W D110.2.2 (.Try tb th [] [] p1) ρ σ .next (setP (Str.ofString "t") (.val (.int 0)) ρ) σ
  ext : ∀ {ρ : Loc} {a b : PV} {L : List PV}, P110 ρ → ρ.lookup (Str.ofString "t") = some (.val a) → ρ.lookup (Str.ofString "v") = some (.val b) → L.length ≤ 1000 → Ex true W D110.2.2 ex ρ (some L) .next ρ (some (L ++ [a, b]))
  itm : ∀ {ρ : Loc} {σ : Sto} {y : Str} {l : List PV}, ρ.lookup (Str.ofString "component_re") = some (.val (.obj 102)) → ρ.lookup (Str.ofString "version") = some (.val (.str y)) → MethQ W (.obj 102) (Str.ofString "split") [.str y] (.lst l) → Itm W D110.2.2 σ ρ t it l
  fold : ∀ env x, foldedSetIterable it env x = pure x
include G S in
theorem shape110 : ∃ t it ti tb th p1 ex p2 p3 s3, D110.2.1 = [stAt D110.2.1 0, stAt D110.2.1 1, .For t it [.If ti [.Try tb th [] [] p1, ex] [] p2] [] p3, s3] ∧ s3 = stAt D110.2.1 3 ∧ F110 W t it ti tb th p1 ex := by
  refine ⟨_, _, _, _, _, _, _, _, _, _, rfl, rfl, ?_⟩
  exact {
    asg := Asg.name (by kernel_rfl)
    tst := fun h => Tst.cmp (Ev.rv (Ev.loc (by kernel_rfl) h)) (Ev.rv (Ev.const (by kernel_rfl))) op_notInS rfl
    num := fun h hi hl => Ex.tryOk (Exs.cons (Ex.asg (by kernel_rfl) (Ev.callT (by kernel_rfl) (G _ _ (by kernel_rfl)) (Ars.cons (Ev.rv (Ev.loc (by kernel_rfl) h)) (Ars.cons (Ev.rv (Ev.const (by kernel_rfl))) .nil rfl) rfl) (int10_ok hi hl)) (by kernel_rfl)) (Exs.cons (Ex.asg (by kernel_rfl) (Ev.const (by kernel_rfl)) (by kernel_rfl)) Exs.nil))
    bad := fun h => Ex.tryBad (by kernel_rfl) (G _ _ (by kernel_rfl)) (raises_int (by kernel_rfl) (by kernel_rfl) (G _ _ (by kernel_rfl)) (by kernel_rfl) h (by kernel_rfl) (by decide) (by kernel_rfl)) (hnd_get S (by kernel_rfl) (G _ _ (by kernel_rfl)) (by kernel_rfl) h (by kernel_rfl) (by rfl))
    ext := fun h ha hb hl => Ex.turn (by rfl) (by decide) (by kernel_rfl) h.1 h.2 (Evs.cons (Ev.tup (Evs.cons (Ev.loc (by kernel_rfl) ha) (Evs.cons (Ev.loc (by kernel_rfl) hb) .nil rfl) rfl) (show 2 ≤ 1048576 by decide)) .nil rfl) (mut_extend (by show _ + 2 ≤ _; (first | lia | omega)))
    itm := fun h1 h2 hm => Itm.lst (Ev.meth (fun _ => rfl) (by rfl) (by decide) (Ev.rv (Ev.loc (by kernel_rfl) h1)) (Ars.cons (Ev.rv (Ev.loc (by kernel_rfl) h2)) .nil rfl) hm)
    fold := fun _ _ => rfl }
variable {t it ti : Expr} {tb : List Stmt} {th : List ExceptHandler} {p1 p2 : Pos} {ex : Stmt}
theorem F110.turn (f : F110 W t it ti tb th p1 ex) (h : P110 ρ) (hx : verOk x = true) (hl : L.length ≤ 1000) : ∃ ρ', P110 ρ' ∧ Exs true W D110.2.2 [.If ti [.Try tb th [] [] p1, ex] [] p2] (setP (Str.ofString "v") (.val (.str x)) ρ) (some L) .next ρ' (some (L ++ verItem x)) := by
  have h1 := h.set (x := Str.ofString "v") (p := .str x) rfl
  have tt := @F110.tst _ _ _ _ _ _ _ _ f _ (some L) x (set_same (ρ := ρ) (x := Str.ofString "v") (p := .str x))
  rw [verItem]
  cases hq : partQ x with
  | false =>
    rw [hq] at tt
    rw [if_neg Bool.false_ne_true, List.append_nil]
    exact ⟨_, h1, fun {F stk as s} => Exs.cons (Ex.iteF tt Exs.nil) Exs.nil (F := F)⟩
  | true =>
    rw [hq] at tt
    rw [verOk, hq] at hx
    rw [if_pos rfl]
    have hx : ((decide (x.length ≤ 640) && asciiS x) && ((PySem.intText? x).isSome || x == Str.ofString "x")) = true := hx
    have k1 := of_decide_eq_true (and1 (and1 hx))
    cases hi : PySem.intText? x with
    | some i =>
      have h3 := (h1.set (x := Str.ofString "v") (p := .int i) rfl).set (x := Str.ofString "t") (p := .int 100) rfl
      exact ⟨_, h3, fun {F stk as s} => Exs.cons (Ex.iteT tt (Exs.cons (f.num set_same hi k1) (Exs.cons (f.ext h3 set_same (set_other rfl set_same) hl) Exs.nil))) Exs.nil (F := F)⟩
    | none =>
      rw [hi] at hx
      obtain rfl := eq_of_beq (and2 hx)
      have h3 := h1.set (x := Str.ofString "t") (p := .int 0) rfl
      exact ⟨_, h3, fun {F stk as s} => Exs.cons (Ex.iteT tt (Exs.cons (f.bad set_same) (Exs.cons (f.ext h3 set_same (set_other rfl set_same) hl) Exs.nil))) Exs.nil (F := F)⟩
theorem F110.loop (f : F110 W t it ti tb th p1 ex) (hx : parts.all verOk = true) : ∀ {ρ : Loc} {L : List PV}, P110 ρ → L.length + (parts.flatMap verItem).length ≤ 1000 → ∃ ρ', P110 ρ' ∧ Loop true W D110.2.2 t [.If ti [.Try tb th [] [] p1, ex] [] p2] (parts.map .str) ρ (some L) ρ' (some (L ++ parts.flatMap verItem)) := by
  induction parts with
  | nil => exact fun h _ => ⟨_, h, by rw [List.flatMap_nil, List.append_nil]; exact .nil⟩
  | cons x parts ih =>
    intro ρ L h hl
    have hx := Bool.and_eq_true_iff.mp (List.all_cons ▸ hx)
    rw [List.flatMap_cons, List.length_append] at hl
    obtain ⟨ρ₁, h1, e1⟩ := f.turn (p2 := p2) h hx.1 (L := L) (by (first | lia | omega))
    obtain ⟨ρ₂, h2, e2⟩ := ih hx.2 h1 (L := L ++ verItem x) (by rw [List.length_append]; (first | lia | omega))
    exact ⟨ρ₂, h2, by rw [List.flatMap_cons, ← List.append_assoc]; exact .cons f.asg e1 e2⟩
include G S in
theorem spec110 {a0 : Addr} {fd : FuncData} (hf : FnOk W.B a0 fd [Str.ofString "version"] D110.2.1) (hsc : fd.scope = D110.2.2)
    (hbind : ∀ {A : Around} {s : Shared} {vals : List Value} {Q : List (Str × Value) → Shared → Prop} {E : Value → Shared → Prop}, Glob W.B s.heap → vals.length = 1 → Q ([Str.ofString "version"].zip (vals ++ [])) s → wpAny W.M A (bindArgs fd ⟨vals, []⟩) Q E s)
    (hm : MethQ W (.obj 102) (Str.ofString "split") [.str v] (.lst (parts.map .str))) (hx : parts.all verOk = true) (hl : (parts.flatMap verItem).length ≤ 1000) :
    Spc true { W with k := W.k + 1 } a0 [.str v] (.lst (parts.flatMap verItem)) := by
  obtain ⟨t, it, ti, tb, th, p1, ex, p2, p3, s3, e, rfl, f⟩ := shape110 (W := W) G S
  obtain ⟨ρ', h1, h2⟩ := f.loop (p2 := p2) hx (ρ := [nv "version" (.val (.str v)), nv "component_re" (.val (.obj 102)), nv "result" .own]) (L := []) ⟨by kernel_rfl, by kernel_rfl⟩ (by rw [List.length_nil, Nat.zero_add]; exact hl)
  refine @FnOk.spc true W a0 fd _ _ [] [.str v] [] _ .own (some (parts.flatMap verItem)) hf .nil hbind ?_ (.inr ⟨_, rfl, rfl, rfl⟩) rfl
  rw [hsc, e]
  intro F s₀
  refine Bd.cons (Vc.use (J := ExJ true W D110.2.2 (stAt D110.2.1 0) [nv "version" (.val (.str v))] none) (a := (.next, [nv "version" (.val (.str v)), nv "component_re" (.val (.obj 102))], none)) (exV true (gamN G) 4 D110.2.2 1 (stAt D110.2.1 0) [nv "version" (.val (.str v))] none) (by kernel_rfl) (by kernel_rfl)) ?_
  intro F s₀
  refine Bd.new (ρ' := ρ') (by kernel_rfl) New.nil (by kernel_rfl) (Exs.cons (Ex.for_ (f.itm (by kernel_rfl) (by kernel_rfl) hm) f.fold h2) (Exs.ret (Ex.ret (Ev.loc (by kernel_rfl) h1.1))))
end
end Mine
namespace Mine
set_option genSizeOf false
set_option genInjectivity false
noncomputable def code102 : Array Nat := #[14, 4, 0, 1, 4294967295, 17, 0, 7, 14, 24, 10, 1, 4294967295, 13, 5, 22, 48, 57, 0, 1, 15, 17, 15, 13, 11, 9, 0, 26624, 2147483648, 0, 0, 0, 0, 0, 0, 15, 2, 0, 17, 1, 1]
noncomputable def mA (text : Array Nat) (p : Nat) (f : Bool) (sn : Sre.Seen) : Sre.M :=
  { code := code102, text := text, lim := text.size, start := p, lastStart := text.size, pc := 9, pos := p, handed := p, outermost := f, marks := #[some p, none], lastmark := 0, weight := 2, seen := sn, frames := [{ wait := .nextBranch, pc := 8, pos := p, outermost := f, kept := { lastmark := 0 } }, { wait := .nextStart, pc := 5, pos := p, outermost := f }] }
noncomputable def at102 (text : Array Nat) (p : Nat) (f : Bool) (m0 : Option Nat) (sn : Sre.Seen) : Sre.M :=
  { mA text p f sn with pc := 5, marks := #[m0, none], lastmark := -1, weight := 1, frames := [{ wait := .nextStart, pc := 5, pos := p, outermost := f }] }
noncomputable def mB (text : Array Nat) (p n : Nat) (f : Bool) (sn : Sre.Seen) : Sre.M :=
  { mA text p f sn with pc := 20, pos := p + n, handed := p + n, weight := 3, frames := [{ wait := .giveBack, pc := 9, pos := p + n, outermost := f, count := n, kept := { lastmark := 0 } }, { wait := .nextBranch, pc := 8, pos := p, outermost := f, kept := { lastmark := 0 } }, { wait := .nextStart, pc := 5, pos := p, outermost := f }] }
noncomputable def mC (text : Array Nat) (p : Nat) (f : Bool) (sn : Sre.Seen) : Sre.M :=
  { mA text p f sn with pc := 23, frames := [{ wait := .nextBranch, pc := 22, pos := p, outermost := f, kept := { lastmark := 0 } }, { wait := .nextStart, pc := 5, pos := p, outermost := f }] }
noncomputable def mD (text : Array Nat) (p : Nat) (f : Bool) (sn : Sre.Seen) : Sre.M :=
  { mA text p f sn with pc := 22, weight := 1, answer := some false, frames := [{ wait := .nextStart, pc := 5, pos := p, outermost := f }] }
noncomputable def fin102 (text : Array Nat) (p n : Nat) (f : Bool) (sn : Sre.Seen) : Sre.M :=
  { mA text p f sn with pc := 5, handed := p + n, marks := #[some p, some (p + n)], lastmark := 1, lastindex := 1, weight := 0, frames := [], answer := some true, outcome := some .matched }
section
variable {text : Array Nat} {p n : Nat} {sn : Sre.Seen} {f : Bool} {m0 : Option Nat}
theorem q1 : Sre.M.runFor 2 (at102 text p f m0 sn) = mA text p f ((sn.add 17).add 7) := by kernel_rfl
theorem q2 : (mA text p f sn).step = if (1 : Int) > (text.size : Int) - p then { mA text p f (sn.add 24) with answer := some false } else
    match Sre.run code102 text 13 (min 4294967295 ((text.size : Int) - p).toNat) p 0 ((sn.add 24).add 13) with
    | .error why => { mA text p f (sn.add 24) with outcome := some (.stuck why) }
    | .ok (n, sn') => if n < 1 then { mA text p f sn' with answer := some false } else mB text p n f sn' := by kernel_rfl
theorem q3 : Sre.M.step { mA text p f sn with answer := some false } = mC text p f sn := by kernel_rfl
theorem q4 : (mC text p f sn).step = if p ≥ text.size then { mC text p f (sn.add 13) with answer := some false } else
    match Sre.accepts code102 23 (text.getD p 0) (sn.add 13) with
    | .error why => { mC text p f (sn.add 13) with outcome := some (.stuck why) }
    | .ok (false, sn') => { mC text p f sn' with answer := some false }
    | .ok (true, sn') => { mC text p f sn' with pc := 35, pos := p + 1 } := by kernel_rfl
theorem q5 : Sre.M.step { mC text p f sn with answer := some false } = mD text p f sn := by kernel_rfl
theorem q6 : (mD text p f sn).step = if p < text.size then at102 text (p + 1) false (some p) sn else { mD text p f sn with pc := 5, weight := 0, frames := [] } := by kernel_rfl
theorem q7 : Sre.M.runFor 7 (mB text p n true sn) = fin102 text p n true (((sn.add 15).add 17).add 1) := by kernel_rfl
theorem q7' : Sre.M.runFor 7 (mB text p n false sn) = fin102 text p n false (((sn.add 15).add 17).add 1) := by kernel_rfl
theorem q8 : Sre.M.runFor 6 { mC text p true sn with pc := 35, pos := p + 1 } = fin102 text p 1 true (((sn.add 15).add 17).add 1) := by kernel_rfl
theorem q9 : Sre.M.step { mD text p f sn with pc := 5, weight := 0, frames := [] } = { mD text p f sn with pc := 5, weight := 0, frames := [], outcome := some .failed } := by kernel_rfl
theorem start102 {s : Nat} (hs : s < text.size) : Sre.forSearch code102 text 1 s text.size false = at102 text s true none (({} : Sre.Seen).add 14) := by
  have h : Sre.forSearch code102 text 1 s text.size false = if (decide (s > text.size) || decide (text.size - s < 1)) = true then Sre.M.say { at102 text s true none (({} : Sre.Seen).add 14) with lastStart := 0, frames := [], weight := 0 } false else at102 text s true none (({} : Sre.Seen).add 14) := by kernel_rfl
  rw [h, if_neg (by simp; (first | lia | omega))]
theorem end102 : foundP (2 ^ 60) (Sre.forSearch code102 text 1 text.size text.size false) = some none := by
  have h : Sre.forSearch code102 text 1 text.size text.size false = if (decide (text.size > text.size) || decide (text.size - text.size < 1)) = true then Sre.M.say { at102 text text.size true none (({} : Sre.Seen).add 14) with lastStart := 0, frames := [], weight := 0 } false else at102 text text.size true none (({} : Sre.Seen).add 14) := by kernel_rfl
  rw [h, if_pos (by simp)]
  refine (foundP_of (n := 1) (m' := { at102 text text.size true none (({} : Sre.Seen).add 14) with lastStart := 0, frames := [], weight := 0, answer := some false, outcome := some .failed }) ?_ (by decide)).1 rfl
  kernel_rfl
end
noncomputable def isDig (c : Nat) : Bool := 48 ≤ c && c ≤ 57
theorem acc13 (c : Nat) (sn : Sre.Seen) : ∃ sn', Sre.accepts code102 13 c sn = .ok (isDig c, sn') := by
  have h : Sre.accepts code102 13 c sn = if (decide (48 ≤ c) && decide (c ≤ 57)) = true then .ok (true, sn.add 22) else .ok (false, (sn.add 22).add 0) := by kernel_rfl
  rw [h]
  unfold isDig
  cases decide (48 ≤ c) && decide (c ≤ 57)
  · exact ⟨_, rfl⟩
  · exact ⟨_, rfl⟩
theorem acc23 (sn : Sre.Seen) : ∃ sn', Sre.accepts code102 23 46 sn = .ok (true, sn') := ⟨sn.add 9, by kernel_rfl⟩
theorem acc23x (sn : Sre.Seen) : ∃ sn', Sre.accepts code102 23 120 sn = .ok (false, sn') := ⟨(sn.add 9).add 0, by kernel_rfl⟩
noncomputable def digRun (text : Array Nat) : Nat → Nat → Nat
  | 0, _ => 0
  | k + 1, p => if isDig (text.getD p 0) = true then digRun text k (p + 1) + 1 else 0
theorem run102 {text : Array Nat} : ∀ (k p fd : Nat) (sn : Sre.Seen), ∃ sn', Sre.run code102 text 13 k p fd sn = .ok (fd + digRun text k p, sn')
  | 0, p, fd, sn => ⟨sn, rfl⟩
  | k + 1, p, fd, sn => by
    obtain ⟨sn1, e1⟩ := acc13 (text.getD p 0) sn
    obtain ⟨sn2, e2⟩ := run102 (text := text) k (p + 1) (fd + 1) sn1
    unfold Sre.run digRun
    rw [e1]
    cases isDig (text.getD p 0) with
    | true => exact ⟨sn2, by rw [if_pos rfl]; show Sre.run code102 text 13 k (p + 1) (fd + 1) sn1 = _; rw [e2, show fd + 1 + digRun text k (p + 1) = fd + (digRun text k (p + 1) + 1) by (first | lia | omega)]⟩
    | false => exact ⟨sn1, rfl⟩
theorem more102 {n : Nat} {m : Sre.M} (h : m.outcome = none) : Sre.M.runFor (n + 1) m = Sre.M.runFor n m.step := by rw [runFor_succ, if_neg (by rw [h]; simp)]
section
variable {text : Array Nat} {s : Nat}
theorem find_of {m m' : Sre.M} {n : Nat} (h : Sre.M.runFor n m = m') (hn : n ≤ 100) (ho : m'.outcome = some .matched) : foundP (2 ^ 60) m = some (some m') := (foundP_of h (Nat.le_trans hn (by decide))).2 ho
theorem find_num {n : Nat} (hs : s < text.size) (hz : text.size ≤ 1000) (hn : digRun text (text.size - s) s = n) (h1 : 1 ≤ n) : ∃ m, foundP (2 ^ 60) (Sre.forSearch code102 text 1 s text.size false) = some (some m) ∧ m.start = s ∧ m.handed = s + n ∧ groupP text m = some (text.extract s (s + n)) := by
  obtain ⟨sn, e⟩ := run102 (text := text) (text.size - s) s 0 ((((((({} : Sre.Seen).add 14).add 17).add 7)).add 24).add 13)
  refine ⟨fin102 text s n true (((sn.add 15).add 17).add 1), find_of (n := 10) ?_ (by decide) rfl, rfl, rfl, ?_⟩
  · rw [start102 hs, show 10 = 2 + 8 from rfl, runFor_add, q1, more102 rfl, q2, if_neg (by (first | lia | omega)), show min 4294967295 ((text.size : Int) - s).toNat = text.size - s by (first | lia | omega), e]
    dsimp only
    rw [hn, Nat.zero_add, if_neg (by (first | lia | omega))]
    exact q7
  · show (if s + n < s then none else some (text.extract s (s + n))) = _
    rw [if_neg (by (first | lia | omega))]
theorem digRun0 {k : Nat} (h : isDig (text.getD s 0) = false) : digRun text k s = 0 := by
  cases k with
  | zero => rfl
  | succ k => unfold digRun; rw [h]; rfl
theorem find_dot (hs : s < text.size) (hz : text.size ≤ 1000) (hd : text.getD s 0 = 46) : ∃ m, foundP (2 ^ 60) (Sre.forSearch code102 text 1 s text.size false) = some (some m) ∧ m.start = s ∧ m.handed = s + 1 ∧ groupP text m = some (text.extract s (s + 1)) := by
  obtain ⟨sn, e⟩ := run102 (text := text) (text.size - s) s 0 ((((((({} : Sre.Seen).add 14).add 17).add 7)).add 24).add 13)
  rw [digRun0 (by rw [hd]; rfl)] at e
  obtain ⟨sn2, e2⟩ := acc23 (sn.add 13)
  refine ⟨fin102 text s 1 true (((sn2.add 15).add 17).add 1), find_of (n := 11) ?_ (by decide) rfl, rfl, rfl, ?_⟩
  · rw [start102 hs, show 11 = 2 + 9 from rfl, runFor_add, q1, more102 rfl, q2, if_neg (by (first | lia | omega)), show min 4294967295 ((text.size : Int) - s).toNat = text.size - s by (first | lia | omega), e]
    dsimp only
    rw [if_pos (by (first | lia | omega)), more102 rfl, q3, more102 rfl, q4, if_neg (by (first | lia | omega)), hd, e2]
    exact q8
  · show (if s + 1 < s then none else some (text.extract s (s + 1))) = _
    rw [if_neg (by (first | lia | omega))]
theorem find_x (hs : s + 1 = text.size) (hz : text.size ≤ 1000) (hd : text.getD s 0 = 120) : foundP (2 ^ 60) (Sre.forSearch code102 text 1 s text.size false) = some none := by
  obtain ⟨sn, e⟩ := run102 (text := text) (text.size - s) s 0 ((((((({} : Sre.Seen).add 14).add 17).add 7)).add 24).add 13)
  rw [digRun0 (by rw [hd]; rfl)] at e
  obtain ⟨sn2, e2⟩ := acc23x (sn.add 13)
  have h : ∃ m', Sre.M.runFor 16 (Sre.forSearch code102 text 1 s text.size false) = m' ∧ m'.outcome = some .failed := by
    refine ⟨{ mD text (s + 1) false ((((((((sn2.add 17).add 7).add 24).add 13) ))) ) with pc := 5, weight := 0, frames := [], outcome := some .failed }, ?_, rfl⟩
    rw [start102 (by (first | lia | omega)), show 16 = 2 + 14 from rfl, runFor_add, q1, more102 rfl, q2, if_neg (by (first | lia | omega)), show min 4294967295 ((text.size : Int) - s).toNat = text.size - s by (first | lia | omega), e]
    dsimp only
    rw [if_pos (by (first | lia | omega)), more102 rfl, q3, more102 rfl, q4, if_neg (by (first | lia | omega)), hd, e2]
    dsimp only
    rw [more102 rfl, q5, more102 rfl, q6, if_pos (by (first | lia | omega)), show 9 = 2 + 7 from rfl, runFor_add, q1, more102 rfl, q2, if_pos (by (first | lia | omega)), more102 rfl, q3, more102 rfl, q4, if_pos (by (first | lia | omega)), more102 rfl, q5, more102 rfl, q6, if_neg (by (first | lia | omega)), more102 rfl, q9]
    rfl
  obtain ⟨m', h1, h2⟩ := h
  exact (foundP_of h1 (by decide)).1 h2
end
end Mine
namespace Mine
set_option genSizeOf false
set_option genInjectivity false
section
variable {P D R X : List Nat} {k fuel e : Nat} {l : List Str}
theorem getD_arr {a : List Nat} : a.toArray.getD k 0 = a.getD k 0 := by simp
theorem getD_app : (P ++ R).toArray.getD P.length 0 = R.headD 0 := by
  rw [getD_arr, List.getD_eq_getElem?_getD, List.getElem?_append_right (Nat.le_refl _), Nat.sub_self]
  cases R <;> rfl
theorem digRun_app (hR : isDig (R.headD 0) = false) (hd : ∀ c ∈ D, isDig c = true) : ∀ {P : List Nat} {k : Nat}, D.length ≤ k → digRun (P ++ (D ++ R)).toArray k P.length = D.length := by
  induction D with
  | nil => exact fun _ => digRun0 (by rw [List.nil_append, getD_app]; exact hR)
  | cons c D ih =>
    intro P k hk
    cases k with
    | zero => cases hk
    | succ k =>
      have := ih (fun d h => hd d (List.mem_cons_of_mem _ h)) (P := P ++ [c]) (Nat.le_of_succ_le_succ hk)
      rw [List.append_assoc, List.length_append] at this
      rw [digRun, getD_app, if_pos (show isDig ((c :: D ++ R).headD 0) = true from hd c List.mem_cons_self)]
      exact congrArg (· + 1) this
theorem cut102 (hD : 1 ≤ D.length) (h : ∃ m, foundP (2 ^ 60) (Sre.forSearch code102 (P ++ (D ++ R)).toArray 1 P.length (P ++ (D ++ R)).toArray.size false) = some (some m) ∧ m.start = P.length ∧ m.handed = P.length + D.length ∧ groupP (P ++ (D ++ R)).toArray m = some ((P ++ (D ++ R)).toArray.extract P.length (P.length + D.length)))
    (ih : splitLoopP code102 (P ++ (D ++ R)).toArray fuel (P.length + D.length) (P.length + D.length) false = some (l, e)) : splitLoopP code102 (P ++ (D ++ R)).toArray (fuel + 1) P.length P.length false = some (txt [] :: txt D :: l, e) := by
  obtain ⟨m, e1, e2, e3, e4⟩ := h
  rw [splitLoopP, e1]
  dsimp only
  rw [e2, e3, e4, beq_eq_false_iff_ne.mpr (show P.length + D.length ≠ P.length by (first | lia | omega)), ih]
  dsimp only
  rw [List.extract_toArray, List.extract_toArray, List.extract_eq_take_drop, List.extract_eq_take_drop, List.drop_left, Nat.add_sub_cancel_left, List.take_left, Nat.sub_self, List.take_zero]
  rfl
inductive Tk (X : List Nat) : List (List Nat) → Prop
  | nil : Tk X []
  | num {D : List Nat} {r : List (List Nat)} : 1 ≤ D.length → (∀ c ∈ D, isDig c = true) → isDig ((r.flatten ++ X).headD 0) = false → Tk X r → Tk X (D :: r)
  | dot {r : List (List Nat)} : Tk X r → Tk X ([46] :: r)
theorem Tk.cuts {r : List (List Nat)} (h : Tk X r) (hX : X = [] ∨ X = [120]) : ∀ {P : List Nat} {fuel : Nat}, (P ++ (r.flatten ++ X)).length ≤ 900 → r.length < fuel → splitLoopP code102 (P ++ (r.flatten ++ X)).toArray fuel P.length P.length false = some (r.flatMap fun D => [txt [], txt D], P.length + r.flatten.length) := by
  induction h with
  | nil =>
    intro P fuel hl hf
    cases fuel with
    | zero => cases hf
    | succ f =>
      rcases hX with rfl | rfl
      · have h := end102 (text := P.toArray)
        rw [List.size_toArray] at h
        rw [List.flatten_nil, List.append_nil, List.append_nil, splitLoopP, List.size_toArray, h]; rfl
      · have h := find_x (text := (P ++ [120]).toArray) (s := P.length) (by rw [List.size_toArray, List.length_append]; rfl) (by rw [List.size_toArray]; exact Nat.le_trans hl (by decide)) getD_app
        rw [List.flatten_nil, List.nil_append, splitLoopP, h]; rfl
  | @num D r h1 h2 h3 _ ih =>
    intro P fuel hl hf
    cases fuel with
    | zero => cases hf
    | succ f =>
      rw [List.flatten_cons, List.append_assoc] at hl ⊢
      have := ih (P := P ++ D) (fuel := f) (by rw [List.append_assoc]; exact hl) (Nat.lt_of_succ_lt_succ hf)
      rw [List.append_assoc, List.length_append] at this
      rw [List.flatMap_cons, List.length_append, ← Nat.add_assoc]
      have hs : (P ++ (D ++ (r.flatten ++ X))).toArray.size = P.length + (D.length + (r.flatten ++ X).length) := by rw [List.size_toArray, List.length_append, List.length_append]
      exact cut102 h1 (find_num (by (first | lia | omega)) (by rw [List.size_toArray]; (first | lia | omega)) (digRun_app h3 h2 (by (first | lia | omega))) h1) this
  | @dot r _ ih =>
    intro P fuel hl hf
    cases fuel with
    | zero => cases hf
    | succ f =>
      rw [List.flatten_cons, List.append_assoc] at hl ⊢
      have := ih (P := P ++ [46]) (fuel := f) (by rw [List.append_assoc]; exact hl) (Nat.lt_of_succ_lt_succ hf)
      rw [List.append_assoc, List.length_append] at this
      rw [List.flatMap_cons, List.length_append, ← Nat.add_assoc]
      have hs : (P ++ ([46] ++ (r.flatten ++ X))).toArray.size = P.length + (1 + (r.flatten ++ X).length) := by rw [List.size_toArray, List.length_append, List.length_append]; rfl
      exact cut102 (D := [46]) (Nat.le_refl _) (find_dot (by (first | lia | omega)) (by rw [List.size_toArray]; (first | lia | omega)) (by rw [getD_app]; rfl)) this
theorem Tk.split {r : List (List Nat)} (h : Tk X r) (hX : X = [] ∨ X = [120]) (hl : (r.flatten ++ X).length ≤ 900) (hr : r.length ≤ (r.flatten ++ X).length) : splitP code102 (r.flatten ++ X).toArray = some ((r.flatMap fun D => [txt [], txt D]) ++ [txt X]) := by
  have := h.cuts hX (P := []) (fuel := 2 * (r.flatten ++ X).toArray.size + 3) hl (by rw [List.size_toArray]; (first | lia | omega))
  rw [List.nil_append, List.length_nil, Nat.zero_add] at this
  unfold splitP
  rw [this]
  show some (_ ++ [_]) = _
  rw [List.extract_toArray, List.extract_eq_take_drop, List.drop_left, List.size_toArray, List.length_append, Nat.add_sub_cancel_left, List.take_length]
  rfl
end
end Mine
namespace Mine
set_option genSizeOf false
set_option genInjectivity false
noncomputable def figN (n : Nat) : List Nat := if n < 10 then [48 + n] else [48 + n / 10, 48 + n % 10]
theorem figures_txt {n : Nat} : figures n = txt (figN n) := by unfold figures figN; split <;> rfl
noncomputable def small1 (L : List Nat) : Bool := decide (L.length ≤ 10) && (okText (txt L) && !L.contains 46)
noncomputable def readOk (n : Nat) (L : List Nat) : Bool := small1 L && PySem.intText? (txt L) == some (n : Int)
noncomputable def numOk (n : Nat) (L : List Nat) : Bool := (readOk n L && partQ (txt L)) && (decide (1 ≤ L.length) && L.all isDig)
noncomputable def fronts : List (List Nat) := [[], [48], [43], [32], [48, 95]]
theorem num_all : (List.range 37).all (fun n => (numOk n (figN n) && numOk n (48 :: figN n)) && (fronts.all fun f => readOk n (f ++ figN n)) && (small1 (figN n ++ [120]) && (PySem.intText? (txt (figN n ++ [120]))).isNone)) = true := by decide +kernel
theorem few_all : (readOk 9 [57] && readOk 8 [56]) && (small1 [120] && (PySem.intText? (txt [120])).isNone) = true := by decide +kernel
section
variable {ps bs zs : List (List Nat)} {L : List Nat} {n : Nat}
theorem joinT_le {k : Nat} (h : ∀ p ∈ ps, p.length ≤ k) : (joinT [46] ps).length ≤ ps.length * (k + 1) := by
  induction ps with
  | nil => exact Nat.zero_le _
  | cons p r ih =>
    have ih := ih fun q hq => h q (List.mem_cons_of_mem _ hq)
    have := h p List.mem_cons_self
    rw [List.length_cons, Nat.succ_mul]
    cases r with
    | nil => show p.length ≤ _; (first | lia | omega)
    | cons q r =>
      rw [joinT, List.length_append, List.length_append, List.length_singleton]
      (first | lia | omega)
theorem sum_le {k : Nat} (h : ∀ p ∈ ps, p.length ≤ k) : (ps.map List.length).sum ≤ ps.length * k := by
  induction ps with
  | nil => exact Nat.zero_le _
  | cons p r ih =>
    have ih := ih fun q hq => h q (List.mem_cons_of_mem _ hq)
    have := h p List.mem_cons_self
    rw [List.map_cons, List.sum_cons, List.length_cons, Nat.succ_mul]
    (first | lia | omega)
theorem small_at (h : small1 L = true) : L.length ≤ 10 ∧ okText (txt L) = true ∧ 46 ∉ L :=
  ⟨of_decide_eq_true (and1 h), and1 (and2 h), fun q => by rw [small1, List.contains_iff_mem.mpr q, Bool.not_true, Bool.and_false, Bool.and_false] at h; cases h⟩
theorem norm_of (hne : ps ≠ []) (hb : bs = [] ∨ ∃ z, z ≠ [] ∧ bs = [z]) (hl : (ps ++ bs).length ≤ 10) (hp : ∀ p ∈ ps ++ bs, small1 p = true) (hz : strsOf ((ps ++ bs).map txt) = zs.map txt) (hzl : ∀ z ∈ zs, z.length ≤ 10) :
    normOk (txt (joinT [46] ps)) (txt bs.flatten) = true ∧ normP (txt (joinT [46] ps)) (txt bs.flatten) = txt (joinT [46] (zs.take 3)) := by
  have h1 := joinT_le (ps := ps) (k := 10) fun p q => (small_at (hp p (List.mem_append_left _ q))).1
  have hn : normL (txt (joinT [46] ps)) (txt bs.flatten) = (ps ++ bs).map txt := by
    rw [normL, show Str.ofString "." = txt [46] from rfl, split_joined hne (fun p q => (small_at (hp p (List.mem_append_left _ q))).2.2) (by decide), List.map_append]
    refine congrArg _ ?_
    rcases hb with rfl | ⟨z, hz', rfl⟩
    · rfl
    · rw [List.flatten_singleton, txt_len, if_pos (bne_iff_ne.mpr (Int.natCast_ne_zero.mpr fun e => hz' (List.length_eq_zero_iff.mp e)))]; rfl
  have h2 : bs.flatten.length ≤ 10 := by
    rcases hb with rfl | ⟨z, hz, rfl⟩
    · exact Nat.zero_le _
    · rw [List.flatten_singleton]; exact (small_at (hp z (List.mem_append_right _ List.mem_cons_self))).1
  have h3 : ((zs.take 3).map List.length).sum ≤ 30 := Nat.le_trans (sum_le fun z q => hzl z (List.mem_of_mem_take q)) (Nat.mul_le_mul_right 10 (List.length_take_le _ _))
  have h4 := List.length_take_le 3 zs
  rw [List.length_append] at hl
  have hj : JoinOk (Str.ofString ".") ((zs.map txt).take 3) = true := by
    rw [← List.map_take]
    refine joinOk_txt (y := [46]) ?_
    have : sizeLine = 16777216 := rfl
    rw [List.length_singleton]; (first | lia | omega)
  refine ⟨?_, ?_⟩
  · rw [normOk, hn, hz, hj, txt_len, txt_len, decide_eq_true (show (joinT [46] ps).length ≤ 1000 by (first | lia | omega)), decide_eq_true (show bs.flatten.length ≤ 1000 by (first | lia | omega)), decide_eq_true (show ((ps ++ bs).map txt).length ≤ 100 by rw [List.length_map, List.length_append]; (first | lia | omega)), List.all_map, show (ps ++ bs).all (okText ∘ txt) = true from List.all_eq_true.mpr fun p q => (small_at (hp p q)).2.1]
    rfl
  · rw [normP, hn, hz, ← List.map_take]
    exact join_txt [46] _
end
end Mine
namespace Mine
set_option genSizeOf false
set_option genInjectivity false
section
variable {ps : List (List Nat)} {zs : List (List Nat × Nat)} {L A B C X : List Nat} {n a b c : Nat}
theorem num_at (h : n < 37) : ((numOk n (figN n) && numOk n (48 :: figN n)) && (fronts.all fun f => readOk n (f ++ figN n))) = true ∧ (small1 (figN n ++ [120]) && (PySem.intText? (txt (figN n ++ [120]))).isNone) = true := Bool.and_eq_true_iff.mp (List.all_eq_true.mp num_all n (List.mem_range.mpr h))
theorem figN_len : (figN n).length ≤ 10 := by
  unfold figN; split
  · exact (by decide : 1 ≤ 10)
  · exact (by decide : 2 ≤ 10)
theorem readOk_int (h : readOk n L = true) : PySem.intText? (txt L) = some (n : Int) := eq_of_beq (and2 h)
theorem strs_nums (h : ∀ z ∈ zs, readOk z.2 z.1 = true) : strsOf ((zs.map (·.1)).map txt) = (zs.map fun z => figN z.2).map txt := by
  rw [strsOf, if_pos, List.map_map, List.map_map, List.map_map]
  · refine List.map_congr_left fun z hz => ?_
    show reStr (txt z.1) = txt (figN z.2)
    rw [reStr, readOk_int (h z hz), ← figures_txt]; rfl
  · refine List.all_eq_true.mpr fun y hy => ?_
    obtain ⟨z, hz, rfl⟩ := List.mem_map.mp hy
    obtain ⟨w, hw, rfl⟩ := List.mem_map.mp hz
    rw [readOk_int (h w hw)]; rfl
theorem strs_left (h : ∃ p ∈ ps, (PySem.intText? (txt p)).isNone = true) : strsOf (ps.map txt) = ps.map txt := by
  obtain ⟨p, hp, e⟩ := h
  refine if_neg fun q => ?_
  have := List.all_eq_true.mp q (txt p) (List.mem_map.mpr ⟨p, hp, rfl⟩)
  rw [Option.isNone_iff_eq_none.mp e] at this; cases this
noncomputable def dueP (a b c : Nat) (x : Bool) : List PV := [.int 100, .int a, .int 100, .int b, .int 100, .int c] ++ if x = true then [.int 0, .str (Str.ofString "x")] else []
theorem ver_few : ((verOk (txt []) && verOk (txt [46])) && verOk (txt [120])) = true := by decide +kernel
theorem ver_nil : verItem (txt []) = [] ∧ verItem (txt [46]) = [] ∧ verItem (txt [120]) = [.int 0, .str (Str.ofString "x")] := ⟨by kernel_rfl, by kernel_rfl, by kernel_rfl⟩
theorem ver_num (h : numOk n L = true) : verOk (txt L) = true ∧ verItem (txt L) = [.int 100, .int n] := by
  have h1 := and1 (and1 h)
  have h2 := (small_at (and1 h1)).2.1
  have h3 := readOk_int h1
  have h4 := and2 (and1 h)
  rw [okText] at h2
  exact ⟨by rw [verOk, h4, and1 h2, h3]; rfl, by rw [verItem, if_pos h4, h3]⟩
theorem comp_of {x : Bool} (hA : numOk a A = true) (hB : numOk b B = true) (hC : numOk c C = true) (hX : X = if x = true then [120] else []) : ∃ parts, splitP code102 (A ++ ([46] ++ (B ++ ([46] ++ (C ++ X))))).toArray = some parts ∧ parts.all verOk = true ∧ parts.flatMap verItem = dueP a b c x := by
  have dg : ∀ {n L}, numOk n L = true → 1 ≤ L.length ∧ (∀ c ∈ L, isDig c = true) ∧ L.length ≤ 10 := fun h => ⟨of_decide_eq_true (and1 (and2 h)), List.all_eq_true.mp (and2 (and2 h)), (small_at (and1 (and1 (and1 h)))).1⟩
  have hX' : X = [] ∨ X = [120] := by cases x; exact .inl hX; exact .inr hX
  have tk : Tk X [A, [46], B, [46], C] := .num (dg hA).1 (dg hA).2.1 rfl (.dot (.num (dg hB).1 (dg hB).2.1 rfl (.dot (.num (dg hC).1 (dg hC).2.1 (by rcases hX' with rfl | rfl <;> rfl) .nil))))
  have e : [A, [46], B, [46], C].flatten ++ X = A ++ ([46] ++ (B ++ ([46] ++ (C ++ X)))) := by
    rw [List.flatten_cons, List.flatten_cons, List.flatten_cons, List.flatten_cons, List.flatten_singleton, List.append_assoc, List.append_assoc, List.append_assoc, List.append_assoc]
  have hl : (A ++ ([46] ++ (B ++ ([46] ++ (C ++ X))))).length = A.length + (1 + (B.length + (1 + (C.length + X.length)))) := by rw [List.length_append, List.length_append, List.length_append, List.length_append, List.length_append]; rfl
  have hx : X.length ≤ 1 := by rcases hX' with rfl | rfl <;> decide
  have := (dg hA).2.2; have := (dg hB).2.2; have := (dg hC).2.2; have := (dg hA).1; have := (dg hB).1; have := (dg hC).1
  have := tk.split hX' (by rw [e, hl]; (first | lia | omega)) (by rw [e, hl]; show 5 ≤ _; (first | lia | omega))
  rw [e] at this
  refine ⟨_, this, ?_, ?_⟩
  · show ((verOk (txt []) && (verOk (txt A) && (verOk (txt []) && (verOk (txt [46]) && (verOk (txt []) && (verOk (txt B) && (verOk (txt []) && (verOk (txt [46]) && (verOk (txt []) && (verOk (txt C) && (verOk (txt X) && true))))))))))) : Bool) = true
    rw [(ver_num hA).1, (ver_num hB).1, (ver_num hC).1, and1 (and1 ver_few), and2 (and1 ver_few)]
    rcases hX' with rfl | rfl
    · rw [and1 (and1 ver_few)]; rfl
    · rw [and2 ver_few]; rfl
  · show verItem (txt []) ++ (verItem (txt A) ++ (verItem (txt []) ++ (verItem (txt [46]) ++ (verItem (txt []) ++ (verItem (txt B) ++ (verItem (txt []) ++ (verItem (txt [46]) ++ (verItem (txt []) ++ (verItem (txt C) ++ (verItem (txt X) ++ [])))))))))) = _
    rw [(ver_num hA).2, (ver_num hB).2, (ver_num hC).2, ver_nil.1, ver_nil.2.1, hX]
    cases x
    · rw [if_neg Bool.false_ne_true, ver_nil.1]; rfl
    · rw [if_pos rfl, ver_nil.2.2]; rfl
end
end Mine
namespace Mine
set_option genSizeOf false
set_option genInjectivity false
noncomputable section
variable (c : Bool) {W : Ws} (Γ : Gam W) (n m : Nat) (sc : Scope)
noncomputable abbrev BdJ (c : Bool) (W : Ws) (sc : Scope) (ss : List Stmt) (ρ : Loc) (z : RV × Sto) : Prop := Bd c W sc ss ρ z.1 z.2
noncomputable def bdV (ss : List Stmt) : ∀ ρ, Vc (BdJ c W sc ss ρ) := List.rec (motive := fun ss => ∀ ρ, Vc (BdJ c W sc ss ρ)) (fun ρ => .no (.own, none)) (fun s ss r ρ =>
  have z : Vc (BdJ c W sc (s :: ss) ρ) := match exV c Γ n sc m s ρ none with
    | ⟨(.next, ρ₁, none), o, k⟩ => have b := r ρ₁; ⟨b.val, o && b.ob, fun h => Bd.cons (k (and1 h)) (b.ok (and2 h))⟩
    | ⟨(.ret v, ρ₁, σ₁), o, k⟩ => ⟨(v, σ₁), o, fun h => Bd.last (Exs.ret (k h))⟩
    | _ => .no (.own, none)
  match s, z with
  | .Assign [.Name x xp] (.List [] lp) p, z => match pvC (swapsWith (.List [] lp) (some (.Name x xp)) p.line (dEnv sc)) with
    | some ⟨false, hw⟩ => match cs c Γ n sc m ss (setP x .own ρ) (some []) with
      | ⟨(.ret v, ρ₁, σ₁), o, k⟩ => ⟨(v, σ₁), stoQ sc x && o, fun h => Bd.new (and1 h) New.nil hw (k (and2 h))⟩
      | _ => z
    | _ => z
  | _, z => z) ss
end
noncomputable def FnB (prog : Program) (w : World) (B : Bs) (a : Addr) (names : List Str) (D : Arguments × List Stmt × Scope) : Prop :=
  ∃ fd, FnOk B a fd names D.2.1 ∧ fd.scope = D.2.2 ∧ ∀ {A : Around} {s : Shared} {vals : List Value} {Q : List (Str × Value) → Shared → Prop} {E : Value → Shared → Prop}, Glob B s.heap → vals.length = names.length → Q (names.zip (vals ++ [])) s → wpAny (model prog w) A (bindArgs fd ⟨vals, []⟩) Q E s
section
variable {c : Bool} {W : Ws} {a : Addr} {names : List Str} {D : Arguments × List Stmt × Scope} {ps : List PV} {p : PV} {r : RV} {σ : Sto}
theorem FnB.spc (f : FnB W.prog W.w W.B a names D) (hl : ps.length = names.length) (hb : Bd c W D.2.2 D.2.1 (names.zip (ps.map RV.val)) r σ) (hh : Hands r σ p) (hk : backQ ps r p = true) : Spc c { W with k := W.k + 1 } a ps p := by
  obtain ⟨fd, h1, h2, h3⟩ := f
  refine @FnOk.spc c W a fd names _ [] ps [] p r σ h1 .nil (fun G e => h3 G (e.trans hl)) ?_ hh hk
  rw [List.append_nil, h2]
  exact hb
theorem FnB.is (f : FnB W.prog W.w W.B a names D) : ∃ o fd, W.B.g.get? a = some o ∧ o.data = .func fd := f.elim fun fd h => h.1.obj.elim fun o e => ⟨o, fd, e⟩
end
noncomputable section
variable (c : Bool) {W : Ws} {a : Addr} {names : List Str} {D : Arguments × List Stmt × Scope}
noncomputable def mkV (f : FnB W.prog W.w W.B a names D) (Γ : Gam W) (n m : Nat) (ps : List PV) : Vc (Spc c { W with k := W.k + 1 } a ps) := match bdV c Γ n m D.2.2 D.2.1 (names.zip (ps.map RV.val)) with
  | ⟨(.val p, σ), o, k⟩ => ⟨p, (decide (ps.length = names.length) && backQ ps (.val p) p) && o, fun h => f.spc (of_decide_eq_true (and1 (and1 h))) (k (and2 h)) (.inl rfl) (and2 (and1 h))⟩
  | ⟨(.own, some l), o, k⟩ => ⟨.lst l, (decide (ps.length = names.length) && backQ ps .own (.lst l)) && o, fun h => f.spc (of_decide_eq_true (and1 (and1 h))) (k (and2 h)) (.inr ⟨l, rfl, rfl, rfl⟩) (and2 (and1 h))⟩
  | _ => .no .none
end
end Mine
namespace Mine
set_option genSizeOf false
set_option genInjectivity false
noncomputable abbrev nm (l : List String) : List Str := l.map Str.ofString
noncomputable abbrev HBind (prog : Program) (w : World) (B : Bs) (fd : FuncData) (names : List Str) (n : Nat) (dv : List Value) : Prop :=
  ∀ {A : Around} {s : Shared} {vals : List Value} {Q : List (Str × Value) → Shared → Prop} {E : Value → Shared → Prop}, Glob B s.heap → vals.length = n → Q (names.zip (vals ++ dv)) s → wpAny (model prog w) A (bindArgs fd ⟨vals, []⟩) Q E s
structure Base (prog : Program) (w : World) (B : Bs) : Prop where
  ok : B.Ok
  glob : ∀ k, GlobOk ⟨prog, w, B, k, ok⟩
  stages : ∀ k, StagesOk ⟨prog, w, B, k, ok⟩
  p36 : Pat B.g 36 code36 0
  p41 : Pat B.g 41 code41 0
  p102 : Pat B.g 102 code102 1
  f48 : FnB prog w B 48 (nm ["data"]) (defOf' "quotedata")
  f55 : FnB prog w B 55 (nm ["a", "b", "n"]) (defOf' "_div2n1n")
  f69 : ∃ fd c P, TabB B c P pos69 qual69 ∧ FnOk B 69 fd (nm ["a", "n"]) D69.2.1 ∧ fd.scope = D69.2.2 ∧ fd.code = .ref c ∧ fd.qualname = Str.ofString "_int2digits" ∧ HBind prog w B fd (nm ["a", "n"]) 2 []
  f76 : ∃ fd c P, TabB B c P pos76 qual76 ∧ FnOk B 76 fd (nm ["digits", "n"]) D76.2.1 ∧ fd.scope = D76.2.2 ∧ fd.code = .ref c ∧ fd.qualname = Str.ofString "_digits2int" ∧ HBind prog w B fd (nm ["digits", "n"]) 2 []
  f83 : FnB prog w B 83 (nm ["a", "b"]) (defOf' "_divmod_pos")
  f90 : FnB prog w B 90 (nm ["a", "b"]) (defOf' "int_divmod")
  f97 : FnB prog w B 97 (nm ["num"]) (defOf' "Int2AP")
  f110 : FnB prog w B 110 (nm ["version"]) D110
  f118 : ∃ fd dv, FnOk B 118 fd (nm ["version", "build"]) D118.2.1 ∧ fd.scope = D118.2.2 ∧ HBind prog w B fd (nm ["version", "build"]) 2 [] ∧ Rels (fun _ => False) B.g dv [.str (Str.ofString "")] ∧ HBind prog w B fd (nm ["version", "build"]) 1 dv
  f123 : FnB prog w B 123 (nm ["cell"]) (defOf' "_law_line")
  f128 : FnB prog w B 128 (nm ["family", "cell"]) (defOf' "_law_multiples")
  f135 : FnB prog w B 135 (nm ["many", "some"]) (defOf' "_law_over")
  f142 : FnB prog w B 142 (nm ["count", "size", "cell"]) (defOf' "_law_grown")
  f147 : FnB prog w B 147 (nm ["script"]) (defOf' "law")
section
variable {prog : Program} {w : World} {B : Bs} (b : Base prog w B)
noncomputable abbrev Base.W (b : Base prog w B) (k : Nat) : Ws := ⟨prog, w, B, k, b.ok⟩
noncomputable def Base.v135 (ps : List PV) : Vc (Spc false (b.W 1) 135 ps) := mkV (W := b.W 0) false b.f135 (gamN (b.glob 0)) 30 6 ps
noncomputable def Base.v97 (ps : List PV) : Vc (Spc false (b.W 1) 97 ps) := mkV (W := b.W 0) false b.f97 (gamN (b.glob 0)) 30 6 ps
noncomputable def Base.v55 (ps : List PV) : Vc (Spc false (b.W 1) 55 ps) := mkV (W := b.W 0) false b.f55 (gamN (b.glob 0)) 30 6 ps
end
end Mine
namespace Mine
set_option genSizeOf false
set_option genInjectivity false
noncomputable def quoteP (x : Str) : Str := ⟨(dotsL true (crlfL x.cps.toList)).toArray⟩
section
variable {prog : Program} {w : World} {B : Bs} (b : Base prog w B) {x : Str}
noncomputable def Base.me (k : Nat) : MeV (b.W k) := fun a m ps => if hm : m = Str.ofString "sub" then (match ps with
  | [.str y, .str x] => if ha : a = 36 then (if hy : y = ⟨#[46, 46]⟩ then ⟨.str ⟨(dotsL true x.cps.toList).toArray⟩, decide (x.cps.size ≤ 1048576), fun h => hm ▸ ha ▸ hy ▸ dots_spec b.p36 (of_decide_eq_true h)⟩ else .no .none)
    else if ha : a = 41 then (if hy : y = ⟨#[13, 10]⟩ then ⟨.str ⟨(crlfL x.cps.toList).toArray⟩, decide (x.cps.size ≤ 1048576), fun h => hm ▸ ha ▸ hy ▸ crlf_spec b.p41 (of_decide_eq_true h)⟩ else .no .none) else .no .none
  | _ => .no .none) else .no .none
theorem Base.spec48 (h : x.cps.size ≤ 2 ^ 19) : Spc false (b.W 1) 48 [.str x] (.str (quoteP x)) := by
  have h2 := crlf_len _ x.cps.toList (Nat.le_refl _)
  have e2 : x.cps.toList.length = x.cps.size := Array.length_toList
  refine @Vc.use _ _ (mkV (W := b.W 0) false b.f48 (gam (b.glob 0) (noFns _) (b.me 0)) 30 6 [.str x]) (.str (quoteP x)) (by kernel_rfl) (Eq.trans (b := (decide (x.cps.size ≤ 1048576) && true) && decide ((crlfL x.cps.toList).length ≤ 1048576)) (by kernel_rfl) ?_)
  rw [decide_eq_true (show x.cps.size ≤ 1048576 by (first | lia | omega)), decide_eq_true (show (crlfL x.cps.toList).length ≤ 1048576 from Nat.le_trans h2 (by rw [e2]; (first | lia | omega)))]
  rfl
end
end Mine
namespace Mine
set_option genSizeOf false
set_option genInjectivity false
noncomputable abbrev D55 : Arguments × List Stmt × Scope := defOf' "_div2n1n"
noncomputable abbrev if55 : Expr × List Stmt × List Stmt × Pos := ifP (stAt D55.2.1 0)
noncomputable def ρ55 (x y n : Int) : Loc := [nv "a" (ri x), nv "b" (ri y), nv "n" (ri n)]
theorem b55 : D55.2.1 = .If if55.1 if55.2.1 [] if55.2.2.2 :: D55.2.1.drop 1 := by kernel_rfl
section
variable {prog : Program} {w : World} {B : Bs} (b : Base prog w B) {x y n : Int}
theorem Base.spec55 (hx : small x = true) (hn : 0 ≤ n) (hy : y ≠ 0) (hy2 : y.natAbs < 2 ^ 30) : Spc false (b.W 1) 55 [.int x, .int y, .int n] (.tup [.int (x.fdiv y), .int (x.fmod y)]) := by
  have hb : Builtin.Int.intBits x ≤ 64 := intBits_le_iff.mpr (of_decide_eq_true hx)
  refine @FnB.spc false (b.W 0) 55 _ _ [.int x, .int y, .int n] _ (.val _) none b.f55 rfl ?_ (.inl rfl) rfl
  rw [b55]
  have t : Tst (b.W 0) D55.2.2 none (ρ55 x y n) if55.1 true := Vc.use (ce (gamN (b.glob 0)) 6 D55.2.2 (ρ55 x y n) if55.1).2 (Eq.trans (b := decide (((Builtin.Int.intBits x : Nat) : Int) - n ≤ 4000)) (by kernel_rfl) (decide_eq_true (by (first | lia | omega)))) (Eq.trans (b := (small x && true) && true) (by kernel_rfl) (by rw [hx]; rfl))
  have r : ExsJ false (b.W 0) D55.2.2 if55.2.1 (ρ55 x y n) none (.ret (.val (.tup [.int (x.fdiv y), .int (x.fmod y)])), ρ55 x y n, none) := Vc.use (cs false (gamN (b.glob 0)) 6 D55.2.2 3 if55.2.1 (ρ55 x y n) none) (by kernel_rfl) (Eq.trans (b := !decide (y = 0) && decide (y.natAbs < 2 ^ 30)) (by kernel_rfl) (by rw [decide_eq_false hy, decide_eq_true hy2]; rfl))
  intro F s₀
  exact Bd.last (ρ' := ρ55 x y n) (Exs.ret (Ex.iteT t r))
end
end Mine
namespace Mine
set_option genSizeOf false
set_option genInjectivity false
noncomputable def ldR (b n : Nat) : List Nat → Nat
  | [] => 0
  | d :: r => (ldR b n r * 2 ^ n + d) % b
noncomputable def ldQ (b n : Nat) : List Nat → List Nat
  | [] => []
  | d :: r => ((ldR b n r * 2 ^ n + d) / b) :: ldQ b n r
section
variable {b n m x : Nat} {ds : List Nat}
theorem ld_ok (hb : 0 < b) : valD n ds = valD n (ldQ b n ds) * b + ldR b n ds := by
  induction ds with
  | nil => exact (Nat.zero_mul b).symm
  | cons d r ih =>
    have h := Nat.div_add_mod (ldR b n r * 2 ^ n + d) b
    rw [valD, ldQ, valD, ldR, ih, Nat.mul_add, Nat.add_mul, Nat.mul_assoc, Nat.mul_comm (2 ^ n) (ldR b n r), Nat.mul_comm (_ / b) b]
    (first | lia | omega)
theorem ldR_lt (hb : 0 < b) : ldR b n ds < b := by
  cases ds with
  | nil => exact hb
  | cons => exact Nat.mod_lt _ hb
theorem ld_div (hb : 0 < b) : valD n (ldQ b n ds) = valD n ds / b ∧ ldR b n ds = valD n ds % b := by
  have h1 := ldR_lt (n := n) (ds := ds) hb
  rw [ld_ok (n := n) (ds := ds) hb, Nat.mul_comm, Nat.mul_add_div hb, Nat.div_eq_of_lt h1, Nat.mul_add_mod, Nat.mod_eq_of_lt h1]
  exact ⟨rfl, rfl⟩
theorem ld_top {d : Nat} (hb : 0 < b) (hd : d < 2 ^ n) : ldR b n ds * 2 ^ n + d < b * 2 ^ n := by
  have h := Nat.mul_le_mul_right (2 ^ n) (show ldR b n ds + 1 ≤ b from ldR_lt hb)
  rw [Nat.add_mul, Nat.one_mul] at h
  (first | lia | omega)
theorem ldQ_lt (hb : 0 < b) (h : ∀ d ∈ ds, d < 2 ^ n) : ∀ q ∈ ldQ b n ds, q < 2 ^ n := by
  induction ds with
  | nil => exact fun _ h => nomatch h
  | cons d r ih =>
    intro q hq
    rcases List.mem_cons.mp hq with rfl | hq
    · exact Nat.div_lt_of_lt_mul (ld_top hb (h d List.mem_cons_self))
    · exact ih (fun d hd => h d (List.mem_cons_of_mem _ hd)) q hq
theorem ldQ_len : (ldQ b n ds).length = ds.length := by
  induction ds with
  | nil => rfl
  | cons d r ih => exact congrArg (· + 1) ih
theorem digs_succ : digs x n (m + 1) = x % 2 ^ n :: digs (x / 2 ^ n) n m := by
  rw [digs, digs, List.range_succ_eq_map, List.map_cons, List.map_map, Nat.mul_zero, Nat.pow_zero, Nat.div_one]
  refine congrArg _ (List.map_congr_left fun i _ => ?_)
  show x / 2 ^ (n * (i + 1)) % 2 ^ n = _
  rw [Nat.mul_succ, Nat.add_comm, Nat.pow_add, ← Nat.div_div_eq_div_mul]
theorem valD_digs : ∀ {x : Nat}, x < 2 ^ (n * m) → valD n (digs x n m) = x := by
  induction m with
  | zero => intro x h; rw [Nat.mul_zero] at h; exact (Nat.lt_one_iff.mp h).symm
  | succ m ih =>
    intro x h
    rw [Nat.mul_succ, Nat.add_comm, Nat.pow_add] at h
    rw [digs_succ, valD, ih (Nat.div_lt_of_lt_mul h), Nat.mod_add_div]
theorem digs_lt : ∀ d ∈ digs x n m, d < 2 ^ n := fun d h => (List.mem_map.mp h).elim fun i z => z.2 ▸ Nat.mod_lt _ (Nat.two_pow_pos n)
end
theorem Loop.snoc {c : Bool} {W : Ws} {sc : Scope} {t : Expr} {body : List Stmt} {its : List PV} {p : PV} {ρ ρ₁ ρ₂ ρ₃ : Loc} {σ σ₁ σ₂ : Sto} (h : Loop c W sc t body its ρ σ ρ₁ σ₁) (ha : Asg W false sc t p ρ₁ ρ₂) (hb : Exs c W sc body ρ₂ σ₁ .next ρ₃ σ₂) : Loop c W sc t body (its ++ [p]) ρ σ ρ₃ σ₂ := by
  induction h with
  | nil => exact .cons ha hb .nil
  | cons h1 h2 _ ih => exact .cons h1 h2 (ih ha hb)
end Mine
namespace Mine
set_option genSizeOf false
set_option genInjectivity false
section
variable {prog : Program} {w : World} {B : Bs} (b : Base prog w B) {k x n : Nat} {l : List Nat}
theorem Base.spec69 (hn : 1 ≤ n) (hn60 : n ≤ 60) (hm : n * count69 x n ≤ 60) (hk : count69 x n + 1 ≤ k) : Spc false (b.W (k + 1)) 69 [nI x, nI n] (.lst (nL (digs x n (count69 x n)))) := by
  obtain ⟨fd, c, P, h1, h2, h3, h4, h5, h6⟩ := b.f69
  exact @Mine.spec69 (b.W k) x n (b.glob k) c P 69 fd h1 h2 h3 h4 h5 h6 hn hn60 hm hk
theorem Base.spec76 (hn : 1 ≤ n) (hm : n * l.length ≤ 60) (hb : ∀ x ∈ l, x < 2 ^ n) (hk : l.length + 1 ≤ k) : Spc false (b.W (k + 1)) 76 [.lst (nL l), nI n] (nI (valD n l)) := by
  obtain ⟨fd, c, P, h1, h2, h3, h4, h5, h6⟩ := b.f76
  exact @Mine.spec76 (b.W k) n l (b.glob k) c P 76 fd h1 h2 h3 h4 h5 h6 hn hm hb hk
include b in
theorem Base.is69 : ∃ o fd, B.g.get? 69 = some o ∧ o.data = .func fd := b.f69.elim fun fd h => h.elim fun c h => h.elim fun P h => h.2.1.obj.elim fun o e => ⟨o, fd, e⟩
include b in
theorem Base.is76 : ∃ o fd, B.g.get? 76 = some o ∧ o.data = .func fd := b.f76.elim fun fd h => h.elim fun c h => h.elim fun P h => h.2.1.obj.elim fun o e => ⟨o, fd, e⟩
end
end Mine
namespace Mine
set_option genSizeOf false
set_option genInjectivity false
noncomputable abbrev D83 : Arguments × List Stmt × Scope := defOf' "_divmod_pos"
noncomputable abbrev for83 : Expr × Expr × List Stmt × Pos := forP (stAt D83.2.1 4)
theorem b83 : D83.2.1 = [stAt D83.2.1 0, stAt D83.2.1 1, stAt D83.2.1 2, stAt D83.2.1 3, .For for83.1 for83.2.1 for83.2.2.1 [] for83.2.2.2, stAt D83.2.1 5, stAt D83.2.1 6, stAt D83.2.1 7] := by kernel_rfl
noncomputable def ρ83 (x y n : Nat) (ds : List PV) (r : Int) (tl : Loc) : Loc := [nv "a" (.val (nI x)), nv "b" (.val (nI y)), nv "n" (.val (nI n)), nv "a_digits" (.val (.lst ds)), nv "r" (ri r), nv "q_digits" .own] ++ tl
noncomputable def tl83 (d q : Int) : Loc := [nv "a_digit" (ri d), nv "q_digit" (ri q)]
section
variable {prog : Program} {w : World} {B : Bs} (b : Base prog w B)
noncomputable def Base.c55 (k : Nat) : FnV (b.W (k + 1)) := fun m ps => if h : m = 55 then (match ps with
  | [.int x, .int y, .int n] => ⟨.tup [.int (x.fdiv y), .int (x.fmod y)], small x && (decide (0 ≤ n) && (decide (y ≠ 0) && decide (y.natAbs < 2 ^ 30))), fun q => h ▸ ⟨b.f55.is (W := b.W 0), Spc.up (W := b.W 1) (k := k + 1) (b.spec55 (and1 q) (of_decide_eq_true (and1 (and2 q))) (of_decide_eq_true (and1 (and2 (and2 q)))) (of_decide_eq_true (and2 (and2 (and2 q))))) (Nat.succ_le_succ (Nat.zero_le k))⟩⟩
  | _ => .no .none) else .no .none
noncomputable abbrev Base.g55 (k : Nat) : Gam (b.W (k + 1)) := gam (b.glob (k + 1)) (b.c55 k) (noMe _)
theorem Base.turn83 {k x y n : Nat} {ds L : List PV} {r d : Int} {tl : Loc} (ht : tl = [nv "a_digit" (ri d)] ∨ ∃ q, tl = tl83 d q) (h1 : small r = true) (h2 : small (r * 2 ^ n + d) = true) (hn : n ≤ 60) (hy : 0 < y) (hy2 : y < 2 ^ 30) (hL : L.length ≤ 1000) :
    Exs false (b.W (k + 1)) D83.2.2 for83.2.2.1 (ρ83 x y n ds r tl) (some L) .next (ρ83 x y n ds ((r * 2 ^ n + d).fmod y) (tl83 d ((r * 2 ^ n + d).fdiv y))) (some (L ++ [.int ((r * 2 ^ n + d).fdiv y)])) := by
  have e : (((((((decide (0 ≤ (n : Int)) && decide ((n : Int) ≤ 1000)) && small r) && true) && true) && (small (r * 2 ^ n + d) && (decide (0 ≤ (n : Int)) && (decide ((y : Int) ≠ 0) && decide ((y : Int).natAbs < 2 ^ 30))))) && true) && (decide (L.length < 1048576) && true)) = true := by
    rw [h1, h2, decide_eq_true (show 0 ≤ (n : Int) by (first | lia | omega)), decide_eq_true (show (n : Int) ≤ 1000 by (first | lia | omega)), decide_eq_true (show (y : Int) ≠ 0 by (first | lia | omega)), decide_eq_true (show (y : Int).natAbs < 2 ^ 30 by (first | lia | omega)), decide_eq_true (show L.length < 1048576 by (first | lia | omega))]
    rfl
  rcases ht with rfl | ⟨q, rfl⟩
  · exact @Vc.use _ (ExsJ false (b.W (k + 1)) D83.2.2 for83.2.2.1 (ρ83 x y n ds r [nv "a_digit" (ri d)]) (some L)) (cs false (b.g55 k) 8 D83.2.2 3 for83.2.2.1 (ρ83 x y n ds r [nv "a_digit" (ri d)]) (some L)) (.next, ρ83 x y n ds ((r * 2 ^ n + d).fmod y) (tl83 d ((r * 2 ^ n + d).fdiv y)), some (L ++ [.int ((r * 2 ^ n + d).fdiv y)])) (by kernel_rfl) (Eq.trans (by kernel_rfl) e)
  · exact @Vc.use _ (ExsJ false (b.W (k + 1)) D83.2.2 for83.2.2.1 (ρ83 x y n ds r (tl83 d q)) (some L)) (cs false (b.g55 k) 8 D83.2.2 3 for83.2.2.1 (ρ83 x y n ds r (tl83 d q)) (some L)) (.next, ρ83 x y n ds ((r * 2 ^ n + d).fmod y) (tl83 d ((r * 2 ^ n + d).fdiv y)), some (L ++ [.int ((r * 2 ^ n + d).fdiv y)])) (by kernel_rfl) (Eq.trans (by kernel_rfl) e)
end
end Mine
namespace Mine
set_option genSizeOf false
set_option genInjectivity false
section
variable {prog : Program} {w : World} {B : Bs} (b : Base prog w B) {k x y n : Nat} {D : List PV} {ds : List Nat}
include b in
theorem asg83 {r d d' q : Int} : Asg (b.W (k + 1)) false D83.2.2 for83.1 (.int d) (ρ83 x y n D r []) (ρ83 x y n D r [nv "a_digit" (ri d)]) ∧ Asg (b.W (k + 1)) false D83.2.2 for83.1 (.int d) (ρ83 x y n D r (tl83 d' q)) (ρ83 x y n D r (tl83 d q)) :=
  ⟨(@Vc.use _ (AsgJ (b.W (k + 1)) false D83.2.2 for83.1 (.int d) (ρ83 x y n D r [])) (asgV (b.W (k + 1)) D83.2.2 false 4 for83.1 (.int d) (ρ83 x y n D r [])) (ρ83 x y n D r [nv "a_digit" (ri d)]) (by kernel_rfl) (by kernel_rfl)).1,
    (@Vc.use _ (AsgJ (b.W (k + 1)) false D83.2.2 for83.1 (.int d) (ρ83 x y n D r (tl83 d' q))) (asgV (b.W (k + 1)) D83.2.2 false 4 for83.1 (.int d) (ρ83 x y n D r (tl83 d' q))) (ρ83 x y n D r (tl83 d q)) (by kernel_rfl) (by kernel_rfl)).1⟩
theorem Base.loop83 (hn : n ≤ 30) (hy : 0 < y) (hy2 : y < 2 ^ 30) (hd : ∀ d ∈ ds, d < 2 ^ n) (hl : ds.length ≤ 1000) : ∃ tl, (tl = [] ∨ ∃ d q, tl = tl83 d q) ∧
    Loop false (b.W (k + 1)) D83.2.2 for83.1 for83.2.2.1 (nL ds).reverse (ρ83 x y n D 0 []) (some []) (ρ83 x y n D (ldR y n ds : Nat) tl) (some (nL (ldQ y n ds)).reverse) := by
  induction ds with
  | nil => exact ⟨[], .inl rfl, .nil⟩
  | cons d r ih =>
    obtain ⟨tl, ht, h⟩ := ih (fun d h => hd d (List.mem_cons_of_mem _ h)) (Nat.le_of_succ_le hl)
    have htop := ld_top (n := n) (ds := r) hy (hd d List.mem_cons_self)
    have hp : (2 : Nat) ^ n ≤ 2 ^ 30 := Nat.pow_le_pow_right (by decide) hn
    have hm : y * 2 ^ n < 2 ^ 60 := Nat.lt_of_lt_of_le (Nat.mul_lt_mul_of_pos_right hy2 (Nat.two_pow_pos n)) (Nat.le_trans (Nat.mul_le_mul_left _ hp) (by decide))
    have hr := ldR_lt (n := n) (ds := r) hy
    have e : ((ldR y n r : Nat) : Int) * 2 ^ n + (d : Int) = ((ldR y n r * 2 ^ n + d : Nat) : Int) := by rw [pow_cast, Int.natCast_add, Int.natCast_mul]
    have f : (((ldR y n r * 2 ^ n + d : Nat) : Int)).fmod (y : Int) = ((ldR y n (d :: r) : Nat) : Int) := by rw [Int.fmod_eq_emod_of_nonneg _ (Int.natCast_nonneg y), ← Int.natCast_emod]; rfl
    have t : ∀ {tl}, (tl = [nv "a_digit" (ri d)] ∨ ∃ q, tl = tl83 d q) → Exs false (b.W (k + 1)) D83.2.2 for83.2.2.1 (ρ83 x y n D (ldR y n r : Nat) tl) (some (nL (ldQ y n r)).reverse) .next (ρ83 x y n D (ldR y n (d :: r) : Nat) (tl83 d (((ldR y n r * 2 ^ n + d) / y : Nat) : Int))) (some ((nL (ldQ y n r)).reverse ++ [nI ((ldR y n r * 2 ^ n + d) / y)])) := fun {tl} ht => by
      have := @Base.turn83 prog w B b k x y n D (nL (ldQ y n r)).reverse (ldR y n r : Nat) d tl ht (small_nat (by (first | lia | omega))) (by rw [e]; exact small_nat (by (first | lia | omega))) (by (first | lia | omega)) hy hy2 (by rw [List.length_reverse, List.length_map, ldQ_len]; exact Nat.le_of_succ_le hl)
      rw [e, f, fdiv_cast] at this
      exact @this
    rw [nL, List.map_cons, List.reverse_cons, ldQ, nL, List.map_cons, List.reverse_cons]
    rcases ht with rfl | ⟨d', q, rfl⟩
    · exact ⟨_, .inr ⟨_, _, rfl⟩, h.snoc (asg83 b (d' := 0) (q := 0)).1 (t (.inl rfl))⟩
    · exact ⟨_, .inr ⟨_, _, rfl⟩, h.snoc (asg83 b).2 (t (.inr ⟨_, rfl⟩))⟩
end
end Mine
namespace Mine
set_option genSizeOf false
set_option genInjectivity false
section
variable {prog : Program} {w : World} {B : Bs} (b : Base prog w B) {k x y n : Nat} {D : List PV} {ds L : List Nat}
include b in
theorem p83 {r : Int} {tl : Loc} (ht : tl = [] ∨ ∃ d q, tl = tl83 d q) : Itm (b.W (k + 1)) D83.2.2 (some []) (ρ83 x y n D 0 []) for83.1 for83.2.1 D.reverse ∧
    (L.length ≤ 1000 → Ex false (b.W (k + 1)) D83.2.2 (stAt D83.2.1 5) (ρ83 x y n D r tl) (some (nL L)) .next (ρ83 x y n D r tl) (some (nL L).reverse)) := by
  refine ⟨@Vc.use _ (fun l => Itm (b.W (k + 1)) D83.2.2 (some []) (ρ83 x y n D 0 []) for83.1 for83.2.1 l) (itmV (gamN (b.glob (k + 1))) (some []) D83.2.2 (ρ83 x y n D 0 []) for83.1 for83.2.1 (ce (gamN (b.glob (k + 1))) 4 D83.2.2 (ρ83 x y n D 0 []) for83.2.1).1 fun sc ρ e => (ce (gamN (b.glob (k + 1))) 4 sc ρ e).1) D.reverse (by kernel_rfl) (by kernel_rfl), fun h => ?_⟩
  have e : ((nL L).length ≤ 1048576) := by rw [List.length_map]; (first | lia | omega)
  rcases ht with rfl | ⟨d, q, rfl⟩
  · exact @Vc.use _ (ExJ false (b.W (k + 1)) D83.2.2 (stAt D83.2.1 5) (ρ83 x y n D r []) (some (nL L))) (exV false (gamN (b.glob (k + 1))) 4 D83.2.2 2 (stAt D83.2.1 5) (ρ83 x y n D r []) (some (nL L))) (.next, ρ83 x y n D r [], some (nL L).reverse) (by kernel_rfl) (Eq.trans (b := decide ((nL L).length ≤ 1048576)) (by kernel_rfl) (decide_eq_true e))
  · exact @Vc.use _ (ExJ false (b.W (k + 1)) D83.2.2 (stAt D83.2.1 5) (ρ83 x y n D r (tl83 d q)) (some (nL L))) (exV false (gamN (b.glob (k + 1))) 4 D83.2.2 2 (stAt D83.2.1 5) (ρ83 x y n D r (tl83 d q)) (some (nL L))) (.next, ρ83 x y n D r (tl83 d q), some (nL L).reverse) (by kernel_rfl) (Eq.trans (b := decide ((nL L).length ≤ 1048576)) (by kernel_rfl) (decide_eq_true e))
end
end Mine
namespace Mine
set_option genSizeOf false
set_option genInjectivity false
section
variable {prog : Program} {w : World} {B : Bs} (b : Base prog w B) {k x y n : Nat} {D : List PV} {L : List Nat}
include b in
theorem q83 {r : Int} {tl : Loc} (ht : tl = [] ∨ ∃ d q, tl = tl83 d q) (hn : 1 ≤ n) (hm : n * L.length ≤ 60) (hb : ∀ x ∈ L, x < 2 ^ n) (hk : L.length + 1 ≤ k) :
    ∃ ρ', Exs false (b.W (k + 1)) D83.2.2 [stAt D83.2.1 6, stAt D83.2.1 7] (ρ83 x y n D r tl) (some (nL L)) (.ret (.val (.tup [nI (valD n L), .int r]))) ρ' (some (nL L)) := by
  have a : Ars (b.W (k + 1)) D83.2.2 (some (nL L)) (ρ83 x y n D r tl) (callE (match stAt D83.2.1 6 with | .Assign _ e _ => e | _ => .Name ⟨#[]⟩ ⟨0, 0, 0, 0⟩)) [.lst (nL L), nI n] := by
    rcases ht with rfl | ⟨d, q, rfl⟩
    · exact Vc.use (arsV (fun e => rdV (ce (gamN (b.glob (k + 1))) 4 D83.2.2 (ρ83 x y n D r []) e).1) _) (by kernel_rfl) (by kernel_rfl)
    · exact Vc.use (arsV (fun e => rdV (ce (gamN (b.glob (k + 1))) 4 D83.2.2 (ρ83 x y n D r (tl83 d q)) e).1) _) (by kernel_rfl) (by kernel_rfl)
  have e : Ex false (b.W (k + 1)) D83.2.2 (stAt D83.2.1 6) (ρ83 x y n D r tl) (some (nL L)) .next (setP (Str.ofString "q") (.val (nI (valD n L))) (ρ83 x y n D r tl)) (some (nL L)) := by
    exact Ex.asg (by kernel_rfl) (Ev.callF (by kernel_rfl) (b.glob (k + 1) _ _ (by kernel_rfl)) b.is76 a (b.spec76 hn hm hb hk)) (by kernel_rfl)
  refine ⟨setP (Str.ofString "q") (.val (nI (valD n L))) (ρ83 x y n D r tl), fun {F stk as s₀} => Exs.cons e (Exs.ret ?_) (F := F)⟩
  have l1 : (setP (Str.ofString "q") (.val (nI (valD n L))) (ρ83 x y n D r tl)).lookup (Str.ofString "r") = some (.val (.int r)) := by rcases ht with rfl | ⟨d, q, rfl⟩ <;> kernel_rfl
  intro F stk as s₀
  exact Ex.ret (Ev.tup (Evs.cons (Ev.loc (by kernel_rfl) set_same) (Evs.cons (Ev.loc (by kernel_rfl) l1) .nil rfl) rfl) (show 2 ≤ 1048576 by decide))
end
end Mine
namespace Mine
set_option genSizeOf false
set_option genInjectivity false
noncomputable def bitsN (y : Nat) : Nat := Builtin.Int.intBits (y : Int)
section
variable {prog : Program} {w : World} {B : Bs} (b : Base prog w B) {k x y n : Nat} {D : List PV}
noncomputable def ρ83a (x y : Nat) : Loc := [nv "a" (.val (nI x)), nv "b" (.val (nI y))]
include b in
theorem s83 (h : small (y : Int) = true) (hs : Spc false (b.W (k + 1)) 69 [nI x, nI (bitsN y)] (.lst D)) :
    Ex false (b.W (k + 1)) D83.2.2 (stAt D83.2.1 0) (ρ83a x y) none .next (ρ83a x y ++ [nv "n" (.val (nI (bitsN y)))]) none ∧
    Ex false (b.W (k + 1)) D83.2.2 (stAt D83.2.1 1) (ρ83a x y ++ [nv "n" (.val (nI (bitsN y)))]) none .next (ρ83a x y ++ [nv "n" (.val (nI (bitsN y))), nv "a_digits" (.val (.lst D))]) none ∧
    Ex false (b.W (k + 1)) D83.2.2 (stAt D83.2.1 2) (ρ83a x y ++ [nv "n" (.val (nI (bitsN y))), nv "a_digits" (.val (.lst D))]) none .next (ρ83a x y ++ [nv "n" (.val (nI (bitsN y))), nv "a_digits" (.val (.lst D)), nv "r" (ri 0)]) none := by
  refine ⟨?_, ?_, ?_⟩
  · exact @Vc.use _ (ExJ false (b.W (k + 1)) D83.2.2 (stAt D83.2.1 0) (ρ83a x y) none) (exV false (gamN (b.glob (k + 1))) 4 D83.2.2 2 (stAt D83.2.1 0) (ρ83a x y) none) (.next, ρ83a x y ++ [nv "n" (.val (nI (bitsN y)))], none) (by kernel_rfl) (Eq.trans (b := small (y : Int)) (by kernel_rfl) h)
  · exact Ex.asg (by kernel_rfl) (Ev.callF (by kernel_rfl) (b.glob (k + 1) _ _ (by kernel_rfl)) b.is69 (Vc.use (arsV (fun e => rdV (ce (gamN (b.glob (k + 1))) 4 D83.2.2 (ρ83a x y ++ [nv "n" (.val (nI (bitsN y)))]) e).1) _) (by kernel_rfl) (by kernel_rfl)) hs) (by kernel_rfl)
  · exact @Vc.use _ (ExJ false (b.W (k + 1)) D83.2.2 (stAt D83.2.1 2) (ρ83a x y ++ [nv "n" (.val (nI (bitsN y))), nv "a_digits" (.val (.lst D))]) none) (exV false (gamN (b.glob (k + 1))) 4 D83.2.2 2 (stAt D83.2.1 2) (ρ83a x y ++ [nv "n" (.val (nI (bitsN y))), nv "a_digits" (.val (.lst D))]) none) (.next, ρ83a x y ++ [nv "n" (.val (nI (bitsN y))), nv "a_digits" (.val (.lst D)), nv "r" (ri 0)], none) (by kernel_rfl) (by kernel_rfl)
end
end Mine
namespace Mine
set_option genSizeOf false
set_option genInjectivity false
theorem bits_lt {x n : Nat} (hn : 1 ≤ n) : x < 2 ^ (n * count69 x n) := by
  have h1 := Nat.div_add_mod (Builtin.Int.intBits (x : Int) + n - 1) n
  have h2 := Nat.mod_lt (Builtin.Int.intBits (x : Int) + n - 1) hn
  exact (show x = ((x : Nat) : Int).natAbs from rfl) ▸ intBits_le_iff.mp (show Builtin.Int.intBits (x : Int) ≤ n * ((Builtin.Int.intBits (x : Int) + n - 1) / n) by (first | lia | omega))
section
variable {prog : Program} {w : World} {B : Bs} (b : Base prog w B) {k x y : Nat}
theorem Base.spec83 (hy : 0 < y) (hy2 : y < 2 ^ 30) (hn : 1 ≤ bitsN y) (hn2 : bitsN y ≤ 30) (hm : bitsN y * count69 x (bitsN y) ≤ 60) (hk : count69 x (bitsN y) + 1 ≤ k) : Spc false (b.W (k + 2)) 83 [nI x, nI y] (.tup [nI (x / y), nI (x % y)]) := by
  have hc : count69 x (bitsN y) ≤ 60 := Nat.le_trans (Nat.le_mul_of_pos_left _ hn) hm
  obtain ⟨s0, s1, s2⟩ := s83 b (x := x) (small_nat (show y < 2 ^ 60 by (first | lia | omega))) (b.spec69 hn (by (first | lia | omega)) hm hk)
  obtain ⟨tl, ht, hl⟩ := b.loop83 (k := k) (x := x) (D := nL (digs x (bitsN y) (count69 x (bitsN y)))) hn2 hy hy2 (ds := digs x (bitsN y) (count69 x (bitsN y))) digs_lt (by rw [digs_len]; (first | lia | omega))
  have e := ld_div (n := bitsN y) (ds := digs x (bitsN y) (count69 x (bitsN y))) hy
  rw [valD_digs (bits_lt hn)] at e
  rw [e.2] at hl
  have hq : (ldQ y (bitsN y) (digs x (bitsN y) (count69 x (bitsN y)))).length = count69 x (bitsN y) := by rw [ldQ_len, digs_len]
  obtain ⟨ρ', h7⟩ := q83 b (x := x) (y := y) (D := nL (digs x (bitsN y) (count69 x (bitsN y)))) (r := (x % y : Nat)) ht hn (by rw [hq]; exact hm) (ldQ_lt hy digs_lt) (by rw [hq]; exact hk)
  rw [e.1] at h7
  generalize hQ : ldQ y (bitsN y) (digs x (bitsN y) (count69 x (bitsN y))) = Q at *
  generalize hD : nL (digs x (bitsN y) (count69 x (bitsN y))) = D at *
  have h6 : Ex false (b.W (k + 1)) D83.2.2 (stAt D83.2.1 5) (ρ83 x y (bitsN y) D (x % y : Nat) tl) (some (nL Q).reverse) .next (ρ83 x y (bitsN y) D (x % y : Nat) tl) (some (nL Q)) := by
    have e7 : (nL Q).reverse = nL Q.reverse := List.map_reverse.symm
    have e8 : nL Q = (nL Q.reverse).reverse := by rw [nL, nL, List.map_reverse, List.reverse_reverse]
    rw [e7]
    conv => rhs; rw [e8]
    exact (p83 b ht).2 (by rw [List.length_reverse, hq]; (first | lia | omega))
  have h5 : Itm (b.W (k + 1)) D83.2.2 (some []) (ρ83 x y (bitsN y) D 0 []) for83.1 for83.2.1 D.reverse := by exact (p83 b (L := []) (tl := []) (r := 0) (.inl rfl)).1
  refine @FnB.spc false (b.W (k + 1)) 83 _ _ [nI x, nI y] _ (.val _) (some (nL Q)) b.f83 rfl ?_ (.inl rfl) rfl
  rw [b83]
  intro F s₀
  exact Bd.cons @s0 (Bd.cons @s1 (Bd.cons @s2 (Bd.new (ρ' := ρ') (by kernel_rfl) New.nil (by kernel_rfl) (Exs.cons (Ex.for_ @h5 (fun _ _ => rfl) hl) (Exs.cons @h6 @h7)))))
end
end Mine
namespace Mine
set_option genSizeOf false
set_option genInjectivity false
noncomputable abbrev D90 : Arguments × List Stmt × Scope := defOf' "int_divmod"
noncomputable def fnI {W : Ws} (n : Addr) (P : Int → Int → Bool) (is : ∃ o fd, W.B.g.get? n = some o ∧ o.data = .func fd) (h : ∀ x y, P x y = true → Spc false W n [.int x, .int y] (.tup [.int (x.fdiv y), .int (x.fmod y)])) : FnV W := fun m ps => if e : m = n then (match ps with
  | [.int x, .int y] => ⟨.tup [.int (x.fdiv y), .int (x.fmod y)], P x y, fun q => e ▸ ⟨is, h x y q⟩⟩
  | _ => .no .none) else .no .none
theorem Bd.if3 {W : Ws} {sc : Scope} {ρ ρ' : Loc} {t0 t1 t2 : Expr} {b0 b1 b2 b3 : List Stmt} {p0 p1 p2 : Pos} {z1 z2 : Bool} {r : PV} (h0 : Tst W sc none ρ t0 false) (h1 : Tst W sc none ρ t1 z1) (h2 : z1 = false → Tst W sc none ρ t2 z2) (h : Exs false W sc (bif z1 then b1 else bif z2 then b2 else b3) ρ none (.ret (.val r)) ρ' none) :
    Bd false W sc [.If t0 b0 [.If t1 b1 [.If t2 b2 b3 p2] p1] p0] ρ (.val r) none := by
  cases z1 with
  | true => exact fun {F s} => Bd.last (ρ' := ρ') (Exs.ret (Ex.iteF h0 (Exs.ret (Ex.iteT h1 h))))
  | false =>
    cases z2 with
    | true => exact fun {F s} => Bd.last (ρ' := ρ') (Exs.ret (Ex.iteF h0 (Exs.ret (Ex.iteF h1 (Exs.ret (Ex.iteT (h2 rfl) h))))))
    | false => exact fun {F s} => Bd.last (ρ' := ρ') (Exs.ret (Ex.iteF h0 (Exs.ret (Ex.iteF h1 (Exs.ret (Ex.iteF (h2 rfl) h))))))
noncomputable abbrev i90 : Expr × List Stmt × List Stmt × Pos := ifP (stAt D90.2.1 0)
noncomputable abbrev j90 : Expr × List Stmt × List Stmt × Pos := ifP (stAt i90.2.2.1 0)
noncomputable abbrev l90 : Expr × List Stmt × List Stmt × Pos := ifP (stAt j90.2.2.1 0)
theorem b90 : D90.2.1 = [.If i90.1 i90.2.1 [.If j90.1 j90.2.1 [.If l90.1 l90.2.1 l90.2.2.1 l90.2.2.2] j90.2.2.2] i90.2.2.2] := by kernel_rfl
noncomputable def ρ90 (x y : Int) : Loc := [nv "a" (ri x), nv "b" (ri y)]
noncomputable def P83 (x y : Int) : Bool := (decide (0 ≤ x) && decide (x < 2 ^ 20)) && (decide (0 < y) && decide (y < 2 ^ 14))
noncomputable def P90b (x y : Int) : Bool := (decide (x < 0) && decide (-2 ^ 20 ≤ x)) && (decide (0 < y) && decide (y < 2 ^ 14))
section
variable {prog : Program} {w : World} {B : Bs} (b : Base prog w B) {x y : Int} {p : PV}
theorem Base.run90 {k : Nat} {z1 z2 : Bool} {ρ' : Loc} (h0 : decide (y = 0) = false) (h1 : decide (y < 0) = z1) (h2 : z1 = false → decide (x < 0) = z2)
    (h : Exs false (b.W k) D90.2.2 (bif z1 then j90.2.1 else bif z2 then l90.2.1 else l90.2.2.1) (ρ90 x y) none (.ret (.val p)) ρ' none) (hk : backQ [.int x, .int y] (.val p) p = true) : Spc false (b.W (k + 1)) 90 [.int x, .int y] p := by
  refine @FnB.spc false (b.W k) 90 _ _ [.int x, .int y] _ (.val p) none b.f90 rfl ?_ (.inl rfl) hk
  rw [b90]
  have t0 : Tst (b.W k) D90.2.2 none (ρ90 x y) i90.1 false := Vc.use (ce (gamN (b.glob k)) 3 D90.2.2 (ρ90 x y) i90.1).2 (Eq.trans (b := decide (y = 0)) (by kernel_rfl) h0) (by kernel_rfl)
  have t1 : Tst (b.W k) D90.2.2 none (ρ90 x y) j90.1 z1 := Vc.use (ce (gamN (b.glob k)) 3 D90.2.2 (ρ90 x y) j90.1).2 (Eq.trans (b := decide (y < 0)) (by kernel_rfl) h1) (by kernel_rfl)
  have t2 : z1 = false → Tst (b.W k) D90.2.2 none (ρ90 x y) l90.1 z2 := fun e => Vc.use (ce (gamN (b.glob k)) 3 D90.2.2 (ρ90 x y) l90.1).2 (Eq.trans (b := decide (x < 0)) (by kernel_rfl) (h2 e)) (by kernel_rfl)
  intro F s₀
  exact Bd.if3 t0 t1 t2 h
theorem Base.up (b : Base prog w B) (j : Nat) {k : Nat} {c : Bool} {n : Addr} {ps : List PV} (h : Spc c (b.W k) n ps p) (hk : k ≤ j) : Spc c (b.W j) n ps p := Spc.up (W := b.W k) h hk
include b in
theorem Base.is83 (k : Nat) : ∃ o fd, (b.W k).B.g.get? 83 = some o ∧ o.data = .func fd := b.f83.is (W := b.W 0)
include b in
theorem Base.is90 (k : Nat) : ∃ o fd, (b.W k).B.g.get? 90 = some o ∧ o.data = .func fd := b.f90.is (W := b.W 0)
theorem Base.use83 (x y : Int) (h : P83 x y = true) : Spc false (b.W 24) 83 [.int x, .int y] (.tup [.int (x.fdiv y), .int (x.fmod y)]) := by
  have h1 := of_decide_eq_true (and1 (and1 h))
  have h2 := of_decide_eq_true (and2 (and1 h))
  have h3 := of_decide_eq_true (and1 (and2 h))
  have h4 := of_decide_eq_true (and2 (and2 h))
  obtain ⟨x, rfl⟩ := Int.eq_ofNat_of_zero_le h1
  obtain ⟨y, rfl⟩ := Int.eq_ofNat_of_zero_le (Int.le_of_lt h3)
  have hy : 0 < y := by (first | lia | omega)
  have e1 : Builtin.Int.intBits ((x : Nat) : Int) ≤ 20 := intBits_le_iff.mpr (by (first | lia | omega))
  have e2 : bitsN y ≤ 14 := intBits_le_iff.mpr (by (first | lia | omega))
  have e3 : 1 ≤ bitsN y := Nat.one_le_iff_ne_zero.mpr fun e => by
    have := intBits_le_iff.mp (Nat.le_of_eq e)
    (first | lia | omega)
  have e4 : bitsN y * count69 x (bitsN y) ≤ 33 := Nat.le_trans (Nat.mul_div_le _ _) (by (first | lia | omega))
  have e5 : count69 x (bitsN y) ≤ 20 := Nat.div_le_of_le_mul (by
    have : bitsN y * 20 = bitsN y + bitsN y * 19 := by (first | lia | omega)
    have := Nat.mul_le_mul_right 19 e3
    (first | lia | omega))
  have this : Spc false (b.W 24) 83 [nI x, nI y] (.tup [nI (x / y), nI (x % y)]) := by exact b.spec83 (k := 22) (x := x) (y := y) hy (by (first | lia | omega)) e3 (by (first | lia | omega)) (by (first | lia | omega)) (by (first | lia | omega))
  rw [Int.fdiv_eq_ediv_of_nonneg _ (Int.le_of_lt h3), Int.fmod_eq_emod_of_nonneg _ (Int.le_of_lt h3)]
  exact @this
theorem Base.spec90a (x y : Int) (h : P83 x y = true) : Spc false (b.W 25) 90 [.int x, .int y] (.tup [.int (x.fdiv y), .int (x.fmod y)]) := by
  have h1 := of_decide_eq_true (and1 (and1 h))
  have h3 := of_decide_eq_true (and1 (and2 h))
  refine @Base.run90 prog w B b x y _ 24 false false (ρ90 x y) (decide_eq_false (by (first | lia | omega))) (decide_eq_false (by (first | lia | omega))) (fun _ => decide_eq_false (by (first | lia | omega))) ?_ rfl
  exact @Vc.use _ (ExsJ false (b.W 24) D90.2.2 l90.2.2.1 (ρ90 x y) none) (cs false (gam (b.glob 24) (fnI 83 P83 (b.is83 24) b.use83) (noMe _)) 4 D90.2.2 2 l90.2.2.1 (ρ90 x y) none) (.ret (.val (.tup [.int (x.fdiv y), .int (x.fmod y)])), ρ90 x y, none) (by kernel_rfl) (Eq.trans (b := P83 x y) (by kernel_rfl) h)
end
end Mine
namespace Mine
set_option genSizeOf false
set_option genInjectivity false
noncomputable def P90 (x y : Int) : Bool := (decide (-2 ^ 20 < x) && decide (x < 2 ^ 20)) && (decide (y.natAbs < 2 ^ 14) && decide (y ≠ 0))
theorem bitNot_eq (x : Int) : Builtin.bitNot x = -x - 1 := by
  unfold Builtin.bitNot
  (first | lia | omega)
theorem fdiv_neg_arg {a b : Int} (hb : 0 < b) : -((-a - 1).fdiv b) - 1 = a.fdiv b ∧ b + (-((-a - 1).fmod b) - 1) = a.fmod b := by
  have hb' := Int.le_of_lt hb
  rw [Int.fdiv_eq_ediv_of_nonneg _ hb', Int.fdiv_eq_ediv_of_nonneg _ hb', Int.fmod_eq_emod_of_nonneg _ hb', Int.fmod_eq_emod_of_nonneg _ hb']
  have h1 := Int.emod_add_mul_ediv (-a - 1) b
  have h2 := Int.emod_nonneg (-a - 1) (show b ≠ 0 by (first | lia | omega))
  have h3 := Int.emod_lt_of_pos (-a - 1) hb
  have := (Int.ediv_emod_unique (a := a) (b := b) (r := b + (-((-a - 1) % b) - 1)) (q := -((-a - 1) / b) - 1) hb).mpr ⟨by rw [Int.mul_sub, Int.mul_neg]; (first | lia | omega), by (first | lia | omega), by (first | lia | omega)⟩
  exact ⟨this.1.symm, this.2.symm⟩
section
variable {prog : Program} {w : World} {B : Bs} (b : Base prog w B) {x y : Int} {p : PV}
theorem Base.spec90b (x y : Int) (h : P90b x y = true) : Spc false (b.W 26) 90 [.int x, .int y] (.tup [.int (x.fdiv y), .int (x.fmod y)]) := by
  have h1 := of_decide_eq_true (and1 (and1 h))
  have h2 := of_decide_eq_true (and2 (and1 h))
  have h3 := of_decide_eq_true (and1 (and2 h))
  have h4 := of_decide_eq_true (and2 (and2 h))
  have e := fdiv_neg_arg (a := x) h3
  rw [← bitNot_eq, ← bitNot_eq, ← bitNot_eq] at e
  rw [← e.1, ← e.2]
  have hp : P83 (Builtin.bitNot x) y = true := by
    rw [bitNot_eq, P83, decide_eq_true h3, decide_eq_true h4, decide_eq_true (show 0 ≤ -x - 1 by (first | lia | omega)), decide_eq_true (show -x - 1 < 2 ^ 20 by (first | lia | omega))]
    rfl
  refine @Base.run90 prog w B b x y _ 25 false true (ρ90 x y ++ [nv "q" (ri ((Builtin.bitNot x).fdiv y)), nv "r" (ri ((Builtin.bitNot x).fmod y))]) (decide_eq_false (by (first | lia | omega))) (decide_eq_false (by (first | lia | omega))) (fun _ => decide_eq_true (by (first | lia | omega))) ?_ rfl
  exact @Vc.use _ (ExsJ false (b.W 25) D90.2.2 l90.2.1 (ρ90 x y) none) (cs false (gam (b.glob 25) (fnI 90 P83 (b.is90 25) b.spec90a) (noMe _)) 4 D90.2.2 2 l90.2.1 (ρ90 x y) none) (.ret (.val (.tup [.int (Builtin.bitNot ((Builtin.bitNot x).fdiv y)), .int (y + Builtin.bitNot ((Builtin.bitNot x).fmod y))])), ρ90 x y ++ [nv "q" (ri ((Builtin.bitNot x).fdiv y)), nv "r" (ri ((Builtin.bitNot x).fmod y))], none) (by kernel_rfl) (Eq.trans (b := (P83 (Builtin.bitNot x) y && true) && true) (by kernel_rfl) (by rw [hp]; rfl))
theorem Base.pos90 (x y : Int) (h : (P83 x y || P90b x y) = true) : Spc false (b.W 26) 90 [.int x, .int y] (.tup [.int (x.fdiv y), .int (x.fmod y)]) := by
  rcases Bool.or_eq_true_iff.mp h with h | h
  · exact @Base.up prog w B _ b 26 25 false 90 _ (b.spec90a x y h) (by decide)
  · exact b.spec90b x y h
theorem Base.spec90 (x y : Int) (h : P90 x y = true) : Spc false (b.W 27) 90 [.int x, .int y] (.tup [.int (x.fdiv y), .int (x.fmod y)]) := by
  have h1 := of_decide_eq_true (and1 (and1 h))
  have h2 := of_decide_eq_true (and2 (and1 h))
  have h3 := of_decide_eq_true (and1 (and2 h))
  have h4 := of_decide_eq_true (and2 (and2 h))
  have key : ∀ x y : Int, -2 ^ 20 < x → x < 2 ^ 20 → 0 < y → y < 2 ^ 14 → (P83 x y || P90b x y) = true := fun x y h1 h2 h3 h4 => by
    rw [P83, P90b, decide_eq_true h3, decide_eq_true h4, decide_eq_true h2, decide_eq_true (Int.le_of_lt h1)]
    by_cases h : x < 0
    · rw [decide_eq_true h]; exact Bool.or_true _
    · rw [decide_eq_true (show 0 ≤ x by (first | lia | omega))]; rfl
  rcases Int.lt_or_le y 0 with hy | hy
  · have hp := key (-x) (-y) (by (first | lia | omega)) (by (first | lia | omega)) (by (first | lia | omega)) (by (first | lia | omega))
    rw [← Int.neg_fdiv_neg x y, show x.fmod y = -((-x).fmod (-y)) by rw [Int.neg_fmod_neg]; (first | lia | omega)]
    refine @Base.run90 prog w B b x y _ 26 true false (ρ90 x y ++ [nv "q" (ri ((-x).fdiv (-y))), nv "r" (ri ((-x).fmod (-y)))]) (decide_eq_false h4) (decide_eq_true hy) nofun ?_ rfl
    exact @Vc.use _ (ExsJ false (b.W 26) D90.2.2 j90.2.1 (ρ90 x y) none) (cs false (gam (b.glob 26) (fnI 90 (fun x y => P83 x y || P90b x y) (b.is90 26) b.pos90) (noMe _)) 4 D90.2.2 2 j90.2.1 (ρ90 x y) none) (.ret (.val (.tup [.int ((-x).fdiv (-y)), .int (-((-x).fmod (-y)))])), ρ90 x y ++ [nv "q" (ri ((-x).fdiv (-y))), nv "r" (ri ((-x).fmod (-y)))], none) (by kernel_rfl) (Eq.trans (b := ((P83 (-x) (-y) || P90b (-x) (-y)) && true) && true) (by kernel_rfl) (by rw [hp]; rfl))
  · exact @Base.up prog w B _ b 27 26 false 90 _ (b.pos90 x y (key x y h1 h2 (by (first | lia | omega)) (by (first | lia | omega)))) (by decide)
end
end Mine
namespace Mine
set_option genSizeOf false
set_option genInjectivity false
noncomputable def addV {W : Ws} (n : Addr) (is : ∃ o fd, W.B.g.get? n = some o ∧ o.data = .func fd) (f : ∀ ps, Vc (Spc false W n ps)) (g : FnV W) : FnV W := fun m ps => if e : m = n then ⟨(f ps).val, (f ps).ob, fun q => by subst e; exact ⟨is, (f ps).ok q⟩⟩ else g m ps
noncomputable def overN (m : Nat) : Nat → Nat
  | 0 => 1
  | s + 1 => overN m s * (m - s) / (s + 1)
noncomputable def hiN (count low : Nat) : Nat → Nat → Nat
  | 0, h => h
  | f + 1, h => if overN (h + 1) low ≤ count then hiN count low f (h + 1) else h
noncomputable def grN : Nat → Nat → Nat × Nat
  | 0, _ => (0, 0)
  | l + 1, count => have h := hiN count (l + 1) 40 l; have r := grN l (count - overN h (l + 1)); (overN (h + 1) (l + 2) + r.1, if l = 0 then h else r.2)
noncomputable def facN (size : Nat) : Nat := if size = 4 then 120 else if size = 5 then 720 else 5040
noncomputable abbrev D142 : Arguments × List Stmt × Scope := defOf' "_law_grown"
noncomputable def ρ142 (count size : Nat) (cell : Int) : Loc := [nv "count" (.val (nI count)), nv "size" (.val (nI size)), nv "cell" (ri cell)]
noncomputable def ρ142b (size h : Nat) (cell common whole : Int) : Loc := [nv "count" (ri 0), nv "size" (.val (nI size)), nv "cell" (ri cell), nv "common" (ri common), nv "k" (ri 1), nv "whole" (ri whole), nv "low" (ri 1), nv "high" (ri h), nv "part" (ri (h * (h + 1) : Nat)), nv "under" (ri 2)]
section
variable {prog : Program} {w : World} {B : Bs} (b : Base prog w B)
noncomputable abbrev Ok135 (m : Nat) : Prop := (List.range 7).map (fun s => ((b.v135 [nI m, nI s]).val, (b.v135 [nI m, nI s]).ob)) = (List.range 7).map fun s => (nI (overN m s), true)
theorem Base.all135 : (List.range 12).map (fun m => (List.range 7).map (fun s => ((b.v135 [nI m, nI s]).val, (b.v135 [nI m, nI s]).ob))) = (List.range 12).map fun m => (List.range 7).map fun s => (nI (overN m s), true) := by kernel_rfl
theorem Base.spec135 {m s : Nat} (hm : m < 12) (hs : s < 7) : Spc false (b.W 1) 135 [nI m, nI s] (nI (overN m s)) := by
  have := List.map_inj_left.mp (List.map_inj_left.mp b.all135 m (List.mem_range.mpr hm)) s (List.mem_range.mpr hs)
  exact @Vc.use _ _ (b.v135 [nI m, nI s]) _ (congrArg Prod.fst this) (congrArg Prod.snd this)
noncomputable def Base.f142s : FnV (b.W 27) := addV 135 (b.f135.is (W := b.W 0)) (fun ps => match ps with
  | [.int m, .int s] => ⟨nI (overN m.toNat s.toNat), (decide (0 ≤ m) && decide (m.toNat < 12)) && (decide (0 ≤ s) && decide (s.toNat < 7)), fun q => by
    have h : Spc false (b.W 27) 135 [nI m.toNat, nI s.toNat] (nI (overN m.toNat s.toNat)) := by exact b.up 27 (b.spec135 (of_decide_eq_true (and2 (and1 q))) (of_decide_eq_true (and2 (and2 q)))) (by decide)
    rw [nI, nI, Int.toNat_of_nonneg (of_decide_eq_true (and1 (and1 q))), Int.toNat_of_nonneg (of_decide_eq_true (and1 (and2 q)))] at h
    exact @h⟩
  | _ => .no .none) (fnI 90 P90 (b.is90 27) b.spec90)
noncomputable def Base.pre142 (cell : Int) (size count : Nat) : Vc (ExsJ false (b.W 27) D142.2.2 (D142.2.1.take 4) (ρ142 count size cell) none) := cs false (gam (b.glob 27) b.f142s (noMe _)) 6 D142.2.2 4 (D142.2.1.take 4) (ρ142 count size cell) none
noncomputable def post142 (cell : Int) (size count : Nat) : St3 := (.next, ρ142b size (grN size count).2 cell (facN size) ((grN size count).1 * facN size : Nat), none)
noncomputable abbrev Ok142 (cell : Int) (size lo n : Nat) : Prop := (List.range' lo n).map (fun c => ((b.pre142 cell size c).val, (b.pre142 cell size c).ob)) = (List.range' lo n).map fun c => (post142 cell size c, true)
theorem Base.g142_4_0 (cell : Int) : Ok142 b cell 4 0 8 := by kernel_rfl
theorem Base.g142_4_8 (cell : Int) : Ok142 b cell 4 8 8 := by kernel_rfl
theorem Base.g142_5_0 (cell : Int) : Ok142 b cell 5 0 6 := by kernel_rfl
theorem Base.g142_5_6 (cell : Int) : Ok142 b cell 5 6 6 := by kernel_rfl
theorem Base.g142_5_12 (cell : Int) : Ok142 b cell 5 12 5 := by kernel_rfl
theorem Base.g142_5_17 (cell : Int) : Ok142 b cell 5 17 5 := by kernel_rfl
theorem Base.g142_6_0 (cell : Int) : Ok142 b cell 6 0 6 := by kernel_rfl
theorem Base.g142_6_6 (cell : Int) : Ok142 b cell 6 6 6 := by kernel_rfl
theorem Base.g142_6_12 (cell : Int) : Ok142 b cell 6 12 6 := by kernel_rfl
theorem Base.g142_6_18 (cell : Int) : Ok142 b cell 6 18 6 := by kernel_rfl
theorem Base.g142_6_24 (cell : Int) : Ok142 b cell 6 24 5 := by kernel_rfl
noncomputable def lim142 (size : Nat) : Nat := if size = 4 then 15 else if size = 5 then 21 else if size = 6 then 28 else 0
theorem Base.all142 {cell : Int} {size count : Nat} (h : size = 4 ∨ size = 5 ∨ size = 6) (hc : count ≤ lim142 size) : (b.pre142 cell size count).val = post142 cell size count ∧ (b.pre142 cell size count).ob = true := by
  have key : ∀ {lo n}, Ok142 b cell size lo n → lo ≤ count → count < lo + n → (b.pre142 cell size count).val = post142 cell size count ∧ (b.pre142 cell size count).ob = true := fun h h1 h2 => by
    have := List.map_inj_left.mp h count (List.mem_range'_1.mpr ⟨h1, h2⟩)
    exact ⟨congrArg Prod.fst this, congrArg Prod.snd this⟩
  rcases h with rfl | rfl | rfl
  · rcases Nat.lt_or_ge count 8 with j | k0
    · exact key (b.g142_4_0 cell) (Nat.zero_le _) j
    · exact key (b.g142_4_8 cell) k0 (Nat.lt_succ_of_le hc)
  · rcases Nat.lt_or_ge count 6 with j | k0
    · exact key (b.g142_5_0 cell) (Nat.zero_le _) j
    · rcases Nat.lt_or_ge count 12 with j | k1
      · exact key (b.g142_5_6 cell) k0 j
      · rcases Nat.lt_or_ge count 17 with j | k2
        · exact key (b.g142_5_12 cell) k1 j
        · exact key (b.g142_5_17 cell) k2 (Nat.lt_succ_of_le hc)
  · rcases Nat.lt_or_ge count 6 with j | k0
    · exact key (b.g142_6_0 cell) (Nat.zero_le _) j
    · rcases Nat.lt_or_ge count 12 with j | k1
      · exact key (b.g142_6_6 cell) k0 j
      · rcases Nat.lt_or_ge count 18 with j | k2
        · exact key (b.g142_6_12 cell) k1 j
        · rcases Nat.lt_or_ge count 24 with j | k3
          · exact key (b.g142_6_18 cell) k2 j
          · exact key (b.g142_6_24 cell) k3 (Nat.lt_succ_of_le hc)
end
end Mine
namespace Mine
set_option genSizeOf false
set_option genInjectivity false
theorem an {a b : Bool} (ha : a = true) (hb : b = true) : (a && b) = true := by rw [ha, hb]; rfl
theorem dt {p : Prop} [Decidable p] (h : p) : decide p = true := decide_eq_true h
noncomputable abbrev sg (x : Int) : Int := 1 - x.fmod 2 * 2
theorem sign2 (x : Int) : sg x = 1 ∨ sg x = -1 := by
  unfold sg
  have h1 := Int.fmod_nonneg_of_pos x (show (0 : Int) < 2 by decide)
  have h2 := Int.fmod_lt_of_pos x (show (0 : Int) < 2 by decide)
  (first | lia | omega)
theorem sq2 {o : Int} (h : o = 1 ∨ o = -1) : o * o = 1 := by rcases h with rfl | rfl <;> rfl
theorem sg_abs {o : Int} (x : Int) (h : o = 1 ∨ o = -1) : o * x = x ∨ o * x = -x := by rcases h with rfl | rfl <;> (first | lia | omega)
theorem fdiv_tell {o t G C c : Int} (ht : t * t = 1) (hD : t * C ≠ 0) : (o * (G * C) + c.fmod (t * C)).fdiv (t * C) = o * t * G ∧ (o * (G * C) + c.fmod (t * C)).fmod (t * C) = c.fmod (t * C) := by
  have e : o * (G * C) + c.fmod (t * C) = c.fmod (t * C) + (o * t * G) * (t * C) := by
    have : (o * t * G) * (t * C) = o * (G * C) * (t * t) := by ac_rfl
    rw [this, ht, Int.mul_one, Int.add_comm]
  rw [e]
  constructor
  · rw [Int.add_mul_fdiv_right _ _ hD, Int.fmod_def]
    have : c - t * C * c.fdiv (t * C) = c + (-(c.fdiv (t * C))) * (t * C) := by rw [Int.neg_mul, Int.mul_comm (c.fdiv (t * C))]; (first | lia | omega)
    rw [this, Int.add_mul_fdiv_right _ _ hD]
    (first | lia | omega)
  · rw [Int.add_mul_fmod_self_right, Int.fmod_fmod]
theorem fmod_lim {c D : Int} (h : D ≠ 0) : -D.natAbs < c.fmod D ∧ c.fmod D < D.natAbs := by
  rcases Int.lt_or_gt_of_ne h with k | k
  · have e : c.fmod D = -((-c).fmod (-D)) := by rw [Int.neg_fmod_neg]; (first | lia | omega)
    have := Int.fmod_nonneg_of_pos (-c) (b := -D) (by (first | lia | omega))
    have := Int.fmod_lt_of_pos (-c) (b := -D) (by (first | lia | omega))
    (first | lia | omega)
  · have := Int.fmod_nonneg_of_pos c (b := D) k
    have := Int.fmod_lt_of_pos c (b := D) k
    (first | lia | omega)
theorem grow_lim {size count : Nat} (h : size = 4 ∨ size = 5 ∨ size = 6) (hc : count ≤ lim142 size) : (grN size count).1 ≤ 100 ∧ 0 < facN size ∧ facN size ≤ 5040 := by
  have h4 : ∀ c ≤ 28, (grN 4 c).1 ≤ 100 ∧ (grN 5 c).1 ≤ 100 ∧ (grN 6 c).1 ≤ 100 := by decide +kernel
  have hc : count ≤ 28 := by rcases h with rfl | rfl | rfl <;> exact Nat.le_trans hc (by decide)
  have := h4 count hc
  rcases h with rfl | rfl | rfl
  · exact ⟨this.1, by decide, by decide⟩
  · exact ⟨this.2.1, by decide, by decide⟩
  · exact ⟨this.2.2, by decide, by decide⟩
theorem Exs.append {c : Bool} {W : Ws} {sc : Scope} {xs ys : List Stmt} {ρ ρ₁ ρ' : Loc} {σ σ₁ σ' : Sto} {fl : Fl} (h1 : Exs c W sc xs ρ σ .next ρ₁ σ₁) (h2 : Exs c W sc ys ρ₁ σ₁ fl ρ' σ') : Exs c W sc (xs ++ ys) ρ σ fl ρ' σ' := fun hs hr hc hk I => by
  rw [execs_append]
  exact wpX_bind (goX (h1 hs hr hc hk I) fun f s₁ d => d.1 ▸ h2 hs hr hc hk d.2)
section
variable {prog : Program} {w : World} {B : Bs} (b : Base prog w B)
noncomputable abbrev Base.g142 : Gam (b.W 27) := gam (b.glob 27) b.f142s (noMe _)
noncomputable def ρ142c (size h : Nat) (cell common whole o t : Int) : Loc := ρ142b size h cell common whole ++ [nv "two" (ri t), nv "one" (ri o)]
noncomputable def ρ142d (size h : Nat) (cell common whole o t q r : Int) : Loc := ρ142c size h cell common whole o t ++ [nv "told" (.val (.tup [.int q, .int r]))]
theorem Base.s142e (size h : Nat) (cell C X : Int) : Ex false (b.W 27) D142.2.2 (stAt D142.2.1 4) (ρ142b size h cell C X) none .next (ρ142c size h cell C X (sg (cell.fdiv 7)) (sg (cell.fdiv 14))) none := by
  have k : ∀ x : Int, (x.fmod 2).natAbs < 2 ^ 64 := fun x => by
    have := fmod_lim (c := x) (D := 2) (by decide)
    (first | lia | omega)
  exact @Vc.use _ (ExJ false (b.W 27) D142.2.2 (stAt D142.2.1 4) (ρ142b size h cell C X) none) (exV false b.g142 6 D142.2.2 4 (stAt D142.2.1 4) (ρ142b size h cell C X) none) (.next, ρ142c size h cell C X (sg (cell.fdiv 7)) (sg (cell.fdiv 14)), none) (by kernel_rfl) (Eq.trans (by kernel_rfl) (an (an (dt (k (cell.fdiv 7))) rfl) (an (an (dt (k (cell.fdiv 14))) rfl) rfl)))
theorem Base.s142f {size h : Nat} {cell C X o t : Int} (ho : o.natAbs < 2 ^ 64) (ht : t.natAbs < 2 ^ 64) (h0 : t * C ≠ 0) (hP : P90 (o * X + cell.fmod (t * C)) (t * C) = true) : Ex false (b.W 27) D142.2.2 (stAt D142.2.1 5) (ρ142c size h cell C X o t) none .next (ρ142d size h cell C X o t ((o * X + cell.fmod (t * C)).fdiv (t * C)) ((o * X + cell.fmod (t * C)).fmod (t * C))) none := by
  exact @Vc.use _ (ExJ false (b.W 27) D142.2.2 (stAt D142.2.1 5) (ρ142c size h cell C X o t) none) (exV false b.g142 6 D142.2.2 4 (stAt D142.2.1 5) (ρ142c size h cell C X o t) none) (.next, ρ142d size h cell C X o t ((o * X + cell.fmod (t * C)).fdiv (t * C)) ((o * X + cell.fmod (t * C)).fmod (t * C)), none) (by kernel_rfl) (Eq.trans (b := ((decide (o.natAbs < 2 ^ 64) && ((decide (t.natAbs < 2 ^ 64) && !decide (t * C = 0)) && true)) && (decide (t.natAbs < 2 ^ 64) && true)) && P90 (o * X + cell.fmod (t * C)) (t * C)) (by kernel_rfl) (an (an (an (dt ho) (an (an (dt ht) (by rw [decide_eq_false h0]; rfl)) rfl)) (an (dt ht) rfl)) hP))
noncomputable abbrev r142 : Expr × Expr × Expr × Pos := match stAt D142.2.1 6 with | .Return (some (.IfExp t a b p)) _ => (t, a, b, p) | _ => (.Constant .none 0 ⟨0, 0, 0, 0⟩, .Constant .none 0 ⟨0, 0, 0, 0⟩, .Constant .none 0 ⟨0, 0, 0, 0⟩, ⟨0, 0, 0, 0⟩)
noncomputable def p142 : Pos := match stAt D142.2.1 6 with | .Return _ p => p | _ => ⟨0, 0, 0, 0⟩
theorem bd142 : D142.2.1 = D142.2.1.take 4 ++ [stAt D142.2.1 4, stAt D142.2.1 5, .Return (some (.IfExp r142.1 r142.2.1 r142.2.2.1 r142.2.2.2)) p142] := by kernel_rfl
theorem Base.t142 {size h : Nat} {cell C X o t q : Int} (ht : t.natAbs < 2 ^ 64) (h0 : t * C ≠ 0) : Tst (b.W 27) D142.2.2 none (ρ142d size h cell C X o t q (cell.fmod (t * C))) r142.1 true := by
  exact Vc.use (ce b.g142 6 D142.2.2 (ρ142d size h cell C X o t q (cell.fmod (t * C))) r142.1).2 (Eq.trans (b := decide (cell.fmod (t * C) = cell.fmod (t * C))) (by kernel_rfl) (dt rfl)) (Eq.trans (by kernel_rfl) (an (an (dt ht) (show (!decide (t * C = 0)) = true by rw [decide_eq_false h0]; rfl)) rfl))
theorem Base.v142 {size h : Nat} {cell C X o t q r : Int} (ho : o.natAbs < 2 ^ 64) (hot : (o * t).natAbs < 2 ^ 64) : Vl (b.W 27) D142.2.2 none (ρ142d size h cell C X o t q r) r142.2.1 (.int (o * t * q)) := by
  exact Vc.use (ce b.g142 6 D142.2.2 (ρ142d size h cell C X o t q r) r142.2.1).1 (by kernel_rfl) (Eq.trans (by kernel_rfl) (an (dt ho) (dt hot)))
theorem Base.spec142 {size count : Nat} {cell : Int} (h : size = 4 ∨ size = 5 ∨ size = 6) (hc : count ≤ lim142 size) : Spc false (b.W 28) 142 [nI count, nI size, .int cell] (nI (grN size count).1) := by
  obtain ⟨e1, e2⟩ := b.all142 (cell := cell) h hc
  have hs := @Vc.use _ (ExsJ false (b.W 27) D142.2.2 (D142.2.1.take 4) (ρ142 count size cell) none) (b.pre142 cell size count) _ e1 e2
  obtain ⟨b1, b2, b3⟩ := grow_lim h hc
  have o1 := sign2 (cell.fdiv 7)
  have t1 := sign2 (cell.fdiv 14)
  have h4 := @Base.s142e prog w B b size (grN size count).2 cell (facN size) ((grN size count).1 * facN size : Nat)
  simp only [post142] at hs
  generalize (grN size count).1 = G at *
  generalize facN size = C at *
  generalize (grN size count).2 = hh at *
  generalize sg (cell.fdiv 7) = o at *
  generalize sg (cell.fdiv 14) = t at *
  have hX : ((G * C : Nat) : Int) = G * C := Int.natCast_mul _ _
  have hl : G * C ≤ 100 * 5040 := Nat.mul_le_mul b1 b3
  have hD : t * (C : Int) ≠ 0 := by rcases sg_abs (C : Int) t1 with q | q <;> (first | lia | omega)
  have hD2 : (t * (C : Int)).natAbs ≤ 5040 := by rcases sg_abs (C : Int) t1 with q | q <;> (first | lia | omega)
  have hm := fmod_lim (c := cell) hD
  obtain ⟨f1, f2⟩ := fdiv_tell (o := o) (G := G) (c := cell) (sq2 t1) hD
  have hP : P90 (o * ((G * C : Nat) : Int) + cell.fmod (t * C)) (t * C) = true := by
    have := sg_abs ((G * C : Nat) : Int) o1
    exact an (an (dt (by (first | lia | omega))) (dt (by (first | lia | omega)))) (an (dt (by (first | lia | omega))) (dt hD))
  have h5 := @Base.s142f prog w B b size hh cell C ((G * C : Nat) : Int) o t (by (first | lia | omega)) (by (first | lia | omega)) hD hP
  rw [hX, f1, f2, ← hX] at h5
  have tt := @Base.t142 prog w B b size hh cell C ((G * C : Nat) : Int) o t (o * t * G) (by (first | lia | omega)) hD
  have vv := @Base.v142 prog w B b size hh cell C ((G * C : Nat) : Int) o t (o * t * G) (cell.fmod (t * C)) (by (first | lia | omega)) (by have := sg_abs t o1; (first | lia | omega))
  have e : o * t * (o * t * (G : Int)) = G := by
    rw [show o * t * (o * t * (G : Int)) = (o * o) * (t * t) * G by ac_rfl, sq2 o1, sq2 t1, Int.mul_one, Int.one_mul]
  rw [e] at vv
  refine @FnB.spc false (b.W 27) 142 _ _ [nI count, nI size, .int cell] _ (.val _) none b.f142 rfl ?_ (.inl rfl) rfl
  rw [bd142]
  intro F s₀
  exact Bd.last (Exs.append hs (Exs.cons @h4 (Exs.cons @h5 (Exs.ret (Ex.ret (Ev.ifT tt vv))))))
end
end Mine
namespace Mine
set_option genSizeOf false
set_option genInjectivity false
noncomputable def hexN (x : Nat) : Nat := count69 x 4
theorem hexN_iff {x k : Nat} : hexN x ≤ k ↔ x < 16 ^ k := by
  have e : (16 : Nat) ^ k = 2 ^ (4 * k) := by rw [Nat.pow_mul]
  have h := intBits_le_iff (x := (x : Int)) (m := 4 * k)
  rw [Int.natAbs_natCast] at h
  rw [e, ← h, hexN, count69]
  (first | lia | omega)
noncomputable def lett (d : Nat) : UInt8 := UInt8.ofNat (65 + d)
noncomputable def lettL (n x : Nat) : List UInt8 := (digs x 4 n).reverse.map lett
noncomputable def wordL (x : Nat) : List UInt8 := lettL (hexN x) x
noncomputable abbrev D97 : Arguments × List Stmt × Scope := defOf' "Int2AP"
noncomputable abbrev w97 : Expr × List Stmt × Pos := match stAt D97.2.1 3 with | .While t b _ p => (t, b, p) | _ => (.Name ⟨#[]⟩ ⟨0, 0, 0, 0⟩, [], ⟨0, 0, 0, 0⟩)
theorem b97 : D97.2.1 = D97.2.1.take 3 ++ [.While w97.1 w97.2.1 [] w97.2.2, stAt D97.2.1 4] := by kernel_rfl
noncomputable def APb : Array UInt8 := #[65, 66, 67, 68, 69, 70, 71, 72, 73, 74, 75, 76, 77, 78, 79, 80]
noncomputable def ρ97 (i : Int) (V : Array UInt8) (tl : Loc) : Loc := [nv "num" (ri i), nv "val" (.val (.bytes V)), nv "AP" (.val (.bytes APb))] ++ tl
theorem picked16 : ∀ d : Nat, d < 16 → PySem.W.KBy.picked APb (some (d : Int)) (some ((d : Int) + 1)) = #[lett d] := by decide +kernel
theorem fmod_cast {x n : Nat} : (x : Int).fmod (n : Int) = ((x % n : Nat) : Int) := by
  rw [Int.fmod_eq_emod_of_nonneg _ (Int.natCast_nonneg n)]; rfl
theorem hexN_zero : hexN 0 = 0 := Nat.le_zero.mp (hexN_iff.mpr (by decide))
theorem hexN_succ {x : Nat} (h : x ≠ 0) : hexN x = hexN (x / 16) + 1 := by
  have key : ∀ k, hexN x ≤ k + 1 ↔ hexN (x / 16) ≤ k := fun k => by
    rw [hexN_iff, hexN_iff, Nat.pow_succ, Nat.div_lt_iff_lt_mul (by decide)]
  have h0 : ¬ hexN x ≤ 0 := fun q => h (by have := hexN_iff.mp q; (first | lia | omega))
  have h1 := (key (hexN (x / 16))).mpr (Nat.le_refl _)
  have h2 := (key (hexN x - 1)).mp (by (first | lia | omega))
  (first | lia | omega)
theorem lettL_succ {n x : Nat} : lettL (n + 1) x = lettL n (x / 16) ++ [lett (x % 16)] := by
  rw [lettL, digs_succ, List.reverse_cons, List.map_append]; rfl
section
variable {prog : Program} {w : World} {B : Bs} (b : Base prog w B)
noncomputable abbrev Base.g0 : Gam (b.W 0) := gamN (b.glob 0)
theorem Base.turn97 {i : Int} {V : Array UInt8} {l : UInt8} {tl : Loc} (ht : tl = [] ∨ ∃ m, tl = [nv "mod" (ri m)]) (hp : PySem.W.KBy.picked APb (some (i.fmod 16)) (some (i.fmod 16 + 1)) = #[l]) (hV : V.size ≤ 1000) :
    Exs false (b.W 0) D97.2.2 w97.2.1 (ρ97 i V tl) none .next (ρ97 (i.fdiv 16) (#[l] ++ V) [nv "mod" (ri (i.fmod 16))]) none := by
  have e : (decide ((PySem.W.KBy.picked APb (some (i.fmod 16)) (some (i.fmod 16 + 1))).size + V.size ≤ 1048576) && true) = true := an (dt (by rw [hp]; show 1 + V.size ≤ _; (first | lia | omega))) rfl
  rw [← hp]
  rcases ht with rfl | ⟨m, rfl⟩
  · exact @Vc.use _ (ExsJ false (b.W 0) D97.2.2 w97.2.1 (ρ97 i V []) none) (cs false b.g0 6 D97.2.2 4 w97.2.1 (ρ97 i V []) none) (.next, ρ97 (i.fdiv 16) (PySem.W.KBy.picked APb (some (i.fmod 16)) (some (i.fmod 16 + 1)) ++ V) [nv "mod" (ri (i.fmod 16))], none) (by kernel_rfl) (Eq.trans (by kernel_rfl) e)
  · exact @Vc.use _ (ExsJ false (b.W 0) D97.2.2 w97.2.1 (ρ97 i V [nv "mod" (ri m)]) none) (cs false b.g0 6 D97.2.2 4 w97.2.1 (ρ97 i V [nv "mod" (ri m)]) none) (.next, ρ97 (i.fdiv 16) (PySem.W.KBy.picked APb (some (i.fmod 16)) (some (i.fmod 16 + 1)) ++ V) [nv "mod" (ri (i.fmod 16))], none) (by kernel_rfl) (Eq.trans (by kernel_rfl) e)
theorem Base.tst97 {i : Int} {V : Array UInt8} {tl : Loc} {z : Bool} (h : (!decide (i = 0)) = z) : Tst (b.W 0) D97.2.2 none (ρ97 i V tl) w97.1 z := by
  exact Vc.use (ce b.g0 6 D97.2.2 (ρ97 i V tl) w97.1).2 (Eq.trans (b := !decide (i = 0)) (by kernel_rfl) h) (by kernel_rfl)
theorem Base.loop97 : ∀ (n x : Nat) (V : List UInt8) (tl : Loc), hexN x = n → V.length + n ≤ 1000 → (tl = [] ∨ ∃ m, tl = [nv "mod" (ri m)]) →
    ∃ tl', (tl' = [] ∨ ∃ m, tl' = [nv "mod" (ri m)]) ∧ While (b.W 0) D97.2.2 w97.1 w97.2.1 n (ρ97 x V.toArray tl) none (ρ97 0 (lettL n x ++ V).toArray tl') none := by
  intro n
  induction n with
  | zero =>
    intro x V tl hx hV ht
    have hx0 : x = 0 := by have := hexN_iff.mp (Nat.le_of_eq hx); (first | lia | omega)
    subst hx0
    exact ⟨tl, ht, .done (b.tst97 rfl)⟩
  | succ n ih =>
    intro x V tl hx hV ht
    have h0 : x ≠ 0 := fun e => by rw [e, hexN_zero] at hx; (first | lia | omega)
    have hd : ((x : Nat) : Int).fdiv 16 = ((x / 16 : Nat) : Int) := fdiv_cast
    have hm : ((x : Nat) : Int).fmod 16 = ((x % 16 : Nat) : Int) := fmod_cast
    have h1 : hexN (x / 16) = n := by have := hexN_succ h0; (first | lia | omega)
    have hlen : (lett (x % 16) :: V).length = V.length + 1 := rfl
    obtain ⟨tl', k1, k2⟩ := ih (x / 16) (lett (x % 16) :: V) [nv "mod" (ri ((x % 16 : Nat) : Int))] h1 (by (first | lia | omega)) (.inr ⟨_, rfl⟩)
    have t := @Base.turn97 prog w B b x V.toArray (lett (x % 16)) tl ht (by rw [hm]; exact picked16 _ (Nat.mod_lt _ (by decide))) (by rw [List.size_toArray]; (first | lia | omega))
    rw [hd, hm] at t
    have e : lettL n (x / 16) ++ lett (x % 16) :: V = lettL (n + 1) x ++ V := by rw [lettL_succ, List.append_assoc]; rfl
    have e2 : (#[lett (x % 16)] ++ V.toArray : Array UInt8) = (lett (x % 16) :: V).toArray := List.append_toArray [lett (x % 16)] V
    rw [e2] at t
    rw [e] at k2
    exact ⟨tl', k1, .turn (b.tst97 (by rw [decide_eq_false (by (first | lia | omega))]; rfl)) t k2⟩
theorem Base.spec97 {v : Int} {x : Nat} (hv : (if v < 0 then -v else v) = x) (hx : hexN x ≤ 900) : Spc false (b.W 1) 97 [.int v] (.bytes (wordL x).toArray) := by
  have s1 := @Vc.use _ (ExsJ false (b.W 0) D97.2.2 (D97.2.1.take 3) [nv "num" (ri v)] none) (cs false b.g0 6 D97.2.2 4 (D97.2.1.take 3) [nv "num" (ri v)] none) (.next, ρ97 (if v < 0 then -v else v) #[] [], none) (by kernel_rfl) (by kernel_rfl)
  rw [hv] at s1
  obtain ⟨tl, ht, hw⟩ := b.loop97 (hexN x) x [] [] rfl (by rw [List.length_nil]; (first | lia | omega)) (.inl rfl)
  rw [List.append_nil] at hw
  have s5 : ExJ false (b.W 0) D97.2.2 (stAt D97.2.1 4) (ρ97 0 (wordL x).toArray tl) none (.ret (.val (.bytes (wordL x).toArray)), ρ97 0 (wordL x).toArray tl, none) :=
    @Vc.use _ (ExJ false (b.W 0) D97.2.2 (stAt D97.2.1 4) (ρ97 0 (wordL x).toArray tl) none) (exV false b.g0 6 D97.2.2 4 (stAt D97.2.1 4) (ρ97 0 (wordL x).toArray tl) none) (.ret (.val (.bytes (wordL x).toArray)), ρ97 0 (wordL x).toArray tl, none) (by kernel_rfl) (by kernel_rfl)
  refine @FnB.spc false (b.W 0) 97 _ _ [.int v] _ (.val _) none b.f97 rfl ?_ (.inl rfl) rfl
  rw [b97]
  intro F s₀
  exact Bd.last (Exs.append s1 (Exs.cons (Ex.while_ hw) (Exs.ret s5)))
end
end Mine
namespace Mine
set_option genSizeOf false
set_option genInjectivity false
noncomputable abbrev Mono := Nat × Nat × Nat
noncomputable def comp (m : Mono) : Nat → Nat
  | 0 => m.1
  | 1 => m.2.1
  | _ => m.2.2
noncomputable def triPV (m : Mono) : PV := .tup [nI m.1, nI m.2.1, nI m.2.2]
noncomputable def TailQ (t : List Nat) : Prop := t = [] ∨ t = [98] ∨ t = [98, 46]
noncomputable def EndQ (t : List Nat) : Prop := t = [10] ∨ t = [13] ∨ t = [13, 10]
noncomputable def EndR (t : List Nat) : Prop := t = [13] ∨ t = [13, 10]
noncomputable def quoL (b : Bool) (l : List Nat) : List Nat := dotsL b (crlfL l)
noncomputable abbrev dots (n : Nat) : List Nat := List.replicate n 46
section
variable {e t r : List Nat}
theorem quo_dots : ∀ n : Nat, quoL false (dots n ++ r) = dots n ++ quoL false r := fun n => by
  induction n with
  | zero => rfl
  | succ n ih => exact congrArg (46 :: ·) ih
theorem quo_tail (h : TailQ t) : quoL false (t ++ r) = t ++ quoL false r := by rcases h with rfl | rfl | rfl <;> rfl
theorem quo_end (h : EndQ e) : quoL false (e ++ 46 :: r) = 13 :: 10 :: quoL true (46 :: r) := by rcases h with rfl | rfl | rfl <;> rfl
theorem quo_end13 (h : EndQ e) : quoL false (e ++ 13 :: r) = 13 :: 10 :: quoL true (13 :: r) := by rcases h with rfl | rfl | rfl <;> rfl
theorem quo_endR (h : EndR e) : quoL true (e ++ 46 :: r) = 13 :: 10 :: quoL true (46 :: r) := by rcases h with rfl | rfl <;> rfl
end
variable {T E : Nat → List Nat} {e1 e2 : List Nat}
noncomputable def row0 (T E : Nat → List Nat) (x : Mono × Nat) : List Nat := dots (comp x.1 x.2 + 1) ++ T x.2 ++ E x.2
noncomputable def rowS (T : Nat → List Nat) (x : Mono × Nat) : List Nat := dots (comp x.1 x.2 + 2) ++ T x.2
noncomputable def rowE (T : Nat → List Nat) (x : Mono × Nat) : List Nat := rowS T x ++ [13, 10]
noncomputable def csOf (fam : List Mono) : List (Mono × Nat) := fam.flatMap fun m => [(m, 0), (m, 1), (m, 2)]
noncomputable def sent0 (T E : Nat → List Nat) (e1 e2 : List Nat) (cs : List (Mono × Nat)) : List Nat := [97, 46] ++ e1 ++ e2 ++ (cs.map (row0 T E)).flatten ++ [46]
noncomputable def sent1 (T : Nat → List Nat) (cs : List (Mono × Nat)) : List Nat := [97, 46, 13, 10, 13, 10] ++ (cs.map (rowE T)).flatten ++ [46, 46]
theorem rows_head (cs : List (Mono × Nat)) : ∃ r, (cs.map (row0 T E)).flatten ++ [46] = 46 :: r := by
  cases cs with
  | nil => exact ⟨[], rfl⟩
  | cons x cs => exact ⟨_, rfl⟩
theorem quo_rows (hT : ∀ k, TailQ (T k)) (hE : ∀ k, EndQ (E k)) (cs : List (Mono × Nat)) : quoL true ((cs.map (row0 T E)).flatten ++ [46]) = (cs.map (rowE T)).flatten ++ [46, 46] := by
  induction cs with
  | nil => rfl
  | cons x cs ih =>
    obtain ⟨r, hr⟩ := rows_head (T := T) (E := E) cs
    rw [List.map_cons, List.flatten_cons, List.map_cons, List.flatten_cons, List.append_assoc, List.append_assoc, ← ih, hr, row0, rowE, rowS]
    show 46 :: 46 :: quoL false (dots (comp x.1 x.2) ++ T x.2 ++ E x.2 ++ 46 :: r) = _
    rw [List.append_assoc, List.append_assoc, quo_dots, quo_tail (hT _), quo_end (hE _), List.append_assoc, List.append_assoc]
    rfl
theorem quote_sent (hT : ∀ k, TailQ (T k)) (hE : ∀ k, EndQ (E k)) (h1 : EndQ e1) (h2 : EndR e2) (cs : List (Mono × Nat)) : quoteP (txt (sent0 T E e1 e2 cs)) = txt (sent1 T cs) := by
  have k : quoL true (sent0 T E e1 e2 cs) = sent1 T cs := by
    obtain ⟨r, hr⟩ := rows_head (T := T) (E := E) cs
    rw [sent0, sent1, List.append_assoc, List.append_assoc, List.append_assoc, List.append_assoc [97, 46, 13, 10, 13, 10], ← quo_rows hT hE, hr]
    show 97 :: 46 :: quoL false (e1 ++ (e2 ++ 46 :: r)) = _
    have e : quoL false (e1 ++ (e2 ++ 46 :: r)) = 13 :: 10 :: quoL true (e2 ++ 46 :: r) := by rcases h2 with rfl | rfl <;> exact quo_end13 h1
    rw [e, quo_endR h2]
    rfl
  rw [quoteP, txt_list]
  exact congrArg txt k
noncomputable def partsS (T : Nat → List Nat) (cs : List (Mono × Nat)) : List (List Nat) := [97, 46] :: [] :: (cs.map (rowS T) ++ [[46, 46]])
theorem join_rows (cs : List (Mono × Nat)) : joinT [13, 10] (cs.map (rowS T) ++ [[46, 46]]) = (cs.map (rowE T)).flatten ++ [46, 46] ∧ ∃ p r, cs.map (rowS T) ++ [[46, 46]] = p :: r := by
  induction cs with
  | nil => exact ⟨rfl, _, _, rfl⟩
  | cons x cs ih =>
    obtain ⟨ih, p, r, e⟩ := ih
    refine ⟨?_, _, _, rfl⟩
    rw [List.map_cons, List.cons_append, List.map_cons, List.flatten_cons, List.append_assoc, ← ih, e]
    rfl
theorem join_sent (cs : List (Mono × Nat)) : joinT [13, 10] (partsS T cs) = sent1 T cs := by
  obtain ⟨h, p, r, e⟩ := join_rows (T := T) cs
  rw [sent1, List.append_assoc, ← h, partsS, e]
  rfl
theorem split_sent (hT : ∀ k, TailQ (T k)) (cs : List (Mono × Nat)) : Txt.split (txt (sent1 T cs)) (txt [13, 10]) = (partsS T cs).map txt := by
  have h13 : ∀ x, 13 ∉ rowS T x := fun x q => by
    rcases List.mem_append.mp q with q | q
    · cases List.eq_of_mem_replicate q
    · rcases hT x.2 with e | e | e <;> rw [e] at q <;> revert q <;> decide
  rw [← join_sent]
  refine split_joined (List.cons_ne_nil _ _) (fun p hp => ?_) (by decide)
  rcases List.mem_cons.mp hp with rfl | hp
  · decide
  rcases List.mem_cons.mp hp with rfl | hp
  · decide
  rcases List.mem_append.mp hp with hp | hp
  · obtain ⟨x, _, rfl⟩ := List.mem_map.mp hp
    exact h13 x
  · rw [List.mem_singleton.mp hp]; decide
end Mine
namespace Mine
set_option genSizeOf false
set_option genInjectivity false
noncomputable def pick3 {α : Type} (i : Int) (x y z : α) : α := if i = 0 then x else if i = 1 then y else z
noncomputable def pick5 {α : Type} (i : Int) (x y z u v : α) : α := if i = 0 then x else if i = 1 then y else if i = 2 then z else if i = 3 then u else v
section
variable {W : Ws} {i : Int} {α : Type} {f : α → PV} {x y z u v : α}
theorem at3 (h : (decide (0 ≤ i) && decide (i < 3)) = true) : [f x, f y, f z][i.toNat]? = some (f (pick3 i x y z)) := by
  have h1 := of_decide_eq_true (and1 h)
  have h2 := of_decide_eq_true (and2 h)
  obtain rfl | rfl | rfl : i = 0 ∨ i = 1 ∨ i = 2 := by (first | lia | omega)
  all_goals rfl
theorem at5 (h : (decide (0 ≤ i) && decide (i < 5)) = true) : [f x, f y, f z, f u, f v][i.toNat]? = some (f (pick5 i x y z u v)) := by
  have h1 := of_decide_eq_true (and1 h)
  have h2 := of_decide_eq_true (and2 h)
  obtain rfl | rfl | rfl | rfl | rfl : i = 0 ∨ i = 1 ∨ i = 2 ∨ i = 3 ∨ i = 4 := by (first | lia | omega)
  all_goals rfl
theorem at_lt {l : List PV} {p : PV} {n : Int} (hn : n < 1048576) (h : (decide (0 ≤ i) && decide (i < n)) = true) (e : l[i.toNat]? = some p) : GetQ (.tup l) ∧ Op2 W getItem (.tup l) (.int i) p :=
  ⟨getQ_tup, op_itemT (Bool.and_eq_true_iff.mpr ⟨and1 h, decide_eq_true (Int.lt_trans (of_decide_eq_true (and2 h)) hn)⟩) e⟩
end
noncomputable def pickV (W : Ws) (p : PV) (i : Int) : Vc (fun r => GetQ p ∧ Op2 W getItem p (.int i) r) := match p with
  | .tup [.str x, .str y, .str z] => ⟨.str (pick3 i x y z), decide (0 ≤ i) && decide (i < 3), fun h => at_lt (by decide) h (at3 h)⟩
  | .tup [.int x, .int y, .int z] => ⟨.int (pick3 i x y z), decide (0 ≤ i) && decide (i < 3), fun h => at_lt (by decide) h (at3 h)⟩
  | .tup [.str x, .str y, .str z, .str u, .str v] => ⟨.str (pick5 i x y z u v), decide (0 ≤ i) && decide (i < 5), fun h => at_lt (by decide) h (at5 h)⟩
  | p => itemV W p i
noncomputable def Gam.pick {W : Ws} (Γ : Gam W) : Gam W := { Γ with item := pickV W }
structure LC where
  x : Str
  xp : Pos
  elt : Expr
  g : Comprehension
  rest : List Comprehension
  csc : Scope
  cp : Pos
  p : Pos
noncomputable def LC.e (L : LC) : Expr := .ListComp L.elt (L.g :: L.rest) L.csc L.cp
noncomputable def LC.st (L : LC) : Stmt := .Assign [.Name L.x L.xp] L.e L.p
noncomputable def noG : Comprehension := ⟨.Name ⟨#[]⟩ ⟨0, 0, 0, 0⟩, .Name ⟨#[]⟩ ⟨0, 0, 0, 0⟩, [], 0⟩
noncomputable def noLC : LC := ⟨⟨#[]⟩, ⟨0, 0, 0, 0⟩, noG.target, noG, [], noFn.2.2, ⟨0, 0, 0, 0⟩, ⟨0, 0, 0, 0⟩⟩
noncomputable def lcE : Expr → LC
  | .ListComp elt (g :: rest) csc cp => { noLC with elt := elt, g := g, rest := rest, csc := csc, cp := cp }
  | _ => noLC
noncomputable def lcP : Stmt → LC
  | .Assign [.Name x xp] e p => { lcE e with x := x, xp := xp, p := p }
  | _ => noLC
section
variable {c : Bool} {W : Ws} {sc : Scope} {σ : Sto} {ρ : Loc} {items l : List PV}
noncomputable abbrev LC.T (L : LC) (W : Ws) (sc : Scope) (σ : Sto) (ρ : Loc) : PV → List PV → Prop := TurnOk W (relabelP L.csc sc) σ (outerP L.csc ρ) L.g L.rest L.elt
noncomputable def LC.q (L : LC) (sc : Scope) : Bool := compQ sc L.csc && (L.g :: L.rest).all pgQ
theorem LC.ev {L : LC} (hq : L.q sc = true) (hl : l.length ≤ 1048576) (h1 : Itm W sc σ ρ L.g.target L.g.iter items) (h2 : Turns (L.T W sc σ ρ) items l) : Vl W sc σ ρ L.e (.lst l) := by
  exact Ev.comp' (Bool.and_eq_true_iff.mpr ⟨and1 hq, Bool.and_eq_true_iff.mpr ⟨and2 hq, decide_eq_true hl⟩⟩) h1 h2
theorem LC.ex {L : LC} (hx : (stoQ sc L.x && L.q sc) = true) (hsw : swapsWith L.e (some (.Name L.x L.xp)) L.p.line (dEnv sc) = pure true) (hl : l.length ≤ 1048576) (h1 : Itm W sc σ ρ L.g.target L.g.iter items) (h2 : Turns (L.T W sc σ ρ) items l) : Ex c W sc L.st ρ σ .next (setP L.x (.val (.lst l)) ρ) σ := by
  exact Ex.asgComp' (and1 hx) hsw (Bool.and_eq_true_iff.mpr ⟨and1 (and2 hx), Bool.and_eq_true_iff.mpr ⟨and2 (and2 hx), decide_eq_true hl⟩⟩) h1 h2
theorem Turns.flat {α : Type} {R : PV → List PV → Prop} {f : α → PV} {g : α → List PV} {xs : List α} (h : ∀ x ∈ xs, R (f x) (g x)) : Turns R (xs.map f) (xs.flatMap g) := by
  induction xs with
  | nil => exact .nil
  | cons x xs ih => exact .cons (h x List.mem_cons_self) (ih fun y hy => h y (List.mem_cons_of_mem _ hy))
theorem Turns.map {α : Type} {R : PV → List PV → Prop} {f : α → PV} {g : α → PV} {xs : List α} (h : ∀ x ∈ xs, R (f x) [g x]) : Turns R (xs.map f) (xs.map g) := by
  rw [List.map_eq_flatMap (f := g)]
  exact Turns.flat h
end
noncomputable section
variable {W : Ws} (Γ : Gam W) (n : Nat) (sc : Scope) {σ : Sto} (ρ : Loc) (L : LC)
noncomputable def itV (t e : Expr) : Vc (fun items => Itm W sc σ ρ t e items) := itmV Γ σ sc ρ t e (ce Γ n sc ρ e).1 fun sc ρ e => (ce Γ n sc ρ e).1
noncomputable def tnV (p : PV) : Vc (L.T W sc σ ρ p) := turnV (ce Γ n) (relabelP L.csc sc) (outerP L.csc ρ) L.elt L.g L.rest (gnV Γ (ce Γ n) (relabelP L.csc sc) L.elt L.rest) p
end
end Mine
namespace Mine
set_option genSizeOf false
set_option genInjectivity false
noncomputable abbrev D128 : Arguments × List Stmt × Scope := defOf' "_law_multiples"
noncomputable def tS (cell : Int) (k : Nat) : Str := pick3 ((cell.fdiv 3 + k).fmod 3) (txt []) (txt [98]) (txt [98, 46])
noncomputable def eS (i : Int) : Str := pick3 (i.fmod 3) (txt [10]) (txt [13]) (txt [13, 10])
noncomputable def uS (i : Int) : Str := pick3 (1 + i.fmod 2) (txt [10]) (txt [13]) (txt [13, 10])
noncomputable def endsPV : PV := .tup [.str (txt [10]), .str (txt [13]), .str (txt [13, 10])]
noncomputable def caseP (cell : Int) (x : Mono × Nat) : PV := .tup [triPV x.1, nI x.2, .str (tS cell x.2)]
noncomputable def ρm (fm : PV) (cell : Int) : Loc := [nv "family" (.val fm), nv "cell" (ri cell)]
noncomputable def ρe (fm : PV) (cell : Int) : Loc := ρm fm cell ++ [nv "ends" (.val endsPV)]
noncomputable def ρc (fm : PV) (cell : Int) (cs : List PV) : Loc := ρe fm cell ++ [nv "cases" (.val (.lst cs))]
noncomputable def La : LC := lcP (stAt D128.2.1 1)
noncomputable def Lb : LC := lcP (stAt D128.2.1 2)
theorem La_st : stAt D128.2.1 1 = La.st := by kernel_rfl
theorem Lb_st : stAt D128.2.1 2 = Lb.st := by kernel_rfl
theorem fm3 (x : Int) : (decide (0 ≤ x.fmod 3) && decide (x.fmod 3 < 3)) = true := an (dt (Int.fmod_nonneg_of_pos x (by decide))) (dt (Int.fmod_lt_of_pos x (by decide)))
section
variable {prog : Program} {w : World} {B : Bs} (b : Base prog w B)
noncomputable def Base.f48s : FnV (b.W 1) := addV 48 (b.f48.is (W := b.W 0)) (fun ps => match ps with
  | [.str x] => ⟨.str (quoteP x), decide (x.cps.size ≤ 2 ^ 19), fun q => b.spec48 (of_decide_eq_true q)⟩
  | _ => .no .none) (noFns _)
noncomputable def Base.g128 : Gam (b.W 1) := (gam (b.glob 1) b.f48s (noMe _)).pick
end
end Mine
namespace Mine
set_option genSizeOf false
set_option genInjectivity false
noncomputable def tT (cell : Int) (k : Nat) : List Nat := (tS cell k).cps.toList
noncomputable def eT (cell : Int) (k : Nat) : List Nat := (eS (cell + k)).cps.toList
noncomputable def e1T (cell : Int) : List Nat := (eS (cell.fdiv 9)).cps.toList
noncomputable def e2T (cell : Int) : List Nat := (uS (cell.fdiv 27)).cps.toList
theorem pick3_or {α : Type} {P : α → Prop} {i : Int} {x y z : α} (hx : P x) (hy : P y) (hz : P z) : P (pick3 i x y z) := by
  unfold pick3
  split
  · exact hx
  · split
    · exact hy
    · exact hz
theorem tail_ok (cell : Int) (k : Nat) : TailQ (tT cell k) := pick3_or (P := fun s : Str => TailQ s.cps.toList) (.inl rfl) (.inr (.inl rfl)) (.inr (.inr rfl))
theorem eS_ok (i : Int) : EndQ (eS i).cps.toList := pick3_or (P := fun s : Str => EndQ s.cps.toList) (.inl rfl) (.inr (.inl rfl)) (.inr (.inr rfl))
theorem end_ok (cell : Int) (k : Nat) : EndQ (eT cell k) := eS_ok _
theorem uS_ok (i : Int) : EndR (uS i).cps.toList := by
  have h1 := Int.fmod_nonneg_of_pos i (show (0 : Int) < 2 by decide)
  unfold uS pick3
  rw [if_neg (by (first | lia | omega))]
  split
  · exact .inl rfl
  · exact .inr rfl
theorem tail_len {t : List Nat} (h : TailQ t) : t.length ≤ 2 := by rcases h with rfl | rfl | rfl <;> decide
theorem end_len {t : List Nat} (h : EndQ t) : t.length ≤ 2 := by rcases h with rfl | rfl | rfl <;> decide
theorem endR_len {t : List Nat} (h : EndR t) : t.length ≤ 2 := by rcases h with rfl | rfl <;> decide
theorem fold_app : ∀ (l : List (Array Nat)) (acc : Array Nat), (l.foldl (· ++ ·) acc).toList = acc.toList ++ (l.map Array.toList).flatten := fun l => by
  induction l with
  | nil => exact fun acc => (List.append_nil _).symm
  | cons x l ih =>
    intro acc
    rw [List.foldl_cons, ih, Array.toList_append, List.append_assoc]; rfl
theorem mul_dot (n : Nat) : Txt.mul (txt [46]) (n : Int) = txt (dots n) := by
  unfold Txt.mul
  split
  · have : n = 0 := by (first | lia | omega)
    subst this; rfl
  · split
    · rename_i h
      rcases Bool.or_eq_true_iff.mp h with h | h
      · have h3 : (n : Int) = 1 := eq_of_beq h
        have : n = 1 := by (first | lia | omega)
        subst this; rfl
      · exact absurd h (by decide)
    · have key : ∀ n : Nat, ((List.replicate n (#[46] : Array Nat)).map Array.toList).flatten = List.replicate n 46 := fun n => by
        induction n with
        | zero => rfl
        | succ n ih => exact congrArg (46 :: ·) ih
      show (⟨_⟩ : Str) = ⟨_⟩
      congr 1
      apply Array.toList_inj.mp
      rw [fold_app, Int.toNat_natCast]
      exact key n
theorem dot_eq : Str.ofString "." = txt [46] := by kernel_rfl
theorem dots_eq {i : Int} {n : Nat} (h : i = n) : Txt.mul (Str.ofString ".") i = txt (dots n) := by rw [h, dot_eq, mul_dot]
structure FamOk (fam : List Mono) : Prop where
  len : fam.length ≤ 100
  comps : ∀ m ∈ fam, ∀ k, comp m k ≤ 20
theorem cs_len (fam : List Mono) : (csOf fam).length = 3 * fam.length := by
  induction fam with
  | nil => rfl
  | cons m r ih =>
    show (csOf r).length + 1 + 1 + 1 = 3 * (r.length + 1)
    (first | lia | omega)
theorem FamOk.cs {fam : List Mono} (h : FamOk fam) : (csOf fam).length ≤ 300 ∧ ∀ x ∈ csOf fam, x.2 < 3 ∧ comp x.1 x.2 ≤ 20 := by
  refine ⟨by rw [cs_len]; have := h.len; (first | lia | omega), fun x hx => ?_⟩
  obtain ⟨m, hm, h2⟩ := List.mem_flatMap.mp hx
  have hc := h.comps m hm
  rcases List.mem_cons.mp h2 with rfl | h2
  · exact ⟨show 0 < 3 by decide, hc 0⟩
  rcases List.mem_cons.mp h2 with rfl | h2
  · exact ⟨show 1 < 3 by decide, hc 1⟩
  rw [List.mem_singleton.mp h2]
  exact ⟨show 2 < 3 by decide, hc 2⟩
theorem row0_len {T E : Nat → List Nat} (hT : ∀ k, TailQ (T k)) (hE : ∀ k, EndQ (E k)) (x : Mono × Nat) : (row0 T E x).length ≤ comp x.1 x.2 + 5 := by
  have h1 := tail_len (hT x.2)
  have h2 := end_len (hE x.2)
  rw [row0, List.length_append, List.length_append, List.length_replicate]
  (first | lia | omega)
theorem rowS_len {T : Nat → List Nat} (hT : ∀ k, TailQ (T k)) (x : Mono × Nat) : (rowS T x).length ≤ comp x.1 x.2 + 4 := by
  have h1 := tail_len (hT x.2)
  rw [rowS, List.length_append, List.length_replicate]
  (first | lia | omega)
theorem pick_comp {m : Mono} {k : Nat} (h : k < 3) : pick3 (k : Int) (m.1 : Int) m.2.1 m.2.2 = (comp m k : Nat) := by
  obtain rfl | rfl | rfl : k = 0 ∨ k = 1 ∨ k = 2 := by (first | lia | omega)
  all_goals rfl
end Mine
namespace Mine
set_option genSizeOf false
set_option genInjectivity false
noncomputable def rowP (cell : Int) (x : Mono × Nat) : List Nat := row0 (tT cell) (eT cell) x
noncomputable def rowsP (cell : Int) (cs : List (Mono × Nat)) : List PV := cs.map fun x => .str (txt (rowP cell x))
noncomputable abbrev casesP (cell : Int) (cs : List (Mono × Nat)) : List PV := cs.map (caseP cell)
noncomputable abbrev famP (fam : List Mono) : PV := .lst (fam.map triPV)
noncomputable def ρr (fm : PV) (cell : Int) (cs rs : List PV) : Loc := ρc fm cell cs ++ [nv "rows" (.val (.lst rs))]
section
variable {prog : Program} {w : World} {B : Bs} (b : Base prog w B) {fam : List Mono} {cell : Int} {fm : PV}
theorem Base.a128 (fm : PV) (cell : Int) : Ex false (b.W 1) D128.2.2 (stAt D128.2.1 0) (ρm fm cell) none .next (ρe fm cell) none := by
  exact @Vc.use _ (ExJ false (b.W 1) D128.2.2 (stAt D128.2.1 0) (ρm fm cell) none) (exV false b.g128 6 D128.2.2 4 (stAt D128.2.1 0) (ρm fm cell) none) (.next, ρe fm cell, none) (by kernel_rfl) (by kernel_rfl)
theorem Base.b128 (hf : FamOk fam) : Ex false (b.W 1) D128.2.2 (stAt D128.2.1 1) (ρe (famP fam) cell) none .next (ρc (famP fam) cell (casesP cell (csOf fam))) none := by
  have h1 := @Vc.use _ _ (itV b.g128 6 D128.2.2 (σ := none) (ρe (famP fam) cell) La.g.target La.g.iter) (fam.map triPV) (by kernel_rfl) (by kernel_rfl)
  have h2 : ∀ p : PV, La.T (b.W 1) D128.2.2 none (ρe (famP fam) cell) p [.tup [p, nI 0, .str (tS cell 0)], .tup [p, nI 1, .str (tS cell 1)], .tup [p, nI 2, .str (tS cell 2)]] := fun p =>
    Vc.use (tnV b.g128 6 D128.2.2 (σ := none) (ρe (famP fam) cell) La p) (by kernel_rfl) (Eq.trans (by kernel_rfl) (an (an (fm3 (cell.fdiv 3 + (0 : Nat))) rfl) (an (an (fm3 (cell.fdiv 3 + (1 : Nat))) rfl) (an (an (fm3 (cell.fdiv 3 + (2 : Nat))) rfl) rfl))))
  have e : casesP cell (csOf fam) = fam.flatMap fun m => [caseP cell (m, 0), caseP cell (m, 1), caseP cell (m, 2)] := List.map_flatMap
  have h3 := Turns.flat (R := La.T (b.W 1) D128.2.2 none (ρe (famP fam) cell)) (f := triPV) (xs := fam) fun m _ => h2 (triPV m)
  have hl : (casesP cell (csOf fam)).length ≤ 1048576 := by rw [List.length_map]; have := hf.cs.1; (first | lia | omega)
  have k : Ex false (b.W 1) D128.2.2 La.st (ρe (famP fam) cell) none .next (setP La.x (.val (.lst (casesP cell (csOf fam)))) (ρe (famP fam) cell)) none := by
    rw [e] at hl ⊢
    exact LC.ex (by kernel_rfl) (by kernel_rfl) hl @h1 h3
  rw [La_st]
  exact @k
theorem Base.c128 (hf : FamOk fam) : Ex false (b.W 1) D128.2.2 (stAt D128.2.1 2) (ρc fm cell (casesP cell (csOf fam))) none .next (ρr fm cell (casesP cell (csOf fam)) (rowsP cell (csOf fam))) none := by
  have hl := hf.cs
  generalize csOf fam = cs at *
  have h1 := @Vc.use _ _ (itV b.g128 6 D128.2.2 (σ := none) (ρc fm cell (casesP cell cs)) Lb.g.target Lb.g.iter) (casesP cell cs) (by kernel_rfl) (by kernel_rfl)
  have h2 : ∀ x ∈ cs, Lb.T (b.W 1) D128.2.2 none (ρc fm cell (casesP cell cs)) (caseP cell x) [.str (txt (rowP cell x))] := fun x hx => by
    obtain ⟨k1, k2⟩ := hl.2 x hx
    have ht := tail_len (tail_ok cell x.2)
    have he := end_len (end_ok cell x.2)
    have em : Txt.mul (Str.ofString ".") (pick3 (x.2 : Int) (x.1.1 : Int) x.1.2.1 x.1.2.2 + 1) = txt (dots (comp x.1 x.2 + 1)) := dots_eq (by rw [pick_comp k1]; rfl)
    have et : tS cell x.2 = txt (tT cell x.2) := txt_of _
    have ee : eS (cell + x.2) = txt (eT cell x.2) := txt_of _
    have e : txt (rowP cell x) = Txt.mul (Str.ofString ".") (pick3 (x.2 : Int) (x.1.1 : Int) x.1.2.1 x.1.2.2 + 1) ++ tS cell x.2 ++ eS (cell + x.2) := by
      rw [em, et, ee, txt_app, txt_app]; rfl
    have hc : (0 : Int) ≤ pick3 (x.2 : Int) (x.1.1 : Int) x.1.2.1 x.1.2.2 + 1 ∧ pick3 (x.2 : Int) (x.1.1 : Int) x.1.2.1 x.1.2.2 + 1 ≤ 1000 := by rw [pick_comp k1]; (first | lia | omega)
    rw [e]
    exact Vc.use (tnV b.g128 6 D128.2.2 (σ := none) (ρc fm cell (casesP cell cs)) Lb (caseP cell x)) (by kernel_rfl) (Eq.trans (by kernel_rfl) (an (an (an (an (an (dt (show (0 : Int) ≤ (x.2 : Int) by (first | lia | omega))) (dt (show (x.2 : Int) < 3 by (first | lia | omega)))) rfl) (an (dt hc.1) (dt hc.2))) (dt (show (Txt.mul (Str.ofString ".") (pick3 (x.2 : Int) (x.1.1 : Int) x.1.2.1 x.1.2.2 + 1)).length + (tS cell x.2).length ≤ 1048576 by rw [em, et, txt_len, txt_len, List.length_replicate]; (first | lia | omega)))) (an (fm3 (cell + x.2)) (dt (show (Txt.mul (Str.ofString ".") (pick3 (x.2 : Int) (x.1.1 : Int) x.1.2.1 x.1.2.2 + 1) ++ tS cell x.2).length + (eS (cell + x.2)).length ≤ 1048576 by rw [em, et, ee, txt_app, txt_len, txt_len, List.length_append, List.length_replicate]; (first | lia | omega))))))
  have hl2 : (rowsP cell cs).length ≤ 1048576 := by rw [show (rowsP cell cs).length = cs.length from List.length_map ..]; (first | lia | omega)
  have k : Ex false (b.W 1) D128.2.2 Lb.st (ρc fm cell (casesP cell cs)) none .next (setP Lb.x (.val (.lst (rowsP cell cs))) (ρc fm cell (casesP cell cs))) none := by
    exact LC.ex (by kernel_rfl) (by kernel_rfl) hl2 @h1 (Turns.map h2)
  rw [Lb_st]
  exact @k
end
end Mine
namespace Mine
set_option genSizeOf false
set_option genInjectivity false
theorem joinT_nil (ps : List (List Nat)) : joinT [] ps = ps.flatten := by
  induction ps with
  | nil => rfl
  | cons p r ih =>
    cases r with
    | nil => exact (List.append_nil p).symm
    | cons q r => rw [joinT, ih, List.append_nil]; rfl
theorem nil_eq : Str.ofString "" = txt [] := by kernel_rfl
theorem join_rows' {α : Type} (f : α → List Nat) (xs : List α) : ((xs.map fun x => PV.str (txt (f x))).map toS) = (xs.map f).map txt ∧ Txt.join (Str.ofString "") ((xs.map fun x => PV.str (txt (f x))).map toS) = txt (xs.map f).flatten := by
  have e : (xs.map fun x => PV.str (txt (f x))).map toS = (xs.map f).map txt := by rw [List.map_map, List.map_map]; rfl
  exact ⟨e, by rw [e, nil_eq, join_txt, joinT_nil]⟩
theorem join_ok {α : Type} {f : α → List Nat} {xs : List α} (hn : xs.length ≤ 300) (h : ∀ x ∈ xs, (f x).length ≤ 26) : ((xs.map fun x => PV.str (txt (f x))).all isS && JoinOk (Str.ofString "") ((xs.map fun x => PV.str (txt (f x))).map toS)) = true ∧ (xs.map f).flatten.length ≤ 7800 := by
  have hs := sum_le (ps := xs.map f) (k := 26) fun p hp => by
    obtain ⟨x, hx, rfl⟩ := List.mem_map.mp hp
    exact h x hx
  rw [List.length_map] at hs
  have hm := Nat.mul_le_mul_right 26 hn
  refine ⟨an ?_ ?_, by rw [List.length_flatten]; (first | lia | omega)⟩
  · rw [List.all_map]
    exact List.all_eq_true.mpr fun _ _ => rfl
  · rw [(join_rows' f xs).1, nil_eq]
    exact joinOk_txt (by rw [List.length_map, List.length_nil, show sizeLine = 16777216 from rfl]; (first | lia | omega))
theorem ad_eq : Str.ofString "a." = txt [97, 46] := by kernel_rfl
noncomputable def ρs (fm : PV) (cell : Int) (cs rs : List PV) (st : Str) : Loc := ρr fm cell cs rs ++ [nv "sent" (.val (.str st))]
theorem u3 (x : Int) : (decide (0 ≤ 1 + x.fmod 2) && decide (1 + x.fmod 2 < 3)) = true := by
  have h1 := Int.fmod_nonneg_of_pos x (show (0 : Int) < 2 by decide)
  have h2 := Int.fmod_lt_of_pos x (show (0 : Int) < 2 by decide)
  exact an (dt (by (first | lia | omega))) (dt (by (first | lia | omega)))
noncomputable abbrev aA : Str := Str.ofString "a."
noncomputable abbrev aJ (rs : List PV) : Str := Txt.join (Str.ofString "") (rs.map toS)
theorem le_big {x : Str} {l : List Nat} {n : Nat} (e : x = txt l) (h : l.length + n ≤ 1048576) : x.length + n ≤ 1048576 := by rw [e, txt_len]; exact h
section
variable {prog : Program} {w : World} {B : Bs} (b : Base prog w B) {fam : List Mono} {cell : Int} {fm : PV} {cp : List PV}
theorem Base.d128 (hf : FamOk fam) : Ex false (b.W 1) D128.2.2 (stAt D128.2.1 3) (ρr fm cell cp (rowsP cell (csOf fam))) none .next (ρs fm cell cp (rowsP cell (csOf fam)) (txt (sent1 (tT cell) (csOf fam)))) none := by
  have hl := hf.cs
  generalize csOf fam = cs at *
  obtain ⟨hj, hJ⟩ := join_ok (f := rowP cell) (xs := cs) hl.1 fun x hx => by
    have := row0_len (tail_ok cell) (end_ok cell) x
    have := (hl.2 x hx).2
    show (row0 (tT cell) (eT cell) x).length ≤ 26
    (first | lia | omega)
  have eX : eS (cell.fdiv 9) = txt (e1T cell) := txt_of _
  have eU : uS (cell.fdiv 27) = txt (e2T cell) := txt_of _
  have eJ : aJ (rowsP cell cs) = txt (cs.map (rowP cell)).flatten := (join_rows' (rowP cell) cs).2
  have lX := end_len (eS_ok (cell.fdiv 9))
  have lU := endR_len (uS_ok (cell.fdiv 27))
  have e1 : aA ++ eS (cell.fdiv 9) = txt ([97, 46] ++ e1T cell) := by rw [aA, ad_eq, eX, txt_app]
  have e2 : aA ++ eS (cell.fdiv 9) ++ uS (cell.fdiv 27) = txt ([97, 46] ++ e1T cell ++ e2T cell) := by rw [e1, eU, txt_app]
  have e3 : aA ++ eS (cell.fdiv 9) ++ uS (cell.fdiv 27) ++ aJ (rowsP cell cs) = txt ([97, 46] ++ e1T cell ++ e2T cell ++ (cs.map (rowP cell)).flatten) := by rw [e2, eJ, txt_app]
  have e4 : aA ++ eS (cell.fdiv 9) ++ uS (cell.fdiv 27) ++ aJ (rowsP cell cs) ++ Str.ofString "." = txt (sent0 (tT cell) (eT cell) (e1T cell) (e2T cell) cs) := by rw [e3, dot_eq, txt_app]; rfl
  have l1 : ([97, 46] ++ e1T cell).length ≤ 4 := by rw [List.length_append]; exact Nat.add_le_add (show 2 ≤ 2 by decide) lX
  have l2 : ([97, 46] ++ e1T cell ++ e2T cell).length ≤ 6 := by rw [List.length_append]; exact Nat.add_le_add l1 lU
  have l3 : ([97, 46] ++ e1T cell ++ e2T cell ++ (cs.map (rowP cell)).flatten).length ≤ 7806 := by rw [List.length_append]; exact Nat.le_trans (Nat.add_le_add l2 hJ) (by decide)
  have l4 : (sent0 (tT cell) (eT cell) (e1T cell) (e2T cell) cs).length ≤ 7807 := by rw [sent0, List.length_append]; exact Nat.add_le_add l3 (show 1 ≤ 1 by decide)
  rw [← quote_sent (tail_ok cell) (end_ok cell) (eS_ok (cell.fdiv 9)) (uS_ok (cell.fdiv 27)) cs]
  rw [show txt (sent0 (tT cell) (eT cell) (eS (cell.fdiv 9)).cps.toList (uS (cell.fdiv 27)).cps.toList cs) = aA ++ eS (cell.fdiv 9) ++ uS (cell.fdiv 27) ++ aJ (rowsP cell cs) ++ Str.ofString "." from e4.symm]
  have g1 := le_big (n := (eS (cell.fdiv 9)).length) ad_eq (by rw [eX, txt_len]; exact Nat.le_trans (Nat.add_le_add (show 2 ≤ 2 by decide) lX) (by decide))
  have g2 := le_big (n := (uS (cell.fdiv 27)).length) e1 (by rw [eU, txt_len]; exact Nat.le_trans (Nat.add_le_add l1 lU) (by decide))
  have g3 := le_big (n := (aJ (rowsP cell cs)).length) e2 (by rw [eJ, txt_len]; exact Nat.le_trans (Nat.add_le_add l2 hJ) (by decide))
  have g4 := le_big (n := (Str.ofString ".").length) e3 (by rw [dot_eq, txt_len]; exact Nat.le_trans (Nat.add_le_add l3 (show 1 ≤ 1 by decide)) (by decide))
  have g5 : (aA ++ eS (cell.fdiv 9) ++ uS (cell.fdiv 27) ++ aJ (rowsP cell cs) ++ Str.ofString ".").cps.size ≤ 2 ^ 19 := by rw [e4, txt_size]; exact Nat.le_trans l4 (by decide)
  generalize rowsP cell cs = rs at *
  intro F stk as s₀
  exact @Vc.use _ (ExJ false (b.W 1) D128.2.2 (stAt D128.2.1 3) (ρr fm cell cp rs) none) (exV false b.g128 14 D128.2.2 4 (stAt D128.2.1 3) (ρr fm cell cp rs) none) (.next, ρs fm cell cp rs (quoteP (aA ++ eS (cell.fdiv 9) ++ uS (cell.fdiv 27) ++ aJ rs ++ Str.ofString ".")), none) (by kernel_rfl)
    (Eq.trans (by kernel_rfl) (an (an (an (an (an (an (fm3 (cell.fdiv 9)) (dt g1)) (an (u3 (cell.fdiv 27)) (dt g2))) (an hj (dt g3))) (dt g4)) rfl) (dt g5))) F stk as s₀
end
end Mine
namespace Mine
set_option genSizeOf false
set_option genInjectivity false
noncomputable def kids : Expr → List Expr
  | .Compare l _ rs _ => l :: rs
  | .BinOp l _ r _ => [l, r]
  | .Call f es _ _ => f :: es
  | .Attribute e _ _ => [e]
  | .Subscript a i _ => [a, i]
  | .BoolOp _ es _ => es
  | .IfExp t a b _ => [t, a, b]
  | .Tuple es _ _ => es
  | _ => []
noncomputable def kid (e : Expr) (i : Nat) : Expr := (kids e)[i]?.getD noG.target
noncomputable abbrev if128 : Expr × List Stmt × List Stmt × Pos := ifP (stAt D128.2.1 4)
noncomputable def t128 : Expr := if128.1
noncomputable def r128 : Expr := kid t128 1
noncomputable def l128 : Expr := kid r128 0
noncomputable def j128 : Expr := kid l128 1
noncomputable def Lc : LC := lcE (kid j128 1)
theorem if128_eq : stAt D128.2.1 4 = .If t128 if128.2.1 [] if128.2.2.2 := by kernel_rfl
theorem t128_eq : t128 = .Compare (.Name (Str.ofString "sent") (kid t128 0).pos) [.NotEq] [.BinOp (.BinOp (kid l128 0) .Add (.Call (.Attribute (kid (kid j128 0) 0) (Str.ofString "join") (kid j128 0).pos) [Lc.e] [] j128.pos) l128.pos) .Add (kid r128 1) r128.pos] t128.pos := by kernel_rfl
section
variable {W : Ws} {sc : Scope} {σ : Sto} {ρ : Loc} {a d n e le : Expr} {p0 p1 p2 p3 p4 p5 : Pos} {x y z J st : Str} {l : List PV}
theorem Tst.joined (h0 : Rd W sc σ ρ n (.str st)) (ha : Rd W sc σ ρ a (.str x)) (hd : Rd W sc σ ρ d (.str z)) (hn : Rd W sc σ ρ e (.str y)) (hl : Vl W sc σ ρ le (.lst l)) (hj : (l.all isS && JoinOk y (l.map toS)) = true) (hp : (plainBase e && (p0.endLine == p1.line)) = true) (ho : okE le = true)
    (h1 : x.length + (Txt.join y (l.map toS)).length ≤ 1048576) (h2 : (x ++ Txt.join y (l.map toS)).length + z.length ≤ 1048576) (he : x ++ Txt.join y (l.map toS) ++ z = st) (hk : pyOk (.str st) = true) :
    Tst W sc σ ρ (.Compare n [.NotEq] [.BinOp (.BinOp a .Add (.Call (.Attribute e (Str.ofString "join") p0) [le] [] p1) p2) .Add d p3] p4) false := by
  have hJ : Vl W sc σ ρ (.Call (.Attribute e (Str.ofString "join") p0) [le] [] p1) (.str (Txt.join y (l.map toS))) := by
    exact Ev.meth (fun _ => base_ok (and1 hp)) (and2 hp) (by show 1 < 29; decide) hn (Ars.cons (Ev.rv hl) Ars.nil ho) (meth_join hj)
  have hA : Vl W sc σ ρ (.BinOp a .Add (.Call (.Attribute e (Str.ofString "join") p0) [le] [] p1) p2) (.str (x ++ Txt.join y (l.map toS))) := by
    exact Ev.bin ha (Ev.rv hJ) (op_addS (dt h1))
  have hB : Vl W sc σ ρ (.BinOp (.BinOp a .Add (.Call (.Attribute e (Str.ofString "join") p0) [le] [] p1) p2) .Add d p3) (.str st) := by
    rw [← he]
    exact Ev.bin (Ev.rv hA) hd (op_addS (dt h2))
  have hc : (!(toPy (.str st)).eqv (toPy (.str st))) = false := by
    show (!(st == st)) = false
    rw [beq_self_eq_true]; rfl
  rw [← hc]
  intro F stk as s
  exact Tst.cmp h0 (Ev.rv hB) (op_ne (an (an hk hk) (by kernel_rfl))) rfl
end
noncomputable def rowEP (cell : Int) (x : Mono × Nat) : List Nat := rowE (tT cell) x
theorem rn_eq : Str.ofString "\r\n" = txt [13, 10] := by kernel_rfl
theorem c1_eq : Str.ofString "a.\r\n\r\n" = txt [97, 46, 13, 10, 13, 10] := by kernel_rfl
theorem c2_eq : Str.ofString ".." = txt [46, 46] := by kernel_rfl
theorem sent1_ok (cell : Int) (cs : List (Mono × Nat)) : pyOk (.str (txt (sent1 (tT cell) cs))) = true := by
  have h : ∀ d ∈ sent1 (tT cell) cs, d < 128 := by
    have k1 : ∀ d ∈ [97, 46, 13, 10, 13, 10], d < 128 := by decide
    have k2 : ∀ d ∈ [98, 46], d < 128 := by decide
    have k3 : ∀ d ∈ [13, 10], d < 128 := by decide
    intro d hd
    rcases List.mem_append.mp hd with hd | hd
    · rcases List.mem_append.mp hd with hd | hd
      · exact k1 d hd
      · obtain ⟨r, hr, hd⟩ := List.mem_flatten.mp hd
        obtain ⟨x, _, rfl⟩ := List.mem_map.mp hr
        rcases List.mem_append.mp hd with hd | hd
        · rcases List.mem_append.mp hd with hd | hd
          · rw [List.eq_of_mem_replicate hd]; decide
          · rcases tail_ok cell x.2 with e | e | e <;> rw [e] at hd
            · cases hd
            · exact k2 d (List.mem_cons.mpr (.inl (List.mem_singleton.mp hd)))
            · exact k2 d hd
        · exact k3 d hd
    · exact k2 d (by rcases List.mem_cons.mp hd with e | e; exact e ▸ List.mem_cons_of_mem _ List.mem_cons_self; exact List.mem_cons_of_mem _ e)
  show PyData.strOk (txt _) = true
  unfold PyData.strOk
  rw [← Array.all_toList, txt_list]
  exact List.all_eq_true.mpr fun c hc => decide_eq_true (Nat.lt_trans (h c hc) (by decide))
section
variable {prog : Program} {w : World} {B : Bs} (b : Base prog w B) {fam : List Mono} {cell : Int} {fm : PV} {rs : List PV} {st : Str}
noncomputable abbrev ρs' (fm : PV) (cell : Int) (cs : List (Mono × Nat)) (rs : List PV) (st : Str) : Loc := ρs fm cell (casesP cell cs) rs st
theorem Base.lc128 (hf : FamOk fam) : Vl (b.W 1) D128.2.2 none (ρs' fm cell (csOf fam) rs st) Lc.e (.lst ((csOf fam).map fun x => .str (txt (rowEP cell x)))) := by
  have hl := hf.cs
  generalize csOf fam = cs at *
  have h1 := @Vc.use _ _ (itV b.g128 6 D128.2.2 (σ := none) (ρs' fm cell cs rs st) Lc.g.target Lc.g.iter) (casesP cell cs) (by kernel_rfl) (by kernel_rfl)
  have h2 : ∀ x ∈ cs, Lc.T (b.W 1) D128.2.2 none (ρs' fm cell cs rs st) (caseP cell x) [.str (txt (rowEP cell x))] := fun x hx => by
    obtain ⟨k1, k2⟩ := hl.2 x hx
    have ht := tail_len (tail_ok cell x.2)
    have em : Txt.mul (Str.ofString ".") (pick3 (x.2 : Int) (x.1.1 : Int) x.1.2.1 x.1.2.2 + 2) = txt (dots (comp x.1 x.2 + 2)) := dots_eq (by rw [pick_comp k1]; rfl)
    have et : tS cell x.2 = txt (tT cell x.2) := txt_of _
    have e : txt (rowEP cell x) = Txt.mul (Str.ofString ".") (pick3 (x.2 : Int) (x.1.1 : Int) x.1.2.1 x.1.2.2 + 2) ++ tS cell x.2 ++ Str.ofString "\r\n" := by
      rw [em, et, rn_eq, txt_app, txt_app]; rfl
    have hc : (0 : Int) ≤ pick3 (x.2 : Int) (x.1.1 : Int) x.1.2.1 x.1.2.2 + 2 ∧ pick3 (x.2 : Int) (x.1.1 : Int) x.1.2.1 x.1.2.2 + 2 ≤ 1000 := by rw [pick_comp k1]; (first | lia | omega)
    rw [e]
    exact Vc.use (tnV b.g128 6 D128.2.2 (σ := none) (ρs' fm cell cs rs st) Lc (caseP cell x)) (by kernel_rfl) (Eq.trans (by kernel_rfl) (an (an (an (an (an (dt (show (0 : Int) ≤ (x.2 : Int) by (first | lia | omega))) (dt (show (x.2 : Int) < 3 by (first | lia | omega)))) rfl) (an (dt hc.1) (dt hc.2))) (dt (show (Txt.mul (Str.ofString ".") (pick3 (x.2 : Int) (x.1.1 : Int) x.1.2.1 x.1.2.2 + 2)).length + (tS cell x.2).length ≤ 1048576 by rw [em, et, txt_len, txt_len, List.length_replicate]; (first | lia | omega)))) (dt (show (Txt.mul (Str.ofString ".") (pick3 (x.2 : Int) (x.1.1 : Int) x.1.2.1 x.1.2.2 + 2) ++ tS cell x.2).length + (Str.ofString "\r\n").length ≤ 1048576 by rw [em, et, rn_eq, txt_app, txt_len, txt_len, List.length_append, List.length_replicate]; exact Nat.le_trans (Nat.add_le_add_right (show _ ≤ 24 by (first | lia | omega)) _) (by decide)))))
  have hl2 : (cs.map fun x => PV.str (txt (rowEP cell x))).length ≤ 1048576 := by rw [List.length_map]; (first | lia | omega)
  intro F stk as s₀
  exact LC.ev (by kernel_rfl) hl2 @h1 (Turns.map h2)
theorem Base.e128 (hf : FamOk fam) : Ex false (b.W 1) D128.2.2 (stAt D128.2.1 4) (ρs' fm cell (csOf fam) rs (txt (sent1 (tT cell) (csOf fam)))) none .next (ρs' fm cell (csOf fam) rs (txt (sent1 (tT cell) (csOf fam)))) none := by
  have hL := @Base.lc128 prog w B b fam cell fm rs (txt (sent1 (tT cell) (csOf fam))) hf
  have hl := hf.cs
  generalize csOf fam = cs at *
  obtain ⟨hj, hJ⟩ := join_ok (f := rowEP cell) (xs := cs) hl.1 fun x hx => by
    have := rowS_len (tail_ok cell) x
    have := (hl.2 x hx).2
    show (rowS (tT cell) x ++ [13, 10]).length ≤ 26
    rw [List.length_append]
    show _ + 2 ≤ 26
    (first | lia | omega)
  have eJ : aJ (cs.map fun x => .str (txt (rowEP cell x))) = txt (cs.map (rowEP cell)).flatten := (join_rows' (rowEP cell) cs).2
  have e1 : Str.ofString "a.\r\n\r\n" ++ aJ (cs.map fun x => .str (txt (rowEP cell x))) = txt ([97, 46, 13, 10, 13, 10] ++ (cs.map (rowEP cell)).flatten) := by rw [c1_eq, eJ, txt_app]
  have e2 : Str.ofString "a.\r\n\r\n" ++ aJ (cs.map fun x => .str (txt (rowEP cell x))) ++ Str.ofString ".." = txt (sent1 (tT cell) cs) := by rw [e1, c2_eq, txt_app]; rfl
  have g1 := le_big (n := (aJ (cs.map fun x => .str (txt (rowEP cell x)))).length) c1_eq (by rw [eJ, txt_len]; exact Nat.le_trans (Nat.add_le_add (show 6 ≤ 6 by decide) hJ) (by decide))
  have g2 := le_big (n := (Str.ofString "..").length) e1 (by rw [c2_eq, txt_len, List.length_append]; exact Nat.le_trans (Nat.add_le_add (Nat.add_le_add (show 6 ≤ 6 by decide) hJ) (show 2 ≤ 2 by decide)) (by decide))
  have ho := sent1_ok cell cs
  generalize txt (sent1 (tT cell) cs) = st at *
  have v : ∀ {e : Expr} {x : Str}, (ce b.g128 (σ := none) 2 D128.2.2 (ρs' fm cell cs rs st) e).1.val = .val (.str x) → (ce b.g128 (σ := none) 2 D128.2.2 (ρs' fm cell cs rs st) e).1.ob = true → Rd (b.W 1) D128.2.2 none (ρs' fm cell cs rs st) e (.str x) := fun {e x} h1 h2 {F stk as s} => Ev.rv (Vc.use _ h1 h2)
  have t : Tst (b.W 1) D128.2.2 none (ρs' fm cell cs rs st) t128 false := by
    rw [t128_eq]
    exact Tst.joined (v (by kernel_rfl) (by kernel_rfl)) (v (by kernel_rfl) (by kernel_rfl)) (v (by kernel_rfl) (by kernel_rfl)) (v (by kernel_rfl) (by kernel_rfl)) hL hj (by kernel_rfl) (by kernel_rfl) g1 g2 e2 ho
  rw [if128_eq]
  intro F stk as s₀
  exact Ex.iteF t Exs.nil
end
end Mine
namespace Mine
set_option genSizeOf false
set_option genInjectivity false
noncomputable def ρl (fm : PV) (cell : Int) (cs rs : List PV) (st : Str) : Loc := ρs fm cell cs rs st ++ [nv "told" .own]
noncomputable def four (row one : PV) (k : Nat) (t : Str) : Loc := [nv "row" (.val row), nv "one" (.val one), nv "k" (.val (nI k)), nv "tail" (.val (.str t))]
noncomputable def five (row one : PV) (k : Nat) (t : Str) (m : PV) : Loc := four row one k t ++ [nv "more" (.val m)]
noncomputable abbrev for128 : Expr × Expr × List Stmt × Pos := forP (stAt D128.2.1 6)
noncomputable abbrev in128 : Expr × List Stmt × List Stmt × Pos := ifP (stAt for128.2.2.1 1)
theorem for128_eq : stAt D128.2.1 6 = .For for128.1 for128.2.1 for128.2.2.1 [] for128.2.2.2 := by kernel_rfl
theorem in128_eq : for128.2.2.1 = [stAt for128.2.2.1 0, .If in128.1 in128.2.1 [] in128.2.2.2] := by kernel_rfl
theorem useEx {c : Bool} {W : Ws} {sc : Scope} {st : Stmt} {ρ ρ' : Loc} {σ σ' : Sto} {fl : Fl} (a : Vc (ExJ c W sc st ρ σ)) (h : a.val = (fl, ρ', σ')) (o : a.ob = true) : Ex c W sc st ρ σ fl ρ' σ' := Vc.use a h o
theorem useExs {c : Bool} {W : Ws} {sc : Scope} {st : List Stmt} {ρ ρ' : Loc} {σ σ' : Sto} {fl : Fl} (a : Vc (ExsJ c W sc st ρ σ)) (h : a.val = (fl, ρ', σ')) (o : a.ob = true) : Exs c W sc st ρ σ fl ρ' σ' := Vc.use a h o
noncomputable def mulT (x : Mono × Nat) : Mono := match x.2 with
  | 0 => (x.1.1 + 1, x.1.2.1, x.1.2.2)
  | 1 => (x.1.1, x.1.2.1 + 1, x.1.2.2)
  | _ => (x.1.1, x.1.2.1, x.1.2.2 + 1)
noncomputable def addM (L : List Mono) (y : Mono) : List Mono := if y ∈ L then L else L ++ [y]
noncomputable def toldOf (cs : List (Mono × Nat)) (L : List Mono) : List Mono := cs.foldl (fun t x => addM t (mulT x)) L
noncomputable abbrev mP (k : Nat) (D : PV) (m : Mono) : PV := .tup [if k = 0 then D else nI m.1, if k = 1 then D else nI m.2.1, if k = 2 then D else nI m.2.2]
theorem mP_eq {k : Nat} {m : Mono} (h : k < 3) : mP k (nI (comp m k + 1)) m = triPV (mulT (m, k)) := by
  obtain rfl | rfl | rfl : k = 0 ∨ k = 1 ∨ k = 2 := by (first | lia | omega)
  all_goals rfl
section
variable {prog : Program} {w : World} {B : Bs} (b : Base prog w B) {fm : PV} {cell : Int} {cz rs : List PV} {st row t : Str} {m : Mono} {k : Nat} {e : Loc} {L : List PV}
theorem Base.more128 (hk : k < 3) (he : e = [] ∨ ∃ m, e = [nv "more" (.val m)]) (hr : row.length ≤ 1048576) (hs : t.length ≤ 1048576) :
    Ex false (b.W 1) D128.2.2 (stAt for128.2.2.1 0) (ρl fm cell cz rs st ++ (four (.str row) (triPV m) k t ++ e)) (some L) .next (ρl fm cell cz rs st ++ five (.str row) (triPV m) k t (mP k (.int ((row.length : Int) - t.length - 1)) m)) (some L) := by
  have o : (((((decide (row.length ≤ 1048576) && (decide (t.length ≤ 1048576) && true)) && true) && true) && true) && true) = true := an (an (an (an (an (dt hr) (an (dt hs) rfl)) rfl) rfl) rfl) rfl
  obtain rfl | rfl | rfl : k = 0 ∨ k = 1 ∨ k = 2 := by (first | lia | omega)
  all_goals
    rcases he with rfl | ⟨m, rfl⟩
    all_goals exact @useEx _ _ _ _ _ _ _ _ _ (exV false b.g128 10 D128.2.2 4 (stAt for128.2.2.1 0) _ _) (by kernel_rfl) (Eq.trans (by kernel_rfl) o)
end
end Mine
namespace Mine
set_option genSizeOf false
set_option genInjectivity false
theorem eqv_tri (a c : Mono) : (toPy (triPV a)).eqv (toPy (triPV c)) = decide (a = c) := by
  obtain ⟨a1, a2, a3⟩ := a
  obtain ⟨c1, c2, c3⟩ := c
  have e : (toPy (triPV (a1, a2, a3))).eqv (toPy (triPV (c1, c2, c3))) = (decide ((a1 : Int) = c1) && (decide ((a2 : Int) = c2) && (decide ((a3 : Int) = c3) && true))) := by kernel_rfl
  rw [e, Bool.and_true, Bool.eq_iff_iff, Bool.and_eq_true_iff, Bool.and_eq_true_iff, decide_eq_true_iff, decide_eq_true_iff, decide_eq_true_iff, decide_eq_true_iff, Prod.mk.injEq, Prod.mk.injEq]
  (first | lia | omega)
theorem has_tri (y : Mono) (L : List Mono) : ((toPys (L.map triPV)).any fun z => z.eqv (toPy (triPV y))) = decide (y ∈ L) := by
  rw [toPys_map, List.map_map]
  induction L with
  | nil => rfl
  | cons a L ih =>
    rw [List.map_cons, List.any_cons, ih, Function.comp, eqv_tri, Bool.eq_iff_iff, Bool.or_eq_true_iff, decide_eq_true_iff, decide_eq_true_iff, decide_eq_true_iff, List.mem_cons, eq_comm]
theorem ok_tri (L : List Mono) : pyOks (L.map triPV) = true := by
  rw [pyOks_all, List.all_map]
  exact List.all_eq_true.mpr fun m _ => by kernel_rfl
section
variable {prog : Program} {w : World} {B : Bs} (b : Base prog w B) {fm : PV} {cell : Int} {cz rs : List PV} {st row t : Str} {m y : Mono} {k : Nat} {e : Loc} {L : List Mono}
theorem Base.tst128 : Tst (b.W 1) D128.2.2 (some (L.map triPV)) (ρl fm cell cz rs st ++ five (.str row) (triPV m) k t (triPV y)) in128.1 (!decide (y ∈ L)) := by
  rw [← has_tri]
  have h := ok_tri L
  generalize L.map triPV = l at *
  exact @Vc.use _ _ (ce b.g128 (σ := some l) 4 D128.2.2 (ρl fm cell cz rs st ++ five (.str row) (triPV m) k t (triPV y)) in128.1).2 _ (by kernel_rfl) (Eq.trans (b := pyOks l && true) (by kernel_rfl) (an h rfl))
theorem Base.app128 {l : List PV} {p : PV} (h : l.length < 1048576) : Exs false (b.W 1) D128.2.2 in128.2.1 (ρl fm cell cz rs st ++ five (.str row) (triPV m) k t p) (some l) .next (ρl fm cell cz rs st ++ five (.str row) (triPV m) k t p) (some (l ++ [p])) := by
  exact @useExs _ _ _ _ _ _ _ _ _ (cs false b.g128 4 D128.2.2 2 in128.2.1 (ρl fm cell cz rs st ++ five (.str row) (triPV m) k t p) (some l)) (by kernel_rfl) (Eq.trans (by kernel_rfl) (an (dt h) rfl))
noncomputable abbrev fv (cell : Int) (x : Mono × Nat) (p : PV) : Loc := five (.str (txt (rowS (tT cell) x))) (triPV x.1) x.2 (tS cell x.2) p
noncomputable abbrev itP (cell : Int) (x : Mono × Nat) : PV := .tup [.str (txt (rowS (tT cell) x)), caseP cell x]
theorem Base.turn128 {x : Mono × Nat} {tl : Loc} (hx : x.2 < 3 ∧ comp x.1 x.2 ≤ 20) (ht : tl = [] ∨ ∃ r o k t m, tl = five r o k t m) (hL : L.length < 1048576) :
    ∃ ρ₁, Asg (b.W 1) false D128.2.2 for128.1 (itP cell x) (ρl fm cell cz rs st ++ tl) ρ₁ ∧ Exs false (b.W 1) D128.2.2 for128.2.2.1 ρ₁ (some (L.map triPV)) .next (ρl fm cell cz rs st ++ fv cell x (triPV (mulT x))) (some ((addM L (mulT x)).map triPV)) := by
  have hl := tail_len (tail_ok cell x.2)
  have et : (tS cell x.2).length = (tT cell x.2).length := by rw [txt_of (tS cell x.2), txt_len]; rfl
  have er : (txt (rowS (tT cell) x)).length = comp x.1 x.2 + 2 + (tT cell x.2).length := by rw [txt_len, rowS, List.length_append, List.length_replicate]
  have eD : (PV.int (((txt (rowS (tT cell) x)).length : Int) - (tS cell x.2).length - 1)) = nI (comp x.1 x.2 + 1) := by
    rw [er, et]
    exact congrArg PV.int (by (first | lia | omega))
  have m1 := fun (e : Loc) he => @Base.more128 prog w B b fm cell cz rs st (txt (rowS (tT cell) x)) (tS cell x.2) x.1 x.2 e (L.map triPV) hx.1 he (by (first | lia | omega)) (by (first | lia | omega))
  rw [eD, mP_eq hx.1] at m1
  have body : ∀ e, (e = [] ∨ ∃ m, e = [nv "more" (.val m)]) → Exs false (b.W 1) D128.2.2 for128.2.2.1 (ρl fm cell cz rs st ++ (four (.str (txt (rowS (tT cell) x))) (triPV x.1) x.2 (tS cell x.2) ++ e)) (some (L.map triPV)) .next (ρl fm cell cz rs st ++ fv cell x (triPV (mulT x))) (some ((addM L (mulT x)).map triPV)) := fun e he => by
    have m2 := @Base.tst128 prog w B b fm cell cz rs st (txt (rowS (tT cell) x)) (tS cell x.2) x.1 (mulT x) x.2 L
    have m3 := @Base.app128 prog w B b fm cell cz rs st (txt (rowS (tT cell) x)) (tS cell x.2) x.1 x.2 (L.map triPV) (triPV (mulT x)) (by rw [List.length_map]; exact hL)
    rw [in128_eq]
    intro F stk as s₀
    refine Exs.cons (m1 e he) (Exs.cons ?_ Exs.nil)
    intro F stk as s₀
    unfold addM
    by_cases h : mulT x ∈ L
    · rw [decide_eq_true h] at m2
      rw [if_pos h]
      exact Ex.iteF m2 Exs.nil
    · rw [decide_eq_false h] at m2
      rw [if_neg h, List.map_append]
      exact Ex.iteT m2 m3
  have asg : ∀ {r : PV} {o : PV} {k : Nat} {s : Str} {ρ : Loc} (z : Vc (AsgJ (b.W 1) false D128.2.2 for128.1 (.tup [r, .tup [o, nI k, .str s]]) (ρl fm cell cz rs st ++ tl))), z.val = ρ → z.ob = true → Asg (b.W 1) false D128.2.2 for128.1 (.tup [r, .tup [o, nI k, .str s]]) (ρl fm cell cz rs st ++ tl) ρ := fun z h1 h2 => (Vc.use z h1 h2).1
  rcases ht with rfl | ⟨r, o, k, s, m, rfl⟩
  · exact ⟨_, asg (asgV (b.W 1) D128.2.2 false 4 for128.1 _ _) (by kernel_rfl) (by kernel_rfl), body [] (.inl rfl)⟩
  · exact ⟨_, asg (asgV (b.W 1) D128.2.2 false 4 for128.1 _ _) (by kernel_rfl) (by kernel_rfl), body [nv "more" (.val m)] (.inr ⟨m, rfl⟩)⟩
end
end Mine
namespace Mine
set_option genSizeOf false
set_option genInjectivity false
theorem addM_len (L : List Mono) (y : Mono) : (addM L y).length ≤ L.length + 1 := by
  unfold addM
  split
  · exact Nat.le_succ _
  · rw [List.length_append]; exact Nat.le_refl _
theorem paired_rows (cell : Int) (e : PV) (cs : List (Mono × Nat)) : paired (cs.map (fun x => PV.str (txt (rowS (tT cell) x))) ++ [e]) (casesP cell cs) = cs.map (itP cell) := by
  induction cs with
  | nil => rfl
  | cons x cs ih => exact congrArg (itP cell x :: ·) ih
section
variable {prog : Program} {w : World} {B : Bs} (b : Base prog w B) {fm : PV} {cell : Int} {cz rs : List PV} {st : Str} {fam : List Mono}
theorem Base.loop128 : ∀ (cs : List (Mono × Nat)) (L : List Mono) (tl : Loc), (∀ x ∈ cs, x.2 < 3 ∧ comp x.1 x.2 ≤ 20) → (tl = [] ∨ ∃ r o k t m, tl = five r o k t m) → L.length + cs.length ≤ 1048576 →
    ∃ tl', (tl' = [] ∨ ∃ r o k t m, tl' = five r o k t m) ∧ Loop false (b.W 1) D128.2.2 for128.1 for128.2.2.1 (cs.map (itP cell)) (ρl fm cell cz rs st ++ tl) (some (L.map triPV)) (ρl fm cell cz rs st ++ tl') (some ((toldOf cs L).map triPV)) := by
  intro cs
  induction cs with
  | nil => exact fun L tl _ ht _ => ⟨tl, ht, .nil⟩
  | cons x cs ih =>
    intro L tl hx ht hl
    rw [List.length_cons] at hl
    obtain ⟨ρ₁, h1, h2⟩ := @Base.turn128 prog w B b fm cell cz rs st L x tl (hx x List.mem_cons_self) ht (by (first | lia | omega))
    have h3 := addM_len L (mulT x)
    obtain ⟨tl', k1, k2⟩ := ih (addM L (mulT x)) (fv cell x (triPV (mulT x))) (fun y hy => hx y (List.mem_cons_of_mem _ hy)) (.inr ⟨_, _, _, _, _, rfl⟩) (by (first | lia | omega))
    exact ⟨tl', k1, .cons h1 h2 k2⟩
theorem bd128 : D128.2.1 = [stAt D128.2.1 0, stAt D128.2.1 1, stAt D128.2.1 2, stAt D128.2.1 3, stAt D128.2.1 4, stAt D128.2.1 5, stAt D128.2.1 6, stAt D128.2.1 7] := by kernel_rfl
theorem Base.it128 (hl : (sent1 (tT cell) (csOf fam)).length ≤ 1048576) (hc : (csOf fam).length ≤ 300) : Itm (b.W 1) D128.2.2 (some []) (ρl fm cell (casesP cell (csOf fam)) rs (txt (sent1 (tT cell) (csOf fam)))) for128.1 for128.2.1 ((csOf fam).map (itP cell)) := by
  generalize csOf fam = cs at *
  have e := split_sent (tail_ok cell) cs
  have h1 : (txt (sent1 (tT cell) cs)).length ≤ 1048576 := by rw [txt_len]; exact hl
  rw [← rn_eq] at e
  have e2 : (Txt.split (txt (sent1 (tT cell) cs)) (Str.ofString "\r\n")).map PV.str = .str (txt [97, 46]) :: .str (txt []) :: (cs.map (fun x => PV.str (txt (rowS (tT cell) x))) ++ [.str (txt [46, 46])]) := by
    rw [e, List.map_map, partsS, List.map_cons, List.map_cons, List.map_append, List.map_map]
    rfl
  have h2 : ((Txt.split (txt (sent1 (tT cell) cs)) (Str.ofString "\r\n")).map PV.str).length = cs.length + 3 := by
    rw [e2, List.length_cons, List.length_cons, List.length_append, List.length_map]; rfl
  have e3 : ((((Txt.split (txt (sent1 (tT cell) cs)) (Str.ofString "\r\n")).map PV.str).drop (PySem.W.kms_lo (some 2) ((Txt.split (txt (sent1 (tT cell) cs)) (Str.ofString "\r\n")).map PV.str).length)).take (PySem.W.kms_hi none ((Txt.split (txt (sent1 (tT cell) cs)) (Str.ofString "\r\n")).map PV.str).length - PySem.W.kms_lo (some 2) ((Txt.split (txt (sent1 (tT cell) cs)) (Str.ofString "\r\n")).map PV.str).length)) = cs.map (fun x => PV.str (txt (rowS (tT cell) x))) ++ [.str (txt [46, 46])] := by
    have k1 : PySem.W.kms_lo (some 2) (cs.length + 3) = 2 := Nat.min_eq_left (show 2 ≤ cs.length + 3 by (first | lia | omega))
    rw [h2, k1, e2]
    exact List.take_of_length_le (by rw [show PySem.W.kms_hi none (cs.length + 3) = cs.length + 3 from rfl, List.length_drop, List.length_cons, List.length_cons, List.length_append, List.length_map]; show cs.length + 1 + 1 + 1 - 2 ≤ _; (first | lia | omega))
  have e4 := paired_rows cell (.str (txt [46, 46])) cs
  rw [← e3] at e4
  rw [← e4]
  generalize txt (sent1 (tT cell) cs) = st at *
  generalize casesP cell cs = cz at *
  intro F stk as s₀
  exact Vc.use (itV b.g128 10 D128.2.2 (σ := some []) (ρl fm cell cz rs st) for128.1 for128.2.1) (by kernel_rfl) (Eq.trans (by kernel_rfl) (an (an (an (an (dt h1) rfl) (dt (show ((Txt.split st (Str.ofString "\r\n")).map PV.str).length ≤ 1048576 by (first | lia | omega)))) rfl) rfl))
theorem sent1_len (hf : FamOk fam) : (sent1 (tT cell) (csOf fam)).length ≤ 1048576 := by
  have hl := hf.cs
  generalize csOf fam = cs at *
  obtain ⟨hj, hJ⟩ := join_ok (f := rowEP cell) (xs := cs) hl.1 fun x hx => by
    have := rowS_len (tail_ok cell) x
    have := (hl.2 x hx).2
    show (rowS (tT cell) x ++ [13, 10]).length ≤ 26
    rw [List.length_append]
    show _ + 2 ≤ 26
    (first | lia | omega)
  rw [sent1, List.length_append, List.length_append]
  exact Nat.le_trans (Nat.add_le_add (Nat.add_le_add (show 6 ≤ 6 by decide) hJ) (show 2 ≤ 2 by decide)) (by decide)
noncomputable def more (fam : List Mono) : List Mono := toldOf (csOf fam) []
theorem Base.spec128 (hf : FamOk fam) : Spc false (b.W 2) 128 [famP fam, .int cell] (famP (more fam)) := by
  have hl := hf.cs
  obtain ⟨tl, ht, hL⟩ := @Base.loop128 prog w B b (famP fam) cell (casesP cell (csOf fam)) (rowsP cell (csOf fam)) (txt (sent1 (tT cell) (csOf fam))) (csOf fam) [] [] hl.2 (.inl rfl) (by rw [List.length_nil]; (first | lia | omega))
  rw [List.append_nil] at hL
  have h0 := @Base.a128 prog w B b (famP fam) cell
  have h1 := @Base.b128 prog w B b fam cell hf
  have h2 := @Base.c128 prog w B b fam cell (famP fam) hf
  have h3 := @Base.d128 prog w B b fam cell (famP fam) (casesP cell (csOf fam)) hf
  have h4 := @Base.e128 prog w B b fam cell (famP fam) (rowsP cell (csOf fam)) hf
  dsimp only [ρs'] at h4
  have h6 := @Base.it128 prog w B b (famP fam) cell (rowsP cell (csOf fam)) fam (sent1_len hf) hl.1
  have hr : (List.map triPV (more fam)).all flat = true := by
    rw [List.all_map]
    exact List.all_eq_true.mpr fun m _ => by kernel_rfl
  generalize hS : txt (sent1 (tT cell) (csOf fam)) = st at *
  generalize hC : casesP cell (csOf fam) = cz at *
  generalize hR : rowsP cell (csOf fam) = rs at *
  change Loop false (b.W 1) D128.2.2 for128.1 for128.2.2.1 ((csOf fam).map (itP cell)) (ρl (famP fam) cell cz rs st) (some []) (ρl (famP fam) cell cz rs st ++ tl) (some ((more fam).map triPV)) at hL
  show Spc false (b.W 2) 128 [famP fam, .int cell] (.lst ((more fam).map triPV))
  generalize (more fam).map triPV = M at *
  have h7 : Exs false (b.W 1) D128.2.2 [stAt D128.2.1 7] (ρl (famP fam) cell cz rs st ++ tl) (some M) (.ret .own) (ρl (famP fam) cell cz rs st ++ tl) (some M) := by
    exact @useExs _ _ _ _ _ _ _ _ _ (cs false b.g128 4 D128.2.2 2 [stAt D128.2.1 7] (ρl (famP fam) cell cz rs st ++ tl) (some M)) (by kernel_rfl) (by kernel_rfl)
  refine @FnB.spc false (b.W 1) 128 _ _ [famP fam, .int cell] _ .own (some M) b.f128 rfl ?_ (.inr ⟨M, rfl, rfl, rfl⟩) (by show (_ || M.all flat) = true; rw [hr]; exact Bool.or_true _)
  rw [bd128, for128_eq]
  intro F s₀
  exact Bd.cons @h0 (Bd.cons @h1 (Bd.cons @h2 (Bd.cons @h3 (Bd.cons @h4 (Bd.new (by kernel_rfl) New.nil (by kernel_rfl) (Exs.cons (Ex.for_ @h6 (fun _ _ => rfl) hL) @h7))))))
end
end Mine
namespace Mine
set_option genSizeOf false
set_option genInjectivity false
section
variable {c : Bool} {M : Model} {A : Around} {env : Env} {s : Shared} {E : Value → Shared → Prop}
theorem tuple_X {e : Expr} {rest : List Expr} {k : Nat} {pos : Pos} {Q : Value → Shared → Prop} (he : starEach (e :: rest) env = (false, eval e env) :: starEach rest env)
    (h : wpX c M A (eval e env) (fun v s₁ => wpAny M A (spliced (backTo pos (starEach rest env))) (fun vs s₂ => (v :: vs).length ≤ sizeLine ∧ Q (.ref s₂.heap.objs.size) { s₂ with heap := s₂.heap.push { cls := .type "tuple", data := .seq (v :: vs).toArray } }) E s₁) E s) :
    wpX c M A (eval (.Tuple (e :: rest) k pos) env) Q E s := by
  rw [arm_eval_Tuple]
  refine wpX_stand (wpX_bind ?_)
  rw [he]
  show wpX c M A (do
    let v ← eval e env
    let here ← (pure [v] : Sem (List Value))
    return here ++ (← holding here (spliced (backTo pos (starEach rest env))))) _ E s
  refine wpX_bind (wpX_mono h (fun v s₁ h₁ => .of (wpAny_bind (wpAny_pure (wpAny_bind (wpAny_holding (wpAny_mono h₁ (fun vs s₂ h₂ => wpAny_pure ?_) fun _ _ x => x)))))) fun _ _ x => x)
  exact .of (wpAny_newObj_type h₂.2 (by show (v :: vs).toArray.size ≤ sizeLine; rw [List.size_toArray]; exact h₂.1))
end
section
variable {c : Bool} {W : Ws} {sc : Scope} {σ : Sto} {ρ : Loc} {e : Expr} {es : List Expr} {v : PV} {ps : List PV} {k : Nat} {pos : Pos}
theorem EvX.tup (h1 : EvX c W sc e σ ρ (.val v)) (h2 : Evs W sc σ ρ es ps) (ho : okE e = true) (hl : (v :: ps).length ≤ 1048576) : EvX c W sc (.Tuple (e :: es) k pos) σ ρ (.val (.tup (v :: ps))) := fun hs hF I =>
  tuple_X (okE_star ho) (goX (h1 hs hF I) fun _ _ I => go (h2.wp pos hs I) fun _ _ I => ⟨(I.row).stk.1.le hl, (I.row).seq.1⟩)
end
noncomputable abbrev D123 : Arguments × List Stmt × Scope := defOf' "_law_line"
noncomputable abbrev for123 : Expr × Expr × List Stmt × Pos := forP (stAt D123.2.1 2)
noncomputable def ρk (cell f : Int) : Loc := [nv "cell" (ri cell), nv "keyed" .own, nv "factor" (ri f)]
noncomputable def tab (t a c : Int) : Loc := [nv "turn" (ri t), nv "a" (ri a), nv "b" (ri c)]
section
variable {prog : Program} {w : World} {B : Bs} (b : Base prog w B)
noncomputable abbrev Base.g123 (k : Nat) : Gam (b.W k) := (gamN (b.glob k)).pick
end
end Mine
namespace Mine
set_option genSizeOf false
set_option genInjectivity false
structure J123 where
  (t a c nums one two three due plain front last ahead way : PV)
noncomputable def J123.loc (j : J123) : Loc := [nv "turn" (.val j.t), nv "a" (.val j.a), nv "b" (.val j.c), nv "numbers" (.val j.nums), nv "one" (.val j.one), nv "two" (.val j.two), nv "three" (.val j.three), nv "due" (.val j.due), nv "plain" (.val j.plain), nv "front" (.val j.front), nv "last" (.val j.last), nv "ahead" (.val j.ahead), nv "way" (.val j.way)]
noncomputable def nk (n q : PV) : Loc := [nv "name" (.val n), nv "key" (.val q)]
noncomputable def Dot : Str := Str.ofString "."
noncomputable def J6 (t a c x y z : Int) (one two three F : Str) (w : Int) : J123 := ⟨.int t, .int a, .int c, .lst [.int x, .int y, .int z], .str one, .str two, .str three, .lst [.int 100, .int x, .int 100, .int y, .int 100, .int z], .str (one ++ Dot ++ two ++ Dot ++ three), .str F, .str (F ++ three), .str (F ++ one ++ Dot ++ F ++ two), .int w⟩
theorem sh_app {x y : Str} {m n : Nat} (h1 : x.length ≤ m) (h2 : y.length ≤ n) : (x ++ y).length ≤ m + n := Nat.le_trans (Nat.le_of_eq Array.size_append) (Nat.add_le_add h1 h2)
theorem sh_dt {x y : Str} {m n : Nat} (h1 : x.length ≤ m) (h2 : y.length ≤ n) (h : m + n ≤ 1048576) : decide (x.length + y.length ≤ 1048576) = true := dt (Nat.le_trans (Nat.add_le_add h1 h2) h)
theorem dot_len : Dot.length ≤ 1 := by decide +kernel
noncomputable abbrev frontV (i : Int) : Str := pick5 i (Str.ofString "") (Str.ofString "0") (Str.ofString "+") (Str.ofString " ") (Str.ofString "0_")
section
variable {prog : Program} {w : World} {B : Bs} (b : Base prog w B) {k : Nat} {cell f t a c x y z : Int} {one two three F : Str} {L : List PV} {tl r : Loc}
theorem Base.a123 (hx : f * a = x) (hy : f * c = y) (hz : f * (4 - a - c) = z) (h1 : figures x.toNat = one) (h2 : figures y.toNat = two) (h3 : figures z.toNat = three) (hF : frontV ((cell + t).fmod 5) = F)
    (lf : f.natAbs < 2 ^ 64) (bx : 0 ≤ x ∧ x < 100) (by_ : 0 ≤ y ∧ y < 100) (bz : 0 ≤ z ∧ z < 100) (l1 : one.length ≤ 10) (l2 : two.length ≤ 10) (l3 : three.length ≤ 10) (lF : F.length ≤ 10)
    (ht : (tl = [] ∧ r = []) ∨ ∃ (j : J123) (n q : PV), tl = j.loc ++ nk n q ∧ r = nk n q) :
    ∃ ρ₁, Asg (b.W k) false D123.2.2 for123.1 (.tup [.int t, .tup [.int a, .int c]]) (ρk cell f ++ tl) ρ₁ ∧ Exs true (b.W k) D123.2.2 (for123.2.2.1.take 6) ρ₁ (some L) .next (ρk cell f ++ ((J6 t a c x y z one two three F ((cell.fdiv 5 + t.fdiv 3).fmod 5)).loc ++ r)) (some L) := by
  have m1 := Int.fmod_nonneg_of_pos (cell + t) (show (0 : Int) < 5 by decide)
  have m2 := Int.fmod_lt_of_pos (cell + t) (show (0 : Int) < 5 by decide)
  subst hx hy hz h1 h2 h3 hF
  have d := dot_len
  have o := an (an (dt lf) (an (dt lf) (an (dt lf) rfl))) (an (an (an (an (dt bx.1) (dt bx.2)) (an (an (dt by_.1) (dt by_.2)) (an (an (dt bz.1) (dt bz.2)) rfl))) rfl) (an (an (an (an (an (sh_dt l1 d (by decide)) (sh_dt (sh_app l1 d) l2 (by decide))) (sh_dt (sh_app (sh_app l1 d) l2) d (by decide))) (sh_dt (sh_app (sh_app (sh_app l1 d) l2) d) l3 (by decide))) rfl)
    (an (an (dt m1) (dt m2)) (an (an (an (an (an (sh_dt lF l1 (by decide)) (sh_dt (sh_app lF l1) d (by decide))) (sh_dt (sh_app (sh_app lF l1) d) lF (by decide))) (sh_dt (sh_app (sh_app (sh_app lF l1) d) lF) l2 (by decide))) (an (sh_dt lF l3 (by decide)) rfl)) rfl))))
  have asg : ∀ {r : PV} {o : PV} {s : PV} {ρ : Loc} (z : Vc (AsgJ (b.W k) false D123.2.2 for123.1 (.tup [r, .tup [o, s]]) (ρk cell f ++ tl))), z.val = ρ → z.ob = true → Asg (b.W k) false D123.2.2 for123.1 (.tup [r, .tup [o, s]]) (ρk cell f ++ tl) ρ := fun z h1 h2 => (Vc.use z h1 h2).1
  rcases ht with ⟨rfl, rfl⟩ | ⟨j, n, q, rfl, rfl⟩
  · exact ⟨ρk cell f ++ tab t a c, asg (asgV (b.W k) D123.2.2 false 4 for123.1 _ _) (by kernel_rfl) (by kernel_rfl), @useExs _ _ _ _ _ _ _ _ _ (cs true (b.g123 k) 12 D123.2.2 4 (for123.2.2.1.take 6) _ _) (by kernel_rfl) (Eq.trans (by kernel_rfl) o)⟩
  · exact ⟨ρk cell f ++ (({ j with t := .int t, a := .int a, c := .int c } : J123).loc ++ nk n q), asg (asgV (b.W k) D123.2.2 false 4 for123.1 _ _) (by kernel_rfl) (by kernel_rfl), @useExs _ _ _ _ _ _ _ _ _ (cs true (b.g123 k) 12 D123.2.2 4 (for123.2.2.1.take 6) _ _) (by kernel_rfl) (Eq.trans (by kernel_rfl) o)⟩
end
end Mine
namespace Mine
set_option genSizeOf false
set_option genInjectivity false
noncomputable def asgP : Stmt → List Expr × Expr × Pos
  | .Assign ts e p => (ts, e, p)
  | _ => ([], noG.target, ⟨0, 0, 0, 0⟩)
noncomputable def callS (x f : Str) (s : Stmt) : Stmt := .Assign [.Name x (kid (.Tuple (asgP s).1 0 (asgP s).2.2) 0).pos] (.Call (.Name f (kid (asgP s).2.1 0).pos) ((kids (asgP s).2.1).drop 1) [] (asgP s).2.1.pos) (asgP s).2.2
noncomputable def callTS (f : Str) (s : Stmt) : Stmt := .Assign [.Tuple (kids (kid (.Tuple (asgP s).1 0 (asgP s).2.2) 0)) 0 (kid (.Tuple (asgP s).1 0 (asgP s).2.2) 0).pos] (.Tuple (.Call (.Name f (kid (kid (asgP s).2.1 0) 0).pos) ((kids (kid (asgP s).2.1 0)).drop 1) [] (kid (asgP s).2.1 0).pos :: (kids (asgP s).2.1).drop 1) 0 (asgP s).2.1.pos) (asgP s).2.2
section
variable {c : Bool} {W : Ws} {sc : Scope} {σ : Sto} {ρ ρ' : Loc} {s : Stmt} {x f : Str} {n : Addr} {v : PV} {ps qs : List PV} {xs : List Str}
theorem Ex.callN (hs : s = callS x f s) (hx : (stoQ sc x && gloQ sc f) = true) (hsw : swapsWith (asgP (callS x f s)).2.1 (some (kid (.Tuple (asgP (callS x f s)).1 0 (asgP s).2.2) 0)) (asgP s).2.2.line (dEnv sc) = pure false) (hg : GlobV W f (.obj n)) (hf : ∃ o fd, W.B.g.get? n = some o ∧ o.data = .func fd)
    (ha : Ars W sc σ ρ ((kids (asgP s).2.1).drop 1) ps) (hc : Spc c W n ps v) : Ex c W sc s ρ σ .next (setP x (.val v) ρ) σ := by
  rw [hs]
  exact Ex.asgX (and1 hx) (EvX.call (and2 hx) hg hf ha hc) hsw
theorem Ex.callT (hs : s = callTS f s) (hx : gloQ sc f = true) (hw : swappedStores (asgP (callTS f s)).1 (asgP (callTS f s)).2.1 (dEnv sc) = pure (some xs)) (hg : GlobV W f (.obj n)) (hf : ∃ o fd, W.B.g.get? n = some o ∧ o.data = .func fd)
    (ha : Ars W sc σ ρ ((kids (kid (asgP s).2.1 0)).drop 1) ps) (hc : Spc c W n ps v) (h2 : Evs W sc σ ρ ((kids (asgP s).2.1).drop 1) qs) (hl : (decide ((v :: qs).length ≤ 1048576) && (xs.reverse.all (stoQ sc) && decide (xs.length = (v :: qs).length))) = true) :
    Ex c W sc s ρ σ .next (setsP xs.reverse (v :: qs).reverse ρ) σ := by
  rw [hs]
  exact Ex.tupS (EvX.tup (EvX.call hx hg hf ha hc) h2 rfl (of_decide_eq_true (and1 hl))) hw (and1 (and2 hl)) (of_decide_eq_true (and2 (and2 hl)))
end
section
variable {prog : Program} {w : World} {B : Bs} (b : Base prog w B) {v bl : Str} {parts : List Str}
theorem Base.spec118 (k : Nat) (hok : normOk v bl = true) : Spc true (b.W (k + 1)) 118 [.str v, .str bl] (.str (normP v bl)) ∧ (bl = Str.ofString "" → Spc true (b.W (k + 1)) 118 [.str v] (.str (normP v bl))) := by
  obtain ⟨fd, dv, h1, h2, h3, h4, h5⟩ := b.f118
  refine ⟨?_, fun e => ?_⟩
  · exact @Mine.spec118 (b.W k) v bl (b.glob k) 118 fd [.str v, .str bl] [] [] rfl h1 h2 .nil (fun G e => h3 G e) hok
  · exact @Mine.spec118 (b.W k) v bl (b.glob k) 118 fd [.str v] [.str (Str.ofString "")] dv (by rw [e]; rfl) h1 h2 h4 (fun G e => h5 G e) hok
theorem Base.spec110 (k : Nat) (hv : v.cps.size ≤ 1048576) (hs : splitP code102 v.cps = some parts) (hx : parts.all verOk = true) (hl : (parts.flatMap verItem).length ≤ 1000) : Spc true (b.W (k + 1)) 110 [.str v] (.lst (parts.flatMap verItem)) := by
  obtain ⟨fd, h1, h2, h3⟩ := b.f110
  exact @Mine.spec110 (b.W k) v parts (b.glob k) (b.stages k) 110 fd h1 h2 (fun G e => h3 G e) (split_spec b.p102 hv hs) hx hl
end
end Mine
namespace Mine
set_option genSizeOf false
set_option genInjectivity false
noncomputable abbrev i123 (n : Nat) : Expr × List Stmt × List Stmt × Pos := Nat.rec (ifP (stAt for123.2.2.1 6)) (fun _ i => ifP (stAt i.2.2.1 0)) n
noncomputable def w123 (n : Nat) : Stmt := stAt (i123 n).2.1 0
noncomputable def w4 : Stmt := stAt (i123 3).2.2.1 0
theorem b6_eq : stAt for123.2.2.1 6 = .If (i123 0).1 [w123 0] [.If (i123 1).1 [w123 1] [.If (i123 2).1 [w123 2] [.If (i123 3).1 [w123 3] [w4] (i123 3).2.2.2] (i123 2).2.2.2] (i123 1).2.2.2] (i123 0).2.2.2 := by kernel_rfl
theorem Exs.one {c : Bool} {W : Ws} {sc : Scope} {ρ ρ' : Loc} {σ σ' : Sto} {s : Stmt} (h : Ex c W sc s ρ σ .next ρ' σ') : Exs c W sc [s] ρ σ .next ρ' σ' := by exact Exs.cons h Exs.nil
theorem Ex.if4 {c : Bool} {W : Ws} {sc : Scope} {ρ ρ' : Loc} {σ σ' : Sto} {t0 t1 t2 t3 : Expr} {s0 s1 s2 s3 s4 : Stmt} {p0 p1 p2 p3 : Pos} {w : Int} (h0 : Tst W sc σ ρ t0 (decide (w = 0))) (h1 : Tst W sc σ ρ t1 (decide (w = 1))) (h2 : Tst W sc σ ρ t2 (decide (w = 2))) (h3 : Tst W sc σ ρ t3 (decide (w = 3)))
    (h : Ex c W sc (bif decide (w = 0) then s0 else bif decide (w = 1) then s1 else bif decide (w = 2) then s2 else bif decide (w = 3) then s3 else s4) ρ σ .next ρ' σ') : Ex c W sc (.If t0 [s0] [.If t1 [s1] [.If t2 [s2] [.If t3 [s3] [s4] p3] p2] p1] p0) ρ σ .next ρ' σ' := by
  revert h0 h1 h2 h3 h
  generalize decide (w = 0) = z0
  generalize decide (w = 1) = z1
  generalize decide (w = 2) = z2
  generalize decide (w = 3) = z3
  intro h0 h1 h2 h3 h F stk as s
  cases z0 with
  | true => exact Ex.iteT h0 (Exs.one h)
  | false =>
    refine Ex.iteF h0 (Exs.one ?_)
    intro F stk as s
    cases z1 with
    | true => exact Ex.iteT h1 (Exs.one h)
    | false =>
      refine Ex.iteF h1 (Exs.one ?_)
      intro F stk as s
      cases z2 with
      | true => exact Ex.iteT h2 (Exs.one h)
      | false =>
        refine Ex.iteF h2 (Exs.one ?_)
        intro F stk as s
        cases z3 with
        | true => exact Ex.iteT h3 (Exs.one h)
        | false => exact Ex.iteF h3 (Exs.one h)
noncomputable def jS (t a c nums front way : PV) (due : List PV) (one two three plain last ahead : Str) : J123 := ⟨t, a, c, nums, .str one, .str two, .str three, .lst due, .str plain, front, .str last, .str ahead, way⟩
noncomputable def nmL (N : Str) (r : Loc) : Loc := nv "name" (.val (.str N)) :: r.drop 1
section
variable {prog : Program} {w : World} {B : Bs} (b : Base prog w B) {k : Nat} {cell f : Int} {t a c nums front way : PV} {due : List PV} {one two three plain last ahead N : Str} {L : List PV} {r : Loc}
include b in
theorem Base.is118 : ∃ o fd, (b.W k).B.g.get? 118 = some o ∧ o.data = .func fd := b.f118.elim fun fd h => h.elim fun dv h => h.1.obj.elim fun o e => ⟨o, fd, e⟩
theorem Base.nameS {s : Stmt} {ps : List PV} {ρ ρ' : Loc} (hs : Spc true (b.W k) 118 ps (.str N)) (e1 : s = callS (Str.ofString "name") (Str.ofString "_norm_version") s) (e2 : swapsWith (asgP (callS (Str.ofString "name") (Str.ofString "_norm_version") s)).2.1 (some (kid (.Tuple (asgP (callS (Str.ofString "name") (Str.ofString "_norm_version") s)).1 0 (asgP s).2.2) 0)) (asgP s).2.2.line (dEnv D123.2.2) = pure false)
    (hρ : setP (Str.ofString "name") (.val (.str N)) ρ = ρ') (ha : Ars (b.W k) D123.2.2 (some L) ρ ((kids (asgP s).2.1).drop 1) ps) : Ex true (b.W k) D123.2.2 s ρ (some L) .next ρ' (some L) := by
  rw [← hρ]
  intro F stk as s₀
  exact Ex.callN e1 (by kernel_rfl) e2 (b.glob k (Str.ofString "_norm_version") _ (by kernel_rfl)) b.is118 ha hs
theorem Base.nameT {s : Stmt} {ps qs : List PV} {ρ ρ' : Loc} {xs : List Str} (hs : Spc true (b.W k) 118 ps (.str N)) (e1 : s = callTS (Str.ofString "_norm_version") s) (e2 : swappedStores (asgP (callTS (Str.ofString "_norm_version") s)).1 (asgP (callTS (Str.ofString "_norm_version") s)).2.1 (dEnv D123.2.2) = pure (some xs)) (hl : (decide ((PV.str N :: qs).length ≤ 1048576) && (xs.reverse.all (stoQ D123.2.2) && decide (xs.length = (PV.str N :: qs).length))) = true)
    (hρ : setsP xs.reverse (.str N :: qs).reverse ρ = ρ') (ha : Ars (b.W k) D123.2.2 (some L) ρ ((kids (kid (asgP s).2.1 0)).drop 1) ps) (h2 : Evs (b.W k) D123.2.2 (some L) ρ ((kids (asgP s).2.1).drop 1) qs) : Ex true (b.W k) D123.2.2 s ρ (some L) .next ρ' (some L) := by
  rw [← hρ]
  intro F stk as s₀
  exact Ex.callT e1 (by kernel_rfl) e2 (b.glob k (Str.ofString "_norm_version") _ (by kernel_rfl)) b.is118 ha hs h2 hl
noncomputable abbrev Base.arV (b : Base prog w B) (k : Nat) (L : List PV) (ρ : Loc) (es : List Expr) : Vc (Ars (b.W k) D123.2.2 (some L) ρ es) := arsV (fun e => rdV (ce (b.g123 k) 8 D123.2.2 ρ e).1) es
noncomputable abbrev Base.evV (b : Base prog w B) (k : Nat) (L : List PV) (ρ : Loc) (es : List Expr) : Vc (Evs (b.W k) D123.2.2 (some L) ρ es) := evsV (fun e => vlV (ce (b.g123 k) 8 D123.2.2 ρ e).1) es
theorem Base.way0 (hs : Spc true (b.W k) 118 [.str (ahead ++ Dot ++ last)] (.str N)) (la : ahead.length ≤ 100) (ll : last.length ≤ 100) (hr : r = [] ∨ ∃ n q, r = nk n q) :
    Ex true (b.W k) D123.2.2 (w123 0) (ρk cell f ++ ((jS t a c nums front way due one two three plain last ahead).loc ++ r)) (some L) .next (ρk cell f ++ ((jS t a c nums front way due one two three plain last ahead).loc ++ nmL N r)) (some L) := by
  have o := an (an (sh_dt la dot_len (by decide)) (sh_dt (sh_app la dot_len) ll (by decide))) (rfl : true = true)
  rcases hr with rfl | ⟨n, q, rfl⟩
  all_goals exact @Base.nameS prog w B b k N L _ _ _ _ hs (by kernel_rfl) (by kernel_rfl) (by kernel_rfl) (Vc.use (b.arV k L _ _) (by kernel_rfl) (Eq.trans (by kernel_rfl) o))
theorem Base.way1 (hs : Spc true (b.W k) 118 [.str ahead, .str last] (.str N)) (hr : r = [] ∨ ∃ n q, r = nk n q) :
    Ex true (b.W k) D123.2.2 (w123 1) (ρk cell f ++ ((jS t a c nums front way due one two three plain last ahead).loc ++ r)) (some L) .next (ρk cell f ++ ((jS t a c nums front way due one two three plain last ahead).loc ++ nmL N r)) (some L) := by
  rcases hr with rfl | ⟨n, q, rfl⟩
  all_goals exact @Base.nameS prog w B b k N L _ _ _ _ hs (by kernel_rfl) (by kernel_rfl) (by kernel_rfl) (Vc.use (b.arV k L _ _) (by kernel_rfl) (by kernel_rfl))
theorem d9_len : (Str.ofString ".9").length ≤ 2 := by decide +kernel
theorem z_len : (Str.ofString "0").length ≤ 1 := by decide +kernel
theorem x_len : (Str.ofString "x").length ≤ 1 := by decide +kernel
theorem Base.way2 (hs : Spc true (b.W k) 118 [.str (ahead ++ Dot ++ last ++ Str.ofString ".9"), .str (Str.ofString "8")] (.str N)) (la : ahead.length ≤ 100) (ll : last.length ≤ 100) (hr : r = [] ∨ ∃ n q, r = nk n q) :
    Ex true (b.W k) D123.2.2 (w123 2) (ρk cell f ++ ((jS t a c nums front way due one two three plain last ahead).loc ++ r)) (some L) .next (ρk cell f ++ ((jS t a c nums front way due one two three plain last ahead).loc ++ nmL N r)) (some L) := by
  have o := an (an (an (sh_dt la dot_len (by decide)) (sh_dt (sh_app la dot_len) ll (by decide))) (sh_dt (sh_app (sh_app la dot_len) ll) d9_len (by decide))) (rfl : true = true)
  rcases hr with rfl | ⟨n, q, rfl⟩
  all_goals exact @Base.nameS prog w B b k N L _ _ _ _ hs (by kernel_rfl) (by kernel_rfl) (by kernel_rfl) (Vc.use (b.arV k L _ _) (by kernel_rfl) (Eq.trans (by kernel_rfl) o))
theorem Base.way3 (hs : Spc true (b.W k) 118 [.str (Str.ofString "0" ++ plain ++ Str.ofString ".9"), .str (Str.ofString "x")] (.str N)) (lp : plain.length ≤ 100) (hr : r = [] ∨ ∃ n q, r = nk n q) :
    Ex true (b.W k) D123.2.2 (w123 3) (ρk cell f ++ ((jS t a c nums front way due one two three plain last ahead).loc ++ r)) (some L) .next (ρk cell f ++ ((jS t a c nums front way due one two three (Str.ofString "0" ++ plain) last ahead).loc ++ nmL N r)) (some L) := by
  have o := an (an (sh_dt z_len lp (by decide)) (sh_dt (sh_app z_len lp) d9_len (by decide))) (rfl : true = true)
  have o2 := an (sh_dt z_len lp (by decide)) (rfl : true = true)
  rcases hr with rfl | ⟨n, q, rfl⟩
  all_goals exact @Base.nameT prog w B b k N L _ _ [.str (Str.ofString "0" ++ plain)] _ _ [Str.ofString "name", Str.ofString "plain"] hs (by kernel_rfl) (by kernel_rfl) (by kernel_rfl) (by kernel_rfl) (Vc.use (b.arV k L _ _) (by kernel_rfl) (Eq.trans (by kernel_rfl) o)) (Vc.use (b.evV k L _ _) (by kernel_rfl) (Eq.trans (by kernel_rfl) o2))
theorem Base.way4 (hs : Spc true (b.W k) 118 [.str (Str.ofString "0" ++ one ++ Dot ++ two), .str (three ++ Str.ofString "x")] (.str N)) (lp : plain.length ≤ 100) (l1 : one.length ≤ 100) (l2 : two.length ≤ 100) (l3 : three.length ≤ 100) (ld : due.length ≤ 100) (hr : r = [] ∨ ∃ n q, r = nk n q) :
    Ex true (b.W k) D123.2.2 w4 (ρk cell f ++ ((jS t a c nums front way due one two three plain last ahead).loc ++ r)) (some L) .next (ρk cell f ++ ((jS t a c nums front way (due ++ [.int 0, .str (Str.ofString "x")]) one two three (Str.ofString "0" ++ plain ++ Str.ofString "x") last ahead).loc ++ nmL N r)) (some L) := by
  have o := an (an (an (sh_dt z_len l1 (by decide)) (sh_dt (sh_app z_len l1) dot_len (by decide))) (sh_dt (sh_app (sh_app z_len l1) dot_len) l2 (by decide))) (an (sh_dt l3 x_len (by decide)) (rfl : true = true))
  have o2 := an (an (sh_dt z_len lp (by decide)) (sh_dt (sh_app z_len lp) x_len (by decide))) (an (dt (show due.length + 2 ≤ 1048576 by (first | lia | omega))) (rfl : true = true))
  rcases hr with rfl | ⟨n, q, rfl⟩
  all_goals exact @Base.nameT prog w B b k N L _ _ [.str (Str.ofString "0" ++ plain ++ Str.ofString "x"), .lst (due ++ [.int 0, .str (Str.ofString "x")])] _ _ [Str.ofString "name", Str.ofString "plain", Str.ofString "due"] hs (by kernel_rfl) (by kernel_rfl) (by kernel_rfl) (by kernel_rfl) (Vc.use (b.arV k L _ _) (by kernel_rfl) (Eq.trans (by kernel_rfl) o)) (Vc.use (b.evV k L _ _) (by kernel_rfl) (Eq.trans (by kernel_rfl) o2))
end
end Mine
namespace Mine
set_option genSizeOf false
set_option genInjectivity false
noncomputable def plL (X Y Z E : List Nat) : List Nat := X ++ ([46] ++ (Y ++ ([46] ++ (Z ++ E))))
section
variable {P Q : List (List Nat × Nat)} {ps bs : List (List Nat)} {F : List Nat} {n x y z : Nat}
theorem nrmN (h : (P ++ Q).all (fun z => readOk z.2 z.1) = true) (hne : P ≠ []) (hb : Q = [] ∨ ∃ z, z.1 ≠ [] ∧ Q = [z]) (hl : (P ++ Q).length ≤ 10) :
    normOk (txt (joinT [46] (P.map (·.1)))) (txt (Q.map (·.1)).flatten) = true ∧ normP (txt (joinT [46] (P.map (·.1)))) (txt (Q.map (·.1)).flatten) = txt (joinT [46] (((P ++ Q).map fun z => figN z.2).take 3)) := by
  have h' := List.all_eq_true.mp h
  refine norm_of (fun e => hne (List.map_eq_nil_iff.mp e)) (hb.elim (fun e => .inl (e ▸ rfl)) fun ⟨z, h1, e⟩ => .inr ⟨z.1, h1, e ▸ rfl⟩) (by rw [← List.map_append, List.length_map]; exact hl) (fun p hp => ?_) (by rw [← List.map_append]; exact strs_nums h') fun z hz => ?_
  · rw [← List.map_append] at hp
    obtain ⟨z, hz, rfl⟩ := List.mem_map.mp hp
    exact and1 (h' z hz)
  · obtain ⟨z, hz, rfl⟩ := List.mem_map.mp hz
    exact figN_len
theorem nrmX (h : (ps ++ bs).all small1 = true) (hx : ∃ p ∈ ps ++ bs, (PySem.intText? (txt p)).isNone = true) (hne : ps ≠ []) (hb : bs = [] ∨ ∃ z, z ≠ [] ∧ bs = [z]) (hl : (ps ++ bs).length ≤ 10) :
    normOk (txt (joinT [46] ps)) (txt bs.flatten) = true ∧ normP (txt (joinT [46] ps)) (txt bs.flatten) = txt (joinT [46] ((ps ++ bs).take 3)) :=
  norm_of hne hb hl (List.all_eq_true.mp h) (strs_left hx) fun z hz => (small_at (List.all_eq_true.mp h z hz)).1
theorem nf (h : n < 37) (hF : F ∈ fronts) : readOk n (F ++ figN n) = true := List.all_eq_true.mp (and2 (num_at h).1) F hF
theorem n0 (h : n < 37) : numOk n (figN n) = true ∧ numOk n (48 :: figN n) = true := ⟨and1 (and1 (num_at h).1), and2 (and1 (num_at h).1)⟩
theorem small_num {L : List Nat} (h : numOk n L = true) : small1 L = true ∧ L ≠ [] := ⟨and1 (and1 (and1 h)), fun e => by
  have := of_decide_eq_true (and1 (and2 h))
  rw [e] at this
  exact absurd this (by decide)⟩
theorem norm0 (hx : x < 37) (hy : y < 37) (hz : z < 37) (hF : F ∈ fronts) : normOk (txt (joinT [46] [F ++ figN x, F ++ figN y, F ++ figN z])) (txt []) = true ∧ normP (txt (joinT [46] [F ++ figN x, F ++ figN y, F ++ figN z])) (txt []) = txt (plL (figN x) (figN y) (figN z) []) := by
  have h := nrmN (P := [(F ++ figN x, x), (F ++ figN y, y), (F ++ figN z, z)]) (Q := []) (an (nf hx hF) (an (nf hy hF) (an (nf hz hF) rfl))) (List.cons_ne_nil _ _) (.inl rfl) (Nat.le_of_ble_eq_true rfl)
  rw [plL, List.append_nil, ← List.append_assoc, ← List.append_assoc (figN y)]
  exact h
theorem norm1 (hx : x < 37) (hy : y < 37) (hz : z < 37) (hF : F ∈ fronts) : normOk (txt (joinT [46] [F ++ figN x, F ++ figN y])) (txt (F ++ figN z)) = true ∧ normP (txt (joinT [46] [F ++ figN x, F ++ figN y])) (txt (F ++ figN z)) = txt (plL (figN x) (figN y) (figN z) []) := by
  have h := nrmN (P := [(F ++ figN x, x), (F ++ figN y, y)]) (Q := [(F ++ figN z, z)]) (an (nf hx hF) (an (nf hy hF) (an (nf hz hF) rfl))) (List.cons_ne_nil _ _) (.inr ⟨_, fun e => (small_num (n0 hz).1).2 (List.append_eq_nil_iff.mp e).2, rfl⟩) (Nat.le_of_ble_eq_true rfl)
  rw [plL, List.append_nil, ← List.append_assoc, ← List.append_assoc (figN y)]
  rw [show (([(F ++ figN z, z)] : List (List Nat × Nat)).map (·.1)).flatten = F ++ figN z from List.append_nil _] at h
  exact h
theorem norm2 (hx : x < 37) (hy : y < 37) (hz : z < 37) (hF : F ∈ fronts) : normOk (txt (joinT [46] [F ++ figN x, F ++ figN y, F ++ figN z, [57]])) (txt [56]) = true ∧ normP (txt (joinT [46] [F ++ figN x, F ++ figN y, F ++ figN z, [57]])) (txt [56]) = txt (plL (figN x) (figN y) (figN z) []) := by
  have h := nrmN (P := [(F ++ figN x, x), (F ++ figN y, y), (F ++ figN z, z), ([57], 9)]) (Q := [([56], 8)]) (an (nf hx hF) (an (nf hy hF) (an (nf hz hF) (an (and1 (and1 few_all)) (an (and2 (and1 few_all)) rfl))))) (List.cons_ne_nil _ _) (.inr ⟨_, List.cons_ne_nil _ _, rfl⟩) (Nat.le_of_ble_eq_true rfl)
  rw [plL, List.append_nil, ← List.append_assoc, ← List.append_assoc (figN y)]
  exact h
theorem norm3 (hx : x < 37) (hy : y < 37) (hz : z < 37) : normOk (txt (joinT [46] [48 :: figN x, figN y, figN z, [57]])) (txt [120]) = true ∧ normP (txt (joinT [46] [48 :: figN x, figN y, figN z, [57]])) (txt [120]) = txt (plL (48 :: figN x) (figN y) (figN z) []) := by
  have h := nrmX (ps := [48 :: figN x, figN y, figN z, [57]]) (bs := [[120]]) (an (small_num (n0 hx).2).1 (an (small_num (n0 hy).1).1 (an (small_num (n0 hz).1).1 (show (small1 [57] && (small1 [120] && true)) = true by decide +kernel)))) ⟨[120], List.mem_append_right _ List.mem_cons_self, and2 (of_decide_eq_true (and2 few_all))⟩ (List.cons_ne_nil _ _) (.inr ⟨_, List.cons_ne_nil _ _, rfl⟩) (Nat.le_of_ble_eq_true rfl)
  rw [plL, List.append_nil, ← List.append_assoc, ← List.append_assoc (figN y)]
  exact h
theorem norm4 (hx : x < 37) (hy : y < 37) (hz : z < 37) : normOk (txt (joinT [46] [48 :: figN x, figN y])) (txt (figN z ++ [120])) = true ∧ normP (txt (joinT [46] [48 :: figN x, figN y])) (txt (figN z ++ [120])) = txt (plL (48 :: figN x) (figN y) (figN z) [120]) := by
  have h := nrmX (ps := [48 :: figN x, figN y]) (bs := [figN z ++ [120]]) (an (small_num (n0 hx).2).1 (an (small_num (n0 hy).1).1 (an (and1 (num_at hz).2) rfl))) ⟨_, List.mem_cons_of_mem _ (List.mem_cons_of_mem _ List.mem_cons_self), and2 (num_at hz).2⟩ (List.cons_ne_nil _ _) (.inr ⟨_, fun e => List.cons_ne_nil _ _ (List.append_eq_nil_iff.mp e).2, rfl⟩) (Nat.le_of_ble_eq_true rfl)
  rw [plL, ← List.append_assoc, ← List.append_assoc (figN y)]
  rw [show ([figN z ++ [120]] : List (List Nat)).flatten = figN z ++ [120] from List.append_nil _] at h
  exact h
end
end Mine
namespace Mine
set_option genSizeOf false
set_option genInjectivity false
theorem txt_short {l : List Nat} {n : Nat} (h : l.length ≤ n) : (txt l).length ≤ n := by rw [txt_len]; exact h
theorem front_len {F : List Nat} (h : F ∈ fronts) : F.length ≤ 2 := by
  have : ∀ F ∈ fronts, F.length ≤ 2 := by decide
  exact this F h
theorem zero_eq : Str.ofString "0" = txt [48] := by kernel_rfl
theorem x_eq : Str.ofString "x" = txt [120] := by kernel_rfl
theorem d9_eq : Str.ofString ".9" = txt [46, 57] := by kernel_rfl
theorem e8_eq : Str.ofString "8" = txt [56] := by kernel_rfl
noncomputable abbrev plS (one two three : Str) : Str := one ++ Dot ++ two ++ Dot ++ three
noncomputable abbrev ahS (F one two : Str) : Str := F ++ one ++ Dot ++ F ++ two
theorem txts (F X Y Z : List Nat) : plS (txt X) (txt Y) (txt Z) = txt (plL X Y Z []) ∧ ahS (txt F) (txt X) (txt Y) = txt (joinT [46] [F ++ X, F ++ Y]) ∧ ahS (txt F) (txt X) (txt Y) ++ Dot ++ (txt F ++ txt Z) = txt (joinT [46] [F ++ X, F ++ Y, F ++ Z]) ∧ ahS (txt F) (txt X) (txt Y) ++ Dot ++ (txt F ++ txt Z) ++ Str.ofString ".9" = txt (joinT [46] [F ++ X, F ++ Y, F ++ Z, [57]]) ∧
    Str.ofString "0" ++ plS (txt X) (txt Y) (txt Z) = txt (plL (48 :: X) Y Z []) ∧ Str.ofString "0" ++ plS (txt X) (txt Y) (txt Z) ++ Str.ofString ".9" = txt (joinT [46] [48 :: X, Y, Z, [57]]) ∧ Str.ofString "0" ++ txt X ++ Dot ++ txt Y = txt (joinT [46] [48 :: X, Y]) ∧ Str.ofString "0" ++ plS (txt X) (txt Y) (txt Z) ++ Str.ofString "x" = txt (plL (48 :: X) Y Z [120]) := by
  simp only [plS, ahS, Dot, dot_eq, zero_eq, x_eq, d9_eq, txt_app, plL, joinT, List.append_assoc, List.append_nil, List.cons_append, List.nil_append, and_self]
section
variable {prog : Program} {w : World} {B : Bs} (b : Base prog w B) {k : Nat} {x y z : Nat} {A C : List Nat} {e : Bool} {X : List Nat}
theorem Base.key (hA : numOk x A = true) (hy : y < 37) (hz : z < 37) (hX : X = if e = true then [120] else []) : Spc true (b.W (k + 1)) 110 [.str (txt (plL A (figN y) (figN z) X))] (.lst (dueP x y z e)) := by
  obtain ⟨parts, h1, h2, h3⟩ := comp_of hA (n0 hy).1 (n0 hz).1 hX
  rw [← h3]
  have l1 := (small_at (small_num hA).1).1
  have l2 : (plL A (figN y) (figN z) X).length ≤ 100 := by
    have := figN_len (n := y)
    have := figN_len (n := z)
    have : X.length ≤ 1 := by rw [hX]; split <;> decide
    rw [plL, List.length_append, List.length_append, List.length_append, List.length_append, List.length_append]
    show _ + (1 + (_ + (1 + _))) ≤ 100
    (first | lia | omega)
  refine @Base.spec110 prog w B b _ parts k (by rw [txt_size]; exact Nat.le_trans l2 (by decide)) h1 h2 (by rw [h3]; cases e <;> exact Nat.le_of_ble_eq_true rfl)
end
end Mine
namespace Mine
set_option genSizeOf false
set_option genInjectivity false
theorem pl_ok {A X : List Nat} {x y z : Nat} {e : Bool} (hA : numOk x A = true) (hy : y < 37) (hz : z < 37) (hX : X = if e = true then [120] else []) : pyOk (.str (txt (plL A (figN y) (figN z) X))) = true := by
  have dg : ∀ {n : Nat} {L : List Nat}, numOk n L = true → ∀ c ∈ L, c < 1114112 := fun {n L} h c hc => by
    have := List.all_eq_true.mp (and2 (and2 h)) c hc
    unfold isDig at this
    exact Nat.lt_of_le_of_lt (of_decide_eq_true (and2 this)) (by decide)
  have d1 : ∀ c ∈ [46], c < 1114112 := by decide
  have hE : ∀ c ∈ X, c < 1114112 := by
    rw [hX]
    cases e <;> decide
  show PyData.strOk (txt _) = true
  unfold PyData.strOk
  rw [← Array.all_toList, txt_list]
  refine List.all_eq_true.mpr fun c hc => decide_eq_true ?_
  rcases List.mem_append.mp hc with h | hc
  · exact dg hA c h
  rcases List.mem_append.mp hc with h | hc
  · exact d1 c h
  rcases List.mem_append.mp hc with h | hc
  · exact dg (n0 hy).1 c h
  rcases List.mem_append.mp hc with h | hc
  · exact d1 c h
  rcases List.mem_append.mp hc with h | hc
  · exact dg (n0 hz).1 c h
  · exact hE c hc
section
variable {prog : Program} {w : World} {B : Bs} (b : Base prog w B) {k : Nat} {cell f : Int} {t a c nums : PV} {v : Int} {F : List Nat} {x y z : Nat} {L : List PV} {r : Loc}
noncomputable abbrev jT (t a c nums : PV) (v : Int) (F : List Nat) (x y z : Nat) (due : List PV) (plain : Str) : J123 := jS t a c nums (.str (txt F)) (.int v) due (txt (figN x)) (txt (figN y)) (txt (figN z)) plain (txt F ++ txt (figN z)) (ahS (txt F) (txt (figN x)) (txt (figN y)))
theorem Base.tsts (hr : r = [] ∨ ∃ n q, r = nk n q) (j : J123) : ∀ n, n < 4 → Tst (b.W k) D123.2.2 (some L) (ρk cell f ++ (({ j with way := .int v } : J123).loc ++ r)) (i123 n).1 (decide (v = (n : Int))) := by
  intro n hn
  obtain rfl | rfl | rfl | rfl : n = 0 ∨ n = 1 ∨ n = 2 ∨ n = 3 := by (first | lia | omega)
  all_goals
    rcases hr with rfl | ⟨n, q, rfl⟩
    all_goals exact Vc.use (ce (b.g123 k) 4 D123.2.2 _ _).2 (by kernel_rfl) (by kernel_rfl)
theorem Base.b6 (hv : v = 0 ∨ v = 1 ∨ v = 2 ∨ v = 3 ∨ v = 4) (hx : x < 37) (hy : y < 37) (hz : z < 37) (hF : F ∈ fronts) (hr : r = [] ∨ ∃ n q, r = nk n q) :
    ∃ P : Str, Spc true (b.W (k + 1)) 110 [.str P] (.lst (dueP x y z (decide (v = 4)))) ∧ pyOk (.str P) = true ∧
      Ex true (b.W (k + 1)) D123.2.2 (stAt for123.2.2.1 6) (ρk cell f ++ ((jT t a c nums v F x y z (dueP x y z false) (plS (txt (figN x)) (txt (figN y)) (txt (figN z)))).loc ++ r)) (some L) .next (ρk cell f ++ ((jT t a c nums v F x y z (dueP x y z (decide (v = 4))) P).loc ++ nmL P r)) (some L) := by
  have ts := @Base.tsts prog w B b (k + 1) cell f v L r hr (jT t a c nums v F x y z (dueP x y z false) (plS (txt (figN x)) (txt (figN y)) (txt (figN z))))
  obtain ⟨e1, e2, e3, e4, e5, e6, e7, e8⟩ := txts F (figN x) (figN y) (figN z)
  have lF := front_len hF
  have lx := figN_len (n := x)
  have ly := figN_len (n := y)
  have lz := figN_len (n := z)
  have dL : Dot.length ≤ 1 := dot_len
  have la : (ahS (txt F) (txt (figN x)) (txt (figN y))).length ≤ 100 := Nat.le_trans (sh_app (sh_app (sh_app (sh_app (txt_short lF) (txt_short lx)) dL) (txt_short lF)) (txt_short ly)) (by decide)
  have ll : (txt F ++ txt (figN z)).length ≤ 100 := Nat.le_trans (sh_app (txt_short lF) (txt_short lz)) (by decide)
  have lp : (plS (txt (figN x)) (txt (figN y)) (txt (figN z))).length ≤ 100 := Nat.le_trans (sh_app (sh_app (sh_app (sh_app (txt_short lx) dL) (txt_short ly)) dL) (txt_short lz)) (by decide)
  have l1 : (txt (figN x)).length ≤ 100 := Nat.le_trans (txt_short lx) (by decide)
  have l2 : (txt (figN y)).length ≤ 100 := Nat.le_trans (txt_short ly) (by decide)
  have l3 : (txt (figN z)).length ≤ 100 := Nat.le_trans (txt_short lz) (by decide)
  rw [b6_eq]
  have fin : ∀ {P : Str} {e : Bool}, decide (v = 4) = e → Ex true (b.W (k + 1)) D123.2.2 (bif decide (v = 0) then w123 0 else bif decide (v = 1) then w123 1 else bif decide (v = 2) then w123 2 else bif decide (v = 3) then w123 3 else w4) (ρk cell f ++ ((jT t a c nums v F x y z (dueP x y z false) (plS (txt (figN x)) (txt (figN y)) (txt (figN z)))).loc ++ r)) (some L) .next (ρk cell f ++ ((jT t a c nums v F x y z (dueP x y z e) P).loc ++ nmL P r)) (some L) →
      Spc true (b.W (k + 1)) 110 [.str P] (.lst (dueP x y z e)) → pyOk (.str P) = true → ∃ P : Str, Spc true (b.W (k + 1)) 110 [.str P] (.lst (dueP x y z (decide (v = 4)))) ∧ pyOk (.str P) = true ∧
      Ex true (b.W (k + 1)) D123.2.2 (.If (i123 0).1 [w123 0] [.If (i123 1).1 [w123 1] [.If (i123 2).1 [w123 2] [.If (i123 3).1 [w123 3] [w4] (i123 3).2.2.2] (i123 2).2.2.2] (i123 1).2.2.2] (i123 0).2.2.2) (ρk cell f ++ ((jT t a c nums v F x y z (dueP x y z false) (plS (txt (figN x)) (txt (figN y)) (txt (figN z)))).loc ++ r)) (some L) .next (ρk cell f ++ ((jT t a c nums v F x y z (dueP x y z (decide (v = 4))) P).loc ++ nmL P r)) (some L) := fun {P e} he h1 h2 h3 => by
    rw [he]
    refine ⟨P, h2, h3, ?_⟩
    intro F stk as s
    exact Ex.if4 (ts 0 (by decide)) (ts 1 (by decide)) (ts 2 (by decide)) (ts 3 (by decide)) h1
  rcases hv with rfl | rfl | rfl | rfl | rfl
  · have h := norm0 hx hy hz hF
    obtain ⟨-, hs⟩ := b.spec118 k h.1
    have hs := @hs nil_eq.symm
    rw [h.2, ← e1, ← e3] at hs
    exact fin (e := false) rfl (b.way0 hs la ll hr) (by rw [e1]; exact @Base.key prog w B b k x y z (figN x) false [] (n0 hx).1 hy hz rfl) (by rw [e1]; exact pl_ok (e := false) (n0 hx).1 hy hz rfl)
  · have h := norm1 hx hy hz hF
    obtain ⟨hs, -⟩ := b.spec118 k h.1
    rw [h.2, ← e1, ← e2, ← txt_app] at hs
    exact fin (e := false) rfl (b.way1 hs hr) (by rw [e1]; exact @Base.key prog w B b k x y z (figN x) false [] (n0 hx).1 hy hz rfl) (by rw [e1]; exact pl_ok (e := false) (n0 hx).1 hy hz rfl)
  · have h := norm2 hx hy hz hF
    obtain ⟨hs, -⟩ := b.spec118 k h.1
    rw [h.2, ← e1, ← e4, ← e8_eq] at hs
    exact fin (e := false) rfl (b.way2 hs la ll hr) (by rw [e1]; exact @Base.key prog w B b k x y z (figN x) false [] (n0 hx).1 hy hz rfl) (by rw [e1]; exact pl_ok (e := false) (n0 hx).1 hy hz rfl)
  · have h := norm3 hx hy hz
    obtain ⟨hs, -⟩ := b.spec118 k h.1
    rw [h.2, ← e5, ← e6, ← x_eq] at hs
    exact fin (e := false) rfl (b.way3 hs lp hr) (by rw [e5]; exact @Base.key prog w B b k x y z (48 :: figN x) false [] (n0 hx).2 hy hz rfl) (by rw [e5]; exact pl_ok (e := false) (n0 hx).2 hy hz rfl)
  · have h := norm4 hx hy hz
    obtain ⟨hs, -⟩ := b.spec118 k h.1
    rw [h.2, ← e8, ← e7, ← txt_app, ← x_eq] at hs
    exact fin (e := true) rfl (b.way4 hs lp l1 l2 l3 (show (dueP x y z false).length ≤ 100 from Nat.le_of_ble_eq_true rfl) hr) (by rw [e8]; exact @Base.key prog w B b k x y z (48 :: figN x) true [120] (n0 hx).2 hy hz rfl) (by rw [e8]; exact pl_ok (e := true) (n0 hx).2 hy hz rfl)
end
end Mine
namespace Mine
set_option genSizeOf false
set_option genInjectivity false
noncomputable abbrev i8 : Expr × List Stmt × List Stmt × Pos := ifP (stAt for123.2.2.1 8)
theorem bd8 : for123.2.2.1 = for123.2.2.1.take 6 ++ [stAt for123.2.2.1 6, stAt for123.2.2.1 7, .If (.BoolOp .Or [kid i8.1 0, kid i8.1 1] i8.1.pos) i8.2.1 [] i8.2.2.2, stAt for123.2.2.1 9] := by kernel_rfl
noncomputable def wayN (cell : Int) (t : Nat) : Int := (cell.fdiv 5 + (t : Int).fdiv 3).fmod 5
noncomputable def ent (f : Nat) (cell : Int) (z : Nat × Nat × Nat) : PV := .tup [.lst (dueP (f * z.2.1) (f * z.2.2) (f * (4 - z.2.1 - z.2.2)) (decide (wayN cell z.1 = 4))), triPV (z.2.1, z.2.2, 4 - z.2.1 - z.2.2)]
theorem eqv_due (x y z : Nat) (e : Bool) : (!(toPy (.lst (dueP x y z e))).eqv (toPy (.lst (dueP x y z e)))) = false := by
  cases e
  · have h : (toPy (.lst (dueP x y z false))).eqv (toPy (.lst (dueP x y z false))) = (decide ((x : Int) = x) && (decide ((y : Int) = y) && (decide ((z : Int) = z) && true))) := by kernel_rfl
    rw [h, decide_eq_true rfl, decide_eq_true rfl, decide_eq_true rfl]; rfl
  · have h : (toPy (.lst (dueP x y z true))).eqv (toPy (.lst (dueP x y z true))) = (decide ((x : Int) = x) && (decide ((y : Int) = y) && (decide ((z : Int) = z) && true))) := by kernel_rfl
    rw [h, decide_eq_true rfl, decide_eq_true rfl, decide_eq_true rfl]; rfl
theorem front_of (i : Int) : ∃ F ∈ fronts, frontV i = txt F := by
  unfold frontV pick5
  split
  · exact ⟨_, by decide, nil_eq⟩
  split
  · exact ⟨_, by decide, zero_eq⟩
  split
  · exact ⟨[43], by decide, by kernel_rfl⟩
  split
  · exact ⟨[32], by decide, by kernel_rfl⟩
  · exact ⟨[48, 95], by decide, by kernel_rfl⟩
theorem way_of (cell : Int) (t : Nat) : wayN cell t = 0 ∨ wayN cell t = 1 ∨ wayN cell t = 2 ∨ wayN cell t = 3 ∨ wayN cell t = 4 := by
  have h1 := Int.fmod_nonneg_of_pos (cell.fdiv 5 + (t : Int).fdiv 3) (show (0 : Int) < 5 by decide)
  have h2 := Int.fmod_lt_of_pos (cell.fdiv 5 + (t : Int).fdiv 3) (show (0 : Int) < 5 by decide)
  unfold wayN
  (first | lia | omega)
section
variable {prog : Program} {w : World} {B : Bs} (b : Base prog w B) {k : Nat} {cell f : Int} {t a c nums : PV} {ti ai ci v : Int} {F : List Nat} {x y z : Nat} {due : List PV} {P : Str} {L : List PV} {r : Loc} {e : Bool}
include b in
theorem Base.is110 : ∃ o fd, (b.W k).B.g.get? 110 = some o ∧ o.data = .func fd := b.f110.is (W := b.W 0)
theorem Base.b7 (hs : Spc true (b.W k) 110 [.str P] (.lst due)) (j : J123) (hr : r = [] ∨ ∃ n q, r = nk n q) : Ex true (b.W k) D123.2.2 (stAt for123.2.2.1 7) (ρk cell f ++ (j.loc ++ nmL P r)) (some L) .next (ρk cell f ++ (j.loc ++ nk (.str P) (.lst due))) (some L) := by
  have key : ∀ {ρ ρ' : Loc}, setP (Str.ofString "key") (.val (.lst due)) ρ = ρ' → Ars (b.W k) D123.2.2 (some L) ρ ((kids (asgP (stAt for123.2.2.1 7)).2.1).drop 1) [.str P] → Ex true (b.W k) D123.2.2 (stAt for123.2.2.1 7) ρ (some L) .next ρ' (some L) := fun {ρ ρ'} h1 h2 {F stk as s} => h1 ▸ Ex.callN (x := Str.ofString "key") (f := Str.ofString "_comparable_version") (by kernel_rfl) (by kernel_rfl) (by kernel_rfl) (b.glob k _ _ (by kernel_rfl)) b.is110 h2 hs
  rcases hr with rfl | ⟨n, q, rfl⟩
  all_goals exact @key _ _ (by kernel_rfl) (Vc.use (b.arV k L _ _) (by kernel_rfl) (by kernel_rfl))
theorem Base.b8 (hP : pyOk (.str P) = true) : Tst (b.W k) D123.2.2 (some L) (ρk cell f ++ ((jT t a c nums v F x y z (dueP x y z e) P).loc ++ nk (.str P) (.lst (dueP x y z e)))) (.BoolOp .Or [kid i8.1 0, kid i8.1 1] i8.1.pos) false := by
  have t1 : Tst (b.W k) D123.2.2 (some L) (ρk cell f ++ ((jT t a c nums v F x y z (dueP x y z e) P).loc ++ nk (.str P) (.lst (dueP x y z e)))) (kid i8.1 0) false := by
    exact Vc.use (ce (b.g123 k) 4 D123.2.2 _ _).2 (Eq.trans (b := !(P == P)) (by kernel_rfl) (by rw [beq_self_eq_true]; rfl)) (Eq.trans (b := pyOk (.str P) && pyOk (.str P) && true) (by kernel_rfl) (an (an hP hP) rfl))
  have t2 : Tst (b.W k) D123.2.2 (some L) (ρk cell f ++ ((jT t a c nums v F x y z (dueP x y z e) P).loc ++ nk (.str P) (.lst (dueP x y z e)))) (kid i8.1 1) false := by
    have h := eqv_due x y z e
    have h2 : (pyOk (.lst (dueP x y z e)) && pyOk (.lst (dueP x y z e)) && decide (min (toPy (.lst (dueP x y z e))).depth (toPy (.lst (dueP x y z e))).depth ≤ 50)) = true := by cases e <;> kernel_rfl
    generalize dueP x y z e = d at *
    intro F' stk as s
    exact Vc.use (ce (b.g123 k) 4 D123.2.2 _ _).2 (Eq.trans (by kernel_rfl) h) (Eq.trans (by kernel_rfl) h2)
  intro F' stk as s
  exact Tst.bool (Tsts.orF t1 (Tsts.orF t2 Tsts.orNil))
theorem Base.b9 (hL : L.length < 1048576) : Ex true (b.W k) D123.2.2 (stAt for123.2.2.1 9) (ρk cell f ++ ((jT t (.int ai) (.int ci) nums v F x y z due P).loc ++ nk (.str P) (.lst due))) (some L) .next (ρk cell f ++ ((jT t (.int ai) (.int ci) nums v F x y z due P).loc ++ nk (.str P) (.lst due))) (some (L ++ [.tup [.lst due, .tup [.int ai, .int ci, .int (4 - ai - ci)]]])) := by
  exact @useEx _ _ _ _ _ _ _ _ _ (exV true (b.g123 k) 8 D123.2.2 2 (stAt for123.2.2.1 9) _ _) (by kernel_rfl) (Eq.trans (by kernel_rfl) (an (rfl : true = true) (dt hL)))
end
end Mine
namespace Mine
set_option genSizeOf false
set_option genInjectivity false
noncomputable def TlOk (tl : Loc) : Prop := tl = [] ∨ ∃ (j : J123) (n q : PV), tl = j.loc ++ nk n q
noncomputable def itT (z : Nat × Nat × Nat) : PV := .tup [.int (z.1 : Int), .tup [.int (z.2.1 : Int), .int (z.2.2 : Int)]]
section
variable {prog : Program} {w : World} {B : Bs} (b : Base prog w B) {k : Nat} {cell : Int} {f : Nat} {z : Nat × Nat × Nat} {L : List PV} {tl : Loc}
theorem Base.turn123 (hf : f ≤ 9) (hz : z.2.1 + z.2.2 ≤ 4) (ht : TlOk tl) (hL : L.length < 1048576) :
    ∃ ρ₁ tl', TlOk tl' ∧ Asg (b.W (k + 1)) false D123.2.2 for123.1 (itT z) (ρk cell f ++ tl) ρ₁ ∧ Exs true (b.W (k + 1)) D123.2.2 for123.2.2.1 ρ₁ (some L) .next (ρk cell f ++ tl') (some (L ++ [ent f cell z])) := by
  obtain ⟨t, a, c⟩ := z
  have hz : a + c ≤ 4 := hz
  obtain ⟨F, hF, eF⟩ := front_of ((cell + (t : Int)).fmod 5)
  have lim : ∀ n, n ≤ 4 → f * n < 37 := fun n h => Nat.lt_of_le_of_lt (Nat.mul_le_mul hf h) (by decide)
  have hx := lim a (by (first | lia | omega))
  have hy := lim c (by (first | lia | omega))
  have hw := lim (4 - a - c) (by (first | lia | omega))
  have lF := front_len hF
  have sx : ∀ n, (txt (figN n)).length ≤ 10 := fun n => txt_short figN_len
  have ez : (f : Int) * (4 - (a : Int) - (c : Int)) = ((f * (4 - a - c) : Nat) : Int) := by
    rw [Int.natCast_mul, show (4 - (a : Int) - (c : Int)) = ((4 - a - c : Nat) : Int) by (first | lia | omega)]
  have bd : ∀ n : Nat, n < 37 → (0 : Int) ≤ (n : Int) ∧ (n : Int) < 100 := fun n h => by (first | lia | omega)
  have hr : ∃ r, (r = [] ∨ ∃ n q, r = nk n q) ∧ ((tl = [] ∧ r = []) ∨ ∃ (j : J123) (n q : PV), tl = j.loc ++ nk n q ∧ r = nk n q) := by
    rcases ht with h | ⟨j, n, q, h⟩
    · exact ⟨[], .inl rfl, .inl ⟨h, rfl⟩⟩
    · exact ⟨nk n q, .inr ⟨n, q, rfl⟩, .inr ⟨j, n, q, h, rfl⟩⟩
  obtain ⟨r, hr, hr'⟩ := hr
  obtain ⟨ρ₁, h1, h2⟩ := @Base.a123 prog w B b (k + 1) cell f t a c ((f * a : Nat) : Int) ((f * c : Nat) : Int) ((f * (4 - a - c) : Nat) : Int) (txt (figN (f * a))) (txt (figN (f * c))) (txt (figN (f * (4 - a - c)))) (txt F) L tl r (Int.natCast_mul _ _).symm (Int.natCast_mul _ _).symm ez figures_txt figures_txt figures_txt eF (by (first | lia | omega)) (bd _ hx) (bd _ hy) (bd _ hw) (sx _) (sx _) (sx _) (txt_short (Nat.le_trans lF (by decide))) hr'
  obtain ⟨P, p1, p2, p3⟩ := @Base.b6 prog w B b k cell f (.int t) (.int a) (.int c) (.lst [.int ((f * a : Nat) : Int), .int ((f * c : Nat) : Int), .int ((f * (4 - a - c) : Nat) : Int)]) (wayN cell t) F (f * a) (f * c) (f * (4 - a - c)) L r (way_of cell t) hx hy hw hF hr
  have p4 := @Base.b7 prog w B b (k + 1) cell f (dueP (f * a) (f * c) (f * (4 - a - c)) (decide (wayN cell t = 4))) P L r p1 (jT (.int t) (.int a) (.int c) (.lst [.int ((f * a : Nat) : Int), .int ((f * c : Nat) : Int), .int ((f * (4 - a - c) : Nat) : Int)]) (wayN cell t) F (f * a) (f * c) (f * (4 - a - c)) (dueP (f * a) (f * c) (f * (4 - a - c)) (decide (wayN cell t = 4))) P) hr
  have p5 := @Base.b8 prog w B b (k + 1) cell f (.int t) (.int a) (.int c) (.lst [.int ((f * a : Nat) : Int), .int ((f * c : Nat) : Int), .int ((f * (4 - a - c) : Nat) : Int)]) (wayN cell t) F (f * a) (f * c) (f * (4 - a - c)) P L (decide (wayN cell t = 4)) p2
  have p6 := @Base.b9 prog w B b (k + 1) cell f (.int t) (.lst [.int ((f * a : Nat) : Int), .int ((f * c : Nat) : Int), .int ((f * (4 - a - c) : Nat) : Int)]) a c (wayN cell t) F (f * a) (f * c) (f * (4 - a - c)) (dueP (f * a) (f * c) (f * (4 - a - c)) (decide (wayN cell t = 4))) P L hL
  rw [show (4 - (a : Int) - (c : Int)) = ((4 - a - c : Nat) : Int) by (first | lia | omega)] at p6
  refine ⟨ρ₁, (jT (.int t) (.int a) (.int c) (.lst [.int ((f * a : Nat) : Int), .int ((f * c : Nat) : Int), .int ((f * (4 - a - c) : Nat) : Int)]) (wayN cell t) F (f * a) (f * c) (f * (4 - a - c)) (dueP (f * a) (f * c) (f * (4 - a - c)) (decide (wayN cell t = 4))) P).loc ++ nk (.str P) (.lst (dueP (f * a) (f * c) (f * (4 - a - c)) (decide (wayN cell t = 4)))), .inr ⟨_, _, _, rfl⟩, h1, ?_⟩
  rw [bd8]
  intro G stk as s₀
  exact Exs.append h2 (Exs.cons p3 (Exs.cons p4 (Exs.cons (fun {F stk as s} => Ex.iteF p5 Exs.nil) (Exs.one p6))))
theorem Base.loop123 (hf : f ≤ 9) : ∀ (zs : List (Nat × Nat × Nat)) (L : List PV) (tl : Loc), (∀ z ∈ zs, z.2.1 + z.2.2 ≤ 4) → TlOk tl → L.length + zs.length ≤ 1000 →
    ∃ tl', TlOk tl' ∧ Loop true (b.W (k + 1)) D123.2.2 for123.1 for123.2.2.1 (zs.map itT) (ρk cell f ++ tl) (some L) (ρk cell f ++ tl') (some (L ++ zs.map (ent f cell))) := by
  intro zs
  induction zs with
  | nil => exact fun L tl _ ht _ => ⟨tl, ht, by rw [show L ++ List.map (ent f cell) [] = L from List.append_nil L]; exact .nil⟩
  | cons z zs ih =>
    intro L tl hz ht hl
    rw [List.length_cons] at hl
    obtain ⟨ρ₁, tl1, h0, h1, h2⟩ := @Base.turn123 prog w B b k cell f z L tl hf (hz z List.mem_cons_self) ht (by (first | lia | omega))
    obtain ⟨tl2, h3, h4⟩ := ih (L ++ [ent f cell z]) tl1 (fun y hy => hz y (List.mem_cons_of_mem _ hy)) h0 (by rw [List.length_append, List.length_singleton]; (first | lia | omega))
    rw [List.append_assoc] at h4
    exact ⟨tl2, h3, .cons h1 h2 h4⟩
end
end Mine
namespace Mine
set_option genSizeOf false
set_option genInjectivity false
noncomputable def turnsL : List (Nat × Nat × Nat) := [(0, 0, 0), (1, 0, 1), (2, 0, 2), (3, 0, 3), (4, 0, 4), (5, 1, 0), (6, 1, 1), (7, 1, 2), (8, 1, 3), (9, 2, 0), (10, 2, 1), (11, 2, 2), (12, 3, 0), (13, 3, 1), (14, 4, 0)]
noncomputable def lineL : List Mono := (turnsL.map fun z => (z.2.1, z.2.2, 4 - z.2.1 - z.2.2)).reverse
noncomputable def entR (f r : Nat) (z : Nat × Nat × Nat) : PV := .tup [.lst (dueP (f * z.2.1) (f * z.2.2) (f * (4 - z.2.1 - z.2.2)) (decide ((r + z.1 / 3) % 5 = 4))), triPV (z.2.1, z.2.2, 4 - z.2.1 - z.2.2)]
noncomputable def order15 : Array Nat := #[0, 1, 2, 3, 4, 5, 6, 7, 8, 9, 10, 11, 12, 13, 14]
noncomputable def sortOk (l : List PV) : Bool := (decide (2 ≤ l.length) && decide (l.length < 64) && l.all (fun p => hd p == some "list")) && (kasRun (fun i j => (ltV (l.getD i .none) (l.getD j .none)).map (·.1)) (kas_sort l.length) == some order15)
theorem sort_all : (List.range 7).map (fun f => (List.range 5).map fun r => sortOk (turnsL.map (entR (f + 3) r))) = (List.range 7).map fun _ => (List.range 5).map fun _ => true := by kernel_rfl
noncomputable def retE : Stmt → Expr
  | .Return (some e) _ => e
  | _ => noG.target
noncomputable def retQ : Stmt → Pos
  | .Return _ p => p
  | _ => ⟨0, 0, 0, 0⟩
noncomputable def Ld : LC := lcE (retE (stAt D123.2.1 3))
noncomputable def it1 : Expr := kid Ld.g.iter 1
theorem bd123 : D123.2.1 = [stAt D123.2.1 0, stAt D123.2.1 1, .For for123.1 for123.2.1 for123.2.2.1 [] for123.2.2.2, .Return (some Ld.e) (retQ (stAt D123.2.1 3))] := by kernel_rfl
theorem Ld_it : Ld.g.iter = .Call (.Name (Str.ofString "reversed") (kid Ld.g.iter 0).pos) [.Call (.Name (Str.ofString "sorted") (kid it1 0).pos) ((kids it1).drop 1) [] it1.pos] [] Ld.g.iter.pos := by kernel_rfl
theorem ent_eq (f : Nat) (cell : Int) : ∃ r, r < 5 ∧ ∀ z, ent f cell z = entR f r z := by
  have h1 := Int.emod_nonneg (cell.fdiv 5) (show (5 : Int) ≠ 0 by decide)
  have h2 := Int.emod_lt_of_pos (cell.fdiv 5) (show (0 : Int) < 5 by decide)
  refine ⟨((cell.fdiv 5) % 5).toNat, by (first | lia | omega), fun z => ?_⟩
  have e : decide (wayN cell z.1 = 4) = decide ((((cell.fdiv 5) % 5).toNat + z.1 / 3) % 5 = 4) := by
    refine decide_eq_decide.mpr ?_
    rw [wayN, Int.fmod_eq_emod_of_nonneg _ (by decide), Int.fdiv_eq_ediv_of_nonneg (z.1 : Int) (by decide)]
    (first | lia | omega)
  rw [ent, entR, e]
theorem fac_eq (cell : Int) : ∃ f : Nat, f < 7 ∧ 3 + (cell.fdiv 160).fmod 7 = ((f + 3 : Nat) : Int) := by
  have h1 := Int.fmod_nonneg_of_pos (cell.fdiv 160) (show (0 : Int) < 7 by decide)
  have h2 := Int.fmod_lt_of_pos (cell.fdiv 160) (show (0 : Int) < 7 by decide)
  exact ⟨((cell.fdiv 160).fmod 7).toNat, by (first | lia | omega), by (first | lia | omega)⟩
section
variable {prog : Program} {w : World} {B : Bs} (b : Base prog w B) {k : Nat} {cell : Int} {f : Nat} {tl : Loc}
theorem Base.ret123 (hf : f < 7) (hρ : (ρk cell (f + 3 : Nat) ++ tl).lookup (Str.ofString "keyed") = some .own) (ht : TlOk tl) : Vl (b.W k) D123.2.2 (some (turnsL.map (ent (f + 3) cell))) (ρk cell (f + 3 : Nat) ++ tl) Ld.e (.lst (lineL.map triPV)) := by
  obtain ⟨r, hr, he⟩ := ent_eq (f + 3) cell
  have hs := List.map_inj_left.mp (List.map_inj_left.mp sort_all f (List.mem_range.mpr hf)) r (List.mem_range.mpr hr)
  rw [← show turnsL.map (ent (f + 3) cell) = turnsL.map (entR (f + 3) r) from List.map_congr_left fun z _ => he z] at hs
  have ho : (.lst (order15.toList.map fun i => (turnsL.map (ent (f + 3) cell)).getD i .none) : PV) = .lst (turnsL.map (ent (f + 3) cell)) := by kernel_rfl
  have op := @bi_sorted (b.W k) (turnsL.map (ent (f + 3) cell)) "list" order15 (by decide) (and1 hs) (eq_of_beq (and2 hs))
  rw [ho] at op
  have er : (turnsL.map (ent (f + 3) cell)).reverse = turnsL.reverse.map (ent (f + 3) cell) := List.map_reverse.symm
  have el : lineL.map triPV = turnsL.reverse.map fun z => triPV (z.2.1, z.2.2, 4 - z.2.1 - z.2.2) := by rw [lineL, ← List.map_reverse, List.map_map]; rfl
  have hi : Itm (b.W k) D123.2.2 (some (turnsL.map (ent (f + 3) cell))) (ρk cell (f + 3 : Nat) ++ tl) Ld.g.target Ld.g.iter (turnsL.reverse.map (ent (f + 3) cell)) := by
    rw [Ld_it, ← er]
    generalize turnsL.map (ent (f + 3) cell) = l at *
    intro F stk as s
    refine Itm.call (by kernel_rfl) (Evs.cons ?_ Evs.nil (by kernel_rfl)) (iter_rev (b.glob k _ _ (by kernel_rfl)))
    intro F stk as s
    refine Ev.callB (by kernel_rfl) (b.glob k (Str.ofString "sorted") (.bi "sorted") (by kernel_rfl)) ?_ op
    exact Ars.cons (Ev.ro (Ev.loc (by kernel_rfl) hρ)) Ars.nil (by kernel_rfl)
  have ht' : ∀ z, Ld.T (b.W k) D123.2.2 (some (turnsL.map (ent (f + 3) cell))) (ρk cell (f + 3 : Nat) ++ tl) (ent (f + 3) cell z) [triPV (z.2.1, z.2.2, 4 - z.2.1 - z.2.2)] := fun z => by
    generalize turnsL.map (ent (f + 3) cell) = l at *
    rcases ht with rfl | ⟨j, n, q, rfl⟩
    all_goals exact Vc.use (tnV (b.g123 k) 4 D123.2.2 (σ := some l) _ Ld (ent (f + 3) cell z)) (by kernel_rfl) (by kernel_rfl)
  rw [el]
  intro F stk as s
  exact LC.ev (by kernel_rfl) (by rw [List.length_map]; exact Nat.le_of_ble_eq_true rfl) hi (Turns.map fun z _ => ht' z)
theorem Base.spec123 (k : Nat) (cell : Int) : Spc true (b.W (k + 2)) 123 [.int cell] (.lst (lineL.map triPV)) := by
  obtain ⟨f, hf, ef⟩ := fac_eq cell
  obtain ⟨tl, ht, hL⟩ := @Base.loop123 prog w B b k cell (f + 3) (by (first | lia | omega)) turnsL [] [] (by decide) (.inl rfl) (by decide)
  rw [List.append_nil, List.nil_append] at hL
  have hk : (ρk cell (f + 3 : Nat) ++ tl).lookup (Str.ofString "keyed") = some .own := by kernel_rfl
  have hr := @Base.ret123 prog w B b (k + 1) cell f tl hf hk ht
  have h1 : Ex true (b.W (k + 1)) D123.2.2 (stAt D123.2.1 1) [nv "cell" (ri cell), nv "keyed" .own] (some []) .next (ρk cell (f + 3 : Nat)) (some []) := by
    rw [← ef]
    intro F stk as s
    exact useEx (exV true (b.g123 (k + 1)) 8 D123.2.2 2 (stAt D123.2.1 1) _ _) (by kernel_rfl) (by kernel_rfl)
  have hi : Itm (b.W (k + 1)) D123.2.2 (some []) (ρk cell (f + 3 : Nat)) for123.1 for123.2.1 (turnsL.map itT) := by
    exact Vc.use (itV (b.g123 (k + 1)) 12 D123.2.2 (σ := some []) (ρk cell (f + 3 : Nat)) for123.1 for123.2.1) (by kernel_rfl) (by kernel_rfl)
  refine @FnB.spc true (b.W (k + 1)) 123 _ _ [.int cell] _ (.val _) (some (turnsL.map (ent (f + 3) cell))) b.f123 rfl ?_ (.inl rfl) rfl
  rw [bd123]
  intro F s₀
  exact Bd.new (by kernel_rfl) New.nil (by kernel_rfl) (Exs.cons @h1 (Exs.cons (Ex.for_ @hi (fun _ _ => rfl) hL) (Exs.ret (Ex.ret hr))))
end
end Mine
namespace Mine
set_option genSizeOf false
set_option genInjectivity false
noncomputable abbrev D147 : Arguments × List Stmt × Scope := defOf' "law"
noncomputable def isTri : PV → Bool
  | .tup [.int _, .int _, .int _] => true
  | _ => false
noncomputable def t3 (p : PV) : Int × Int × Int := match p with
  | .tup [.int x, .int y, .int z] => (x, y, z)
  | _ => (0, 0, 0)
theorem isTri_eq {p : PV} (h : isTri p = true) : p = .tup [.int (t3 p).1, .int (t3 p).2.1, .int (t3 p).2.2] := by
  unfold isTri at h
  split at h
  · rfl
  · cases h
noncomputable def pickL (W : Ws) (p : PV) (i : Int) : Vc (fun r => GetQ p ∧ Op2 W getItem p (.int i) r) := match p with
  | .lst l => ⟨.tup [.int (t3 (l.getD i.toNat .none)).1, .int (t3 (l.getD i.toNat .none)).2.1, .int (t3 (l.getD i.toNat .none)).2.2], ((decide (0 ≤ i) && decide (i < 1048576)) && decide (i.toNat < l.length)) && isTri (l.getD i.toNat .none), fun h => ⟨getQ_lst, op_itemL (and1 (and1 h)) (by
    rw [← isTri_eq (and2 h), List.getD_eq_getElem?_getD, List.getElem?_eq_getElem (of_decide_eq_true (and2 (and1 h)))]; rfl)⟩⟩
  | p => itemV W p i
section
variable {prog : Program} {w : World} {B : Bs} (b : Base prog w B)
theorem Base.use142 {c s cell : Int} (h : (decide (0 ≤ c) && ((decide (s = 4) || decide (s = 5) || decide (s = 6)) && decide (c.toNat ≤ lim142 s.toNat))) = true) : Spc false (b.W 28) 142 [.int c, .int s, .int cell] (nI (grN s.toNat c.toNat).1) := by
  obtain ⟨c, rfl⟩ := Int.eq_ofNat_of_zero_le (of_decide_eq_true (and1 h))
  have h3 := of_decide_eq_true (and2 (and2 h))
  have h2 : s = 4 ∨ s = 5 ∨ s = 6 := by
    rcases Bool.or_eq_true_iff.mp (and1 (and2 h)) with h | h
    · rcases Bool.or_eq_true_iff.mp h with h | h
      · exact .inl (of_decide_eq_true h)
      · exact .inr (.inl (of_decide_eq_true h))
    · exact .inr (.inr (of_decide_eq_true h))
  have h4 : s = (s.toNat : Nat) := by (first | lia | omega)
  have h5 : s.toNat = 4 ∨ s.toNat = 5 ∨ s.toNat = 6 := by (first | lia | omega)
  intro A outer st vs ok
  rw [h4]
  exact b.spec142 h5 h3
theorem Base.use69 {x : Int} (q : (decide (0 ≤ x) && decide (hexN x.toNat ≤ 15)) = true) : Spc false (b.W 28) 69 [.int x, .int 4] (.lst (nL (digs x.toNat 4 (hexN x.toNat)))) := by
  obtain ⟨x, rfl⟩ := Int.eq_ofNat_of_zero_le (of_decide_eq_true (and1 q))
  have h : count69 x 4 ≤ 15 := of_decide_eq_true (and2 q)
  intro A outer st vs ok
  exact b.up 28 (b.spec69 (k := 16) (x := x) (n := 4) (by decide) (by decide) (by (first | lia | omega)) (by (first | lia | omega))) (by decide)
noncomputable def Base.f147s : FnV (b.W 28) := addV 97 (b.f97.is (W := b.W 0)) (fun ps => match ps with
  | [.int v] => ⟨.bytes (wordL v.natAbs).toArray, decide (hexN v.natAbs ≤ 900), fun q => b.up 28 (b.spec97 (by split <;> (first | lia | omega)) (of_decide_eq_true q)) (by decide)⟩
  | _ => .no .none) (addV 69 b.is69 (fun ps => match ps with
  | [.int x, .int 4] => ⟨.lst (nL (digs x.toNat 4 (hexN x.toNat))), _, b.use69⟩
  | _ => .no .none) (addV 142 (b.f142.is (W := b.W 0)) (fun ps => match ps with
  | [.int c, .int s, .int cell] => ⟨nI (grN s.toNat c.toNat).1, _, b.use142⟩
  | _ => .no .none) (noFns _)))
noncomputable def Base.g147 : Gam (b.W 28) := { gam (b.glob 28) b.f147s (noMe _) with item := pickL _ }
end
end Mine
namespace Mine
set_option genSizeOf false
set_option genInjectivity false
theorem turn_if {W : Ws} {sc : Scope} {σ : Sto} {ρ ρ₁ : Loc} {g : Comprehension} {elt e : Expr} {p v : PV} {z : Bool} (a : AsgJ W true sc g.target p ρ ρ₁) (hi : g.ifs = [e]) (ht : Tst W sc σ ρ₁ e z) (hv : Vl W sc σ ρ₁ elt v) : TurnOk W sc σ ρ g [] elt p (bif z then [v] else []) := by
  cases z with
  | true => exact .yes a.1 (hi ▸ Ifs.one ht) (Gn.last hv) (a.2 rfl)
  | false => exact .no a.1 (hi ▸ Ifs.one ht) (a.2 rfl)
noncomputable def sumS (x : Str) (L : LC) (s : Stmt) : Stmt := .Assign [.Name x (kid (.Tuple (asgP s).1 0 (asgP s).2.2) 0).pos] (.BinOp (kid (asgP s).2.1 0) .Add (.Call (.Name (Str.ofString "sum") (kid (kid (asgP s).2.1 1) 0).pos) [L.e] [] (kid (asgP s).2.1 1).pos) (asgP s).2.1.pos) (asgP s).2.2
theorem Ex.sumS {c : Bool} {W : Ws} {sc : Scope} {σ : Sto} {ρ : Loc} {s : Stmt} {x : Str} {L : LC} {c0 : Int} {l : List PV} (hs : s = sumS x L s) (hx : (stoQ sc x && gloQ sc (Str.ofString "sum")) = true) (hsw : swapsWith (asgP (Mine.sumS x L s)).2.1 (some (kid (.Tuple (asgP (Mine.sumS x L s)).1 0 (asgP s).2.2) 0)) (asgP s).2.2.line (dEnv sc) = pure false)
    (G : GlobOk W) (hc : Rd W sc σ ρ (kid (asgP s).2.1 0) (.int c0)) (hl : Vl W sc σ ρ L.e (.lst l)) (ha : l.all isI = true) : Ex c W sc s ρ σ .next (setP x (ri (c0 + (l.map toI).sum)) ρ) σ := by
  rw [hs]
  exact Ex.asg (and1 hx) (Ev.bin hc (Ev.rv (Ev.callB (and2 hx) (G _ _ (by kernel_rfl)) (Ars.cons (Ev.rv hl) Ars.nil rfl) (bi_sum ha))) ((binII W c0 (l.map toI).sum .Add).ok rfl)) hsw
noncomputable def L147 (i : Nat) : LC := lcE (kid (kid (asgP (stAt D147.2.1 i)).2.1 1) 1)
noncomputable def ρa (xs : List PV) : Loc := [nv "script" (.val (.lst xs))]
noncomputable def ρb (xs : List PV) (c : Int) : Loc := ρa xs ++ [nv "cell" (ri c)]
noncomputable def ρn (xs : List PV) (c n : Int) : Loc := ρb xs c ++ [nv "number" (ri n)]
noncomputable def halfP (r : Int) (z : Int × Nat) : List PV := bif decide ((z.2 : Int).fmod 2 = r) then [.int (z.1.fmod 1000000000)] else []
noncomputable def itZ (z : Int × Nat) : PV := .tup [.int (z.2 : Int), .int z.1]
theorem half_isI (r : Int) (zs : List (Int × Nat)) : (zs.flatMap (halfP r)).all isI = true := by
  rw [List.all_flatMap]
  refine List.all_eq_true.mpr fun z _ => ?_
  unfold halfP
  cases decide ((z.2 : Int).fmod 2 = r) <;> rfl
theorem half_len (r : Int) (zs : List (Int × Nat)) : (zs.flatMap (halfP r)).length ≤ zs.length := by
  induction zs with
  | nil => exact Nat.le_refl _
  | cons z zs ih =>
    rw [List.flatMap_cons, List.length_append, List.length_cons]
    have : (halfP r z).length ≤ 1 := by
      unfold halfP
      cases decide ((z.2 : Int).fmod 2 = r)
      · exact Nat.zero_le _
      · exact Nat.le_refl _
    (first | lia | omega)
theorem slice60 {l : List PV} : (l.drop (PySem.W.kms_lo none l.length)).take (PySem.W.kms_hi (some 60) l.length - PySem.W.kms_lo none l.length) = l.take 60 := by
  rw [show PySem.W.kms_lo none l.length = 0 from rfl, show PySem.W.kms_hi (some 60) l.length = min 60 l.length from rfl, List.drop_zero, Nat.sub_zero]
  rw [← List.take_take, List.take_of_length_le (Nat.le_refl l.length)]
theorem numbered_map (xs : List Int) : numbered ((xs.map PV.int).take 60) = (xs.take 60).zipIdx.map itZ := by
  rw [← List.map_take, numbered, List.zipIdx_map, List.map_map]
  rfl
section
variable {prog : Program} {w : World} {B : Bs} (b : Base prog w B) {xs : List Int} {c : Int}
theorem Base.half0 (hx : xs.length ≤ 63) : ∃ c : Int, Ex true (b.W 28) D147.2.2 (stAt D147.2.1 0) (ρa (xs.map .int)) none .next (ρb (xs.map .int) c) none := by
  have hi : Itm (b.W 28) D147.2.2 none (ρa (xs.map .int)) (L147 0).g.target (L147 0).g.iter ((xs.take 60).zipIdx.map itZ) := by
    rw [← numbered_map, ← slice60]
    have hl : (xs.map PV.int).length ≤ 1048576 := by rw [List.length_map]; (first | lia | omega)
    generalize xs.map PV.int = l at *
    intro F stk as s
    exact Vc.use (itV b.g147 6 D147.2.2 (σ := none) (ρa l) (L147 0).g.target (L147 0).g.iter) (by kernel_rfl) (Eq.trans (by kernel_rfl) (an (an (dt hl) rfl) rfl))
  have ht : ∀ z : Int × Nat, (L147 0).T (b.W 28) D147.2.2 none (ρa (xs.map .int)) (itZ z) (halfP 1 z) := fun z => by
    generalize xs.map PV.int = l at *
    exact @turn_if _ _ _ _ (outerP (L147 0).csc (ρa l) ++ [nv "turn" (ri z.2), nv "x" (ri z.1)]) (L147 0).g (L147 0).elt ((L147 0).g.ifs[0]?.getD noG.target) _ _ _ (Vc.use (asgV (b.W 28) (relabelP (L147 0).csc D147.2.2) true 3 (L147 0).g.target (itZ z) (outerP (L147 0).csc (ρa l))) (by kernel_rfl) (by kernel_rfl)) (by kernel_rfl)
      (Vc.use (ce b.g147 4 _ _ _).2 (by kernel_rfl) (by kernel_rfl)) (Vc.use (ce b.g147 4 _ _ _).1 (by kernel_rfl) (by kernel_rfl))
  have hl : Vl (b.W 28) D147.2.2 none (ρa (xs.map .int)) (L147 0).e (.lst ((xs.take 60).zipIdx.flatMap (halfP 1))) := by
    have h1 := half_len 1 (xs.take 60).zipIdx
    rw [List.length_zipIdx, List.length_take] at h1
    intro F stk as s
    exact LC.ev (by kernel_rfl) (by (first | lia | omega)) hi (Turns.flat fun z _ => ht z)
  refine ⟨_, @Ex.sumS _ _ _ _ _ _ (Str.ofString "cell") (L147 0) 4081 _ (by kernel_rfl) (by kernel_rfl) (by kernel_rfl) (b.glob 28) ?_ hl (half_isI 1 _)⟩
  exact Ev.rv (Vc.use (ce b.g147 2 _ _ _).1 (by kernel_rfl) (by kernel_rfl))
end
end Mine
namespace Mine
set_option genSizeOf false
set_option genInjectivity false
noncomputable def lineP : PV := .lst (lineL.map triPV)
noncomputable def ρ4 (xs : List PV) (c n : Int) : Loc := ρn xs c n ++ [nv "line" (.val lineP)]
noncomputable def ρ5 (xs : List PV) (c n : Int) (w : List UInt8) : Loc := ρ4 xs c n ++ [nv "word" (.val (.bytes w.toArray))]
section
variable {prog : Program} {w : World} {B : Bs} (b : Base prog w B) {xs : List Int} {ps : List PV} {c n : Int} {N : Nat}
theorem Base.half1 (hx : xs.length ≤ 63) : ∃ n : Int, Ex true (b.W 28) D147.2.2 (stAt D147.2.1 1) (ρb (xs.map .int) c) none .next (ρn (xs.map .int) c n) none := by
  have hi : Itm (b.W 28) D147.2.2 none (ρb (xs.map .int) c) (L147 1).g.target (L147 1).g.iter ((xs.take 60).zipIdx.map itZ) := by
    rw [← numbered_map, ← slice60]
    have hl : (xs.map PV.int).length ≤ 1048576 := by rw [List.length_map]; (first | lia | omega)
    generalize xs.map PV.int = l at *
    intro F stk as s
    exact Vc.use (itV b.g147 6 D147.2.2 (σ := none) (ρb l c) (L147 1).g.target (L147 1).g.iter) (by kernel_rfl) (Eq.trans (by kernel_rfl) (an (an (dt hl) rfl) rfl))
  have ht : ∀ z : Int × Nat, (L147 1).T (b.W 28) D147.2.2 none (ρb (xs.map .int) c) (itZ z) (halfP 0 z) := fun z => by
    generalize xs.map PV.int = l at *
    exact @turn_if _ _ _ _ (outerP (L147 1).csc (ρb l c) ++ [nv "turn" (ri z.2), nv "x" (ri z.1)]) (L147 1).g (L147 1).elt ((L147 1).g.ifs[0]?.getD noG.target) _ _ _ (Vc.use (asgV (b.W 28) (relabelP (L147 1).csc D147.2.2) true 3 (L147 1).g.target (itZ z) (outerP (L147 1).csc (ρb l c))) (by kernel_rfl) (by kernel_rfl)) (by kernel_rfl)
      (Vc.use (ce b.g147 4 _ _ _).2 (by kernel_rfl) (by kernel_rfl)) (Vc.use (ce b.g147 4 _ _ _).1 (by kernel_rfl) (by kernel_rfl))
  have hl : Vl (b.W 28) D147.2.2 none (ρb (xs.map .int) c) (L147 1).e (.lst ((xs.take 60).zipIdx.flatMap (halfP 0))) := by
    have h1 := half_len 0 (xs.take 60).zipIdx
    rw [List.length_zipIdx, List.length_take] at h1
    intro F stk as s
    exact LC.ev (by kernel_rfl) (by (first | lia | omega)) hi (Turns.flat fun z _ => ht z)
  refine ⟨_, @Ex.sumS _ _ _ _ _ _ (Str.ofString "number") (L147 1) 586868 _ (by kernel_rfl) (by kernel_rfl) (by kernel_rfl) (b.glob 28) ?_ hl (half_isI 0 _)⟩
  exact Ev.rv (Vc.use (ce b.g147 2 _ _ _).1 (by kernel_rfl) (by kernel_rfl))
theorem Base.mod147 (ps : List PV) (c n : Int) : ∃ N : Nat, N < 16 ^ 8 ∧ Ex true (b.W 28) D147.2.2 (stAt D147.2.1 2) (ρn ps c n) none .next (ρn ps c N) none := by
  have h1 := Int.fmod_nonneg_of_pos (c.fdiv 20) (show (0 : Int) < 8 by decide)
  have h2 := Int.fmod_lt_of_pos (c.fdiv 20) (show (0 : Int) < 8 by decide)
  have hp : ∀ k : Nat, k < 9 → (0 : Int) < 16 ^ k ∧ (16 : Int) ^ k ≤ 16 ^ 8 := by decide
  obtain ⟨p1, p2⟩ := hp (1 + (c.fdiv 20).fmod 8).toNat (by (first | lia | omega))
  have q1 := Int.fmod_nonneg_of_pos n p1
  have q2 := Int.fmod_lt_of_pos n p1
  have o := an (an (an (dt (show 0 ≤ 1 + (c.fdiv 20).fmod 8 by (first | lia | omega))) (dt (show 1 + (c.fdiv 20).fmod 8 ≤ 1000 by (first | lia | omega)))) (rfl : true = true)) (show (!decide ((16 : Int) ^ (1 + (c.fdiv 20).fmod 8).toNat = 0)) = true by rw [decide_eq_false (Int.ne_of_gt p1)]; rfl)
  have h : Ex true (b.W 28) D147.2.2 (stAt D147.2.1 2) (ρn ps c n) none .next (ρn ps c (n.fmod (16 ^ (1 + (c.fdiv 20).fmod 8).toNat))) none := by
    exact useEx (exV true b.g147 10 D147.2.2 3 (stAt D147.2.1 2) _ _) (by kernel_rfl) (Eq.trans (by kernel_rfl) o)
  obtain ⟨N, hN⟩ := Int.eq_ofNat_of_zero_le q1
  rw [hN] at h q2
  exact ⟨N, by (first | lia | omega), h⟩
theorem Base.call147 {s : Stmt} {x f : Str} {a : Addr} {qs : List PV} {v : PV} {ρ ρ' : Loc} {σ : Sto} (e1 : s = callS x f s) (e0 : (stoQ D147.2.2 x && gloQ D147.2.2 f) = true) (e2 : swapsWith (asgP (callS x f s)).2.1 (some (kid (.Tuple (asgP (callS x f s)).1 0 (asgP s).2.2) 0)) (asgP s).2.2.line (dEnv D147.2.2) = pure false)
    (hg : globG f = some (.obj a)) (hf : ∃ o fd, (b.W 28).B.g.get? a = some o ∧ o.data = .func fd) (hρ : setP x (.val v) ρ = ρ') (ha : Ars (b.W 28) D147.2.2 σ ρ ((kids (asgP s).2.1).drop 1) qs) (hc : Spc true (b.W 28) a qs v ∨ Spc false (b.W 28) a qs v) : Ex true (b.W 28) D147.2.2 s ρ σ .next ρ' σ := by
  rw [← hρ]
  rcases hc with hc | hc
  · intro F stk as s₀
    exact Ex.callN e1 e0 e2 (b.glob 28 f _ hg) hf ha hc
  · rw [e1]
    intro F stk as s₀
    exact Ex.asg (and1 e0) (Ev.callF (and2 e0) (b.glob 28 f _ hg) hf ha hc) e2
theorem Base.line147 (ps : List PV) (c n : Int) : Ex true (b.W 28) D147.2.2 (stAt D147.2.1 3) (ρn ps c n) none .next (ρ4 ps c n) none := by
  have hs := @Base.spec123 prog w B b 26 c
  exact @Base.call147 prog w B b (stAt D147.2.1 3) (Str.ofString "line") (Str.ofString "_law_line") 123 [.int c] _ _ _ _ (by kernel_rfl) (by kernel_rfl) (by kernel_rfl) (by kernel_rfl) (b.f123.is (W := b.W 0)) (by kernel_rfl) (Vc.use (arsV (fun e => rdV (ce b.g147 2 D147.2.2 (ρn ps c n) e).1) _) (by kernel_rfl) (by kernel_rfl)) (.inl hs)
theorem Base.word147 (ps : List PV) (c : Int) (hN : N < 16 ^ 8) : Ex true (b.W 28) D147.2.2 (stAt D147.2.1 4) (ρ4 ps c N) none .next (ρ5 ps c N (wordL N)) none := by
  have h1 := sign2 c
  have h2 := fmod_lim (c := c) (D := 2) (by decide)
  have hx : ((1 - c.fmod 2 * 2) * (N : Int)).natAbs = N := by
    rcases sg_abs (N : Int) h1 with h | h
    · rw [show (1 - c.fmod 2 * 2) * (N : Int) = N from h]; rfl
    · rw [show (1 - c.fmod 2 * 2) * (N : Int) = -N from h, Int.natAbs_neg]; rfl
  have h8 : hexN N ≤ 8 := hexN_iff.mpr hN
  have o := an (an (an (an (dt (show (c.fmod 2).natAbs < 2 ^ 64 by (first | lia | omega))) (rfl : true = true)) (dt (show (1 - c.fmod 2 * 2).natAbs < 2 ^ 64 by (first | lia | omega)))) (rfl : true = true)) (dt (show hexN ((1 - c.fmod 2 * 2) * (N : Int)).natAbs ≤ 900 by rw [hx]; (first | lia | omega)))
  have h : Ex true (b.W 28) D147.2.2 (stAt D147.2.1 4) (ρ4 ps c N) none .next (ρ5 ps c N (wordL ((1 - c.fmod 2 * 2) * (N : Int)).natAbs)) none := by
    exact useEx (exV true b.g147 10 D147.2.2 3 (stAt D147.2.1 4) _ _) (by kernel_rfl) (Eq.trans (by kernel_rfl) o)
  rw [hx] at h
  exact @h
end
end Mine
namespace Mine
set_option genSizeOf false
set_option genInjectivity false
theorem lettL_len {n x : Nat} : (lettL n x).length = n := by rw [lettL, List.length_map, List.length_reverse, digs_len]
theorem lettL_zero (d : Nat) : lettL d 0 = List.replicate d 65 := by
  induction d with
  | zero => rfl
  | succ d ih => rw [lettL_succ, Nat.zero_div, ih, List.replicate_succ']; rfl
theorem lettL_pad {d : Nat} : ∀ {n x : Nat}, x < 16 ^ n → lettL (n + d) x = List.replicate d 65 ++ lettL n x := fun {n} => by
  induction n with
  | zero =>
    intro x h
    have h0 : x = 0 := by have : x < 1 := h; (first | lia | omega)
    subst h0
    rw [Nat.zero_add, lettL_zero]
    exact (List.append_nil _).symm
  | succ n ih =>
    intro x h
    rw [Nat.succ_add, lettL_succ, lettL_succ, ih (by rw [Nat.div_lt_iff_lt_mul (by decide)]; exact h), List.append_assoc]
theorem lett_nat {d : Nat} (h : d < 16) : (lett d).toNat = 65 + d := by
  rw [lett, UInt8.toNat_ofNat']
  (first | lia | omega)
theorem digs16 {n x : Nat} : ∀ d ∈ digs x 4 n, d < 16 := digs_lt
theorem letters_back {n x : Nat} : ((lettL n x).map fun u => (u.toNat : Int) - 65).reverse = (digs x 4 n).map fun d : Nat => (d : Int) := by
  rw [lettL, List.map_map, ← List.map_reverse, List.reverse_reverse]
  refine List.map_congr_left fun d hd => ?_
  show ((lett d).toNat : Int) - 65 = d
  rw [lett_nat (digs16 d hd)]
  (first | lia | omega)
theorem head_word : ∀ (n x : Nat), hexN x = n → (lettL n x).take 1 ≠ [65] := fun n => by
  induction n with
  | zero => exact fun x _ e => by cases e
  | succ n ih =>
    intro x hx e
    have h0 : x ≠ 0 := fun q => by rw [q, hexN_zero] at hx; (first | lia | omega)
    have h1 : hexN (x / 16) = n := by have := hexN_succ h0; (first | lia | omega)
    rw [lettL_succ] at e
    cases n with
    | zero =>
      have hz : x / 16 = 0 := by have := hexN_iff.mp (Nat.le_of_eq h1); (first | lia | omega)
      have h3 : lett (x % 16) = 65 := List.head_eq_of_cons_eq e
      have h4 := lett_nat (Nat.mod_lt x (show 0 < 16 by decide))
      rw [h3] at h4
      have : (65 : UInt8).toNat = 65 := rfl
      (first | lia | omega)
    | succ n =>
      rw [List.take_append_of_le_length (by rw [lettL_len]; (first | lia | omega))] at e
      exact ih (x / 16) h1 e
theorem picked_one {l : List UInt8} (h : l.length ≤ 8) : PySem.W.KBy.picked l.toArray none (some 1) = (l.take 1).toArray := by
  rcases l with _ | ⟨a, l⟩
  · kernel_rfl
  rcases l with _ | ⟨b, l⟩
  · kernel_rfl
  rcases l with _ | ⟨c, l⟩
  · kernel_rfl
  rcases l with _ | ⟨d, l⟩
  · kernel_rfl
  rcases l with _ | ⟨e, l⟩
  · kernel_rfl
  rcases l with _ | ⟨f, l⟩
  · kernel_rfl
  rcases l with _ | ⟨g, l⟩
  · kernel_rfl
  rcases l with _ | ⟨i, l⟩
  · kernel_rfl
  rcases l with _ | ⟨j, l⟩
  · kernel_rfl
  · exact absurd h (by rw [List.length_cons, List.length_cons, List.length_cons, List.length_cons, List.length_cons, List.length_cons, List.length_cons, List.length_cons, List.length_cons]; (first | lia | omega))
end Mine
namespace Mine
set_option genSizeOf false
set_option genInjectivity false
noncomputable def Lw (N : Nat) : List PV := (List.range 8).map fun k => PV.int (65 + ((N : Int).fdiv (16 ^ (7 - k))).fmod 16)
theorem asked (N : Nat) : byteArr ((Lw N).map toI) = (lettL 8 N).toArray ∧ (((Lw N).all isI && ((Lw N).map toI).all (fun n => decide (0 ≤ n ∧ n < 256))) && decide ((Lw N).length ≤ 1000)) = true := by
  have k : ∀ j : Nat, 65 + ((N : Int).fdiv (16 ^ j)).fmod 16 = ((65 + N / 16 ^ j % 16 : Nat) : Int) := fun j => by
    rw [show ((16 : Int) ^ j) = ((16 ^ j : Nat) : Int) from (Int.natCast_pow 16 j).symm, fdiv_cast, show (16 : Int) = ((16 : Nat) : Int) from rfl, fmod_cast]; rfl
  have e : lettL 8 N = (List.range 8).map fun k => lett (N / 16 ^ (7 - k) % 16) := by kernel_rfl
  refine ⟨?_, an (an rfl ?_) rfl⟩
  · rw [e, byteArr, Lw, List.map_map, List.map_map]
    refine congrArg List.toArray (List.map_congr_left fun i _ => ?_)
    show (65 + ((N : Int).fdiv (16 ^ (7 - i))).fmod 16).toNat.toUInt8 = _
    rw [k]; rfl
  · rw [Lw, List.map_map, List.all_map]
    refine List.all_eq_true.mpr fun i _ => dt ?_
    show 0 ≤ 65 + ((N : Int).fdiv (16 ^ (7 - i))).fmod 16 ∧ 65 + ((N : Int).fdiv (16 ^ (7 - i))).fmod 16 < 256
    rw [k]
    (first | lia | omega)
noncomputable def v5 : Expr := (asgP (stAt D147.2.1 5)).2.1
theorem st5 : stAt D147.2.1 5 = .Assign [.Name (Str.ofString "whole") (kid (.Tuple (asgP (stAt D147.2.1 5)).1 0 (asgP (stAt D147.2.1 5)).2.2) 0).pos] (.BinOp (.BinOp (kid (kid v5 0) 0) .Mult (kid (kid v5 0) 1) (kid v5 0).pos) .Add (kid v5 1) v5.pos) (asgP (stAt D147.2.1 5)).2.2 := by kernel_rfl
noncomputable def ρ6 (xs : List PV) (c n : Int) (w wh : List UInt8) : Loc := ρ5 xs c n w ++ [nv "whole" (.val (.bytes wh.toArray))]
noncomputable abbrev i6 : Expr × List Stmt × List Stmt × Pos := ifP (stAt D147.2.1 6)
theorem st6 : stAt D147.2.1 6 = .If (.BoolOp .Or [kid i6.1 0, kid i6.1 1, kid i6.1 2] i6.1.pos) i6.2.1 [] i6.2.2.2 := by kernel_rfl
section
variable {prog : Program} {w : World} {B : Bs} (b : Base prog w B) {ps : List PV} {c : Int} {N : Nat}
theorem Base.whole147 (ps : List PV) (c : Int) (hN : N < 16 ^ 8) : Ex true (b.W 28) D147.2.2 (stAt D147.2.1 5) (ρ5 ps c N (wordL N)) none .next (ρ6 ps c N (wordL N) (lettL 8 N)) none := by
  have h8 : hexN N ≤ 8 := hexN_iff.mpr hN
  have hl : (wordL N).length = hexN N := lettL_len
  have hs : (wordL N).toArray.size = hexN N := by rw [List.size_toArray, hl]
  have e : lettL 8 N = (List.replicate (8 - ((wordL N).toArray.size : Int)).toNat ([65] : List UInt8)).flatten ++ wordL N := by
    have f : ∀ k : Nat, (List.replicate k ([65] : List UInt8)).flatten = List.replicate k 65 := fun k => by
      induction k with
      | zero => rfl
      | succ k ih => exact congrArg (65 :: ·) ih
    rw [f, hs, show (8 - (hexN N : Int)).toNat = 8 - hexN N by (first | lia | omega), wordL, ← lettL_pad (hexN_iff.mp (Nat.le_refl _)), show hexN N + (8 - hexN N) = 8 by (first | lia | omega)]
  rw [e]
  have hz : ((List.replicate (8 - ((wordL N).toArray.size : Int)).toNat ([65] : List UInt8)).flatten.toArray).size + (wordL N).toArray.size ≤ 1048576 := by
    have h0 : ((List.replicate (8 - ((wordL N).toArray.size : Int)).toNat ([65] : List UInt8)).flatten ++ wordL N).length = 8 := by rw [← e]; exact lettL_len
    exact Nat.le_trans (Nat.le_of_eq (List.length_append.symm.trans h0)) (by decide)
  have hj : (decide (-1000 ≤ 8 - ((wordL N).toArray.size : Int)) && decide (8 - ((wordL N).toArray.size : Int) ≤ 1000)) = true := an (dt (by (first | lia | omega))) (dt (by (first | lia | omega)))
  have hw : (wordL N).toArray.size ≤ 1048576 := by (first | lia | omega)
  generalize wordL N = wl at *
  have r1 : Rd (b.W 28) D147.2.2 none (ρ5 ps c N wl) (kid (kid v5 0) 0) (.bytes #[65]) := by
    exact Ev.rv (Vc.use (ce b.g147 2 _ _ _).1 (by kernel_rfl) (by kernel_rfl))
  have r2 : Rd (b.W 28) D147.2.2 none (ρ5 ps c N wl) (kid (kid v5 0) 1) (.int (8 - (wl.toArray.size : Int))) := by
    exact Ev.rv (Vc.use (ce b.g147 4 _ _ _).1 (by kernel_rfl) (Eq.trans (by kernel_rfl) (an (dt hw) (rfl : true = true))))
  have r3 : Rd (b.W 28) D147.2.2 none (ρ5 ps c N wl) (kid v5 1) (.bytes wl.toArray) := by
    exact Ev.rv (Vc.use (ce b.g147 2 _ _ _).1 (by kernel_rfl) (by kernel_rfl))
  rw [st5, ρ6, ← List.append_toArray]
  intro F stk as s
  exact Ex.asg (by kernel_rfl) (Ev.bin (Ev.rv (Ev.bin r1 r2 (op_mulB hj))) r3 (op_addB (dt hz))) (by kernel_rfl)
theorem Base.test6 (ps : List PV) (c : Int) (hN : N < 16 ^ 8) : Ex true (b.W 28) D147.2.2 (stAt D147.2.1 6) (ρ6 ps c N (wordL N) (lettL 8 N)) none .next (ρ6 ps c N (wordL N) (lettL 8 N)) none := by
  have h8 : hexN N ≤ 8 := hexN_iff.mpr hN
  have hl : (wordL N).length = hexN N := lettL_len
  have t0 : Tst (b.W 28) D147.2.2 none (ρ6 ps c N (wordL N) (lettL 8 N)) (kid i6.1 0) false := by
    generalize wordL N = wl at *
    intro F stk as s
    exact Vc.use (ce b.g147 4 _ _ _).2 (by kernel_rfl) (by kernel_rfl)
  have t1 : Tst (b.W 28) D147.2.2 none (ρ6 ps c N (wordL N) (lettL 8 N)) (kid i6.1 1) false := by
    obtain ⟨a1, a2⟩ := asked N
    have e : (!((lettL 8 N).toArray.toList == (byteArr ((Lw N).map toI)).toList)) = false := by rw [a1, beq_self_eq_true]; rfl
    generalize wordL N = wl at *
    generalize lettL 8 N = wh at *
    intro F stk as s
    exact Vc.use (ce b.g147 14 _ _ _).2 (Eq.trans (by kernel_rfl) e) (Eq.trans (by kernel_rfl) (an a2 (rfl : true = true)))
  have t2 : Tst (b.W 28) D147.2.2 none (ρ6 ps c N (wordL N) (lettL 8 N)) (kid i6.1 2) false := by
    have e : ((PySem.W.KBy.picked (wordL N).toArray none (some 1)).toList == (#[65] : Array UInt8).toList) = false := by
      rw [picked_one (by (first | lia | omega))]
      exact beq_eq_false_iff_ne.mpr (head_word (hexN N) N rfl)
    have hs : (wordL N).toArray.size ≤ 1048576 := by rw [List.size_toArray]; (first | lia | omega)
    generalize wordL N = wl at *
    generalize lettL 8 N = wh at *
    intro F stk as s
    exact Vc.use (ce b.g147 4 _ _ _).2 (Eq.trans (by kernel_rfl) e) (Eq.trans (by kernel_rfl) (an (dt hs) (rfl : true = true)))
  rw [st6]
  intro F stk as s
  exact Ex.iteF (Tst.bool (Tsts.orF t0 (Tsts.orF t1 (Tsts.orF t2 Tsts.orNil)))) Exs.nil
end
end Mine
namespace Mine
set_option genSizeOf false
set_option genInjectivity false
theorem eqv_nL (l : List Nat) : (toPy (.lst (nL l))).eqv (toPy (.lst (nL l))) = true ∧ (toPy (.lst (nL l))).depth ≤ 1 := by
  show PyData.eqvAll (toPys (nL l)) (toPys (nL l)) = true ∧ PyData.depthAll (toPys (nL l)) + 1 ≤ 1
  induction l with
  | nil => exact ⟨by kernel_rfl, by decide +kernel⟩
  | cons a l ih =>
    have e1 : PyData.eqvAll (toPys (nL (a :: l))) (toPys (nL (a :: l))) = (((a : Int) == a) && PyData.eqvAll (toPys (nL l)) (toPys (nL l))) := by kernel_rfl
    have e2 : PyData.depthAll (toPys (nL (a :: l))) = max 0 (PyData.depthAll (toPys (nL l))) := by kernel_rfl
    rw [e1, e2, ih.1, beq_self_eq_true, Nat.zero_max]
    exact ⟨rfl, ih.2⟩
theorem ok_nL (l : List Nat) : pyOks (nL l) = true := by
  rw [pyOks_all, List.all_map]
  exact List.all_eq_true.mpr fun _ _ => by kernel_rfl
noncomputable abbrev i7 : Expr × List Stmt × List Stmt × Pos := ifP (stAt D147.2.1 7)
noncomputable def k7 : Expr := kid i7.1 1
noncomputable def L7 : LC := lcE (kid k7 1)
theorem st7 : stAt D147.2.1 7 = .If (.BoolOp .Or [kid i7.1 0, .Compare (kid k7 0) [.NotEq] [L7.e] k7.pos] i7.1.pos) i7.2.1 [] i7.2.2.2 := by kernel_rfl
section
variable {prog : Program} {w : World} {B : Bs} (b : Base prog w B) {ps : List PV} {c : Int} {N : Nat} {wh : List UInt8}
theorem Base.test7 (ps : List PV) (c : Int) (wh : List UInt8) (hN : N < 16 ^ 8) : Ex true (b.W 28) D147.2.2 (stAt D147.2.1 7) (ρ6 ps c N (wordL N) wh) none .next (ρ6 ps c N (wordL N) wh) none := by
  have h8 : hexN N ≤ 8 := hexN_iff.mpr hN
  have hl : (wordL N).length = hexN N := lettL_len
  have hr : ((wordL N).reverse.map fun u => PV.int ((u.toNat : Int) - 65)) = nL (digs N 4 (hexN N)) := by
    have e := congrArg (List.map PV.int) (@letters_back (hexN N) N)
    rw [← List.map_reverse, List.map_map, List.map_map] at e
    exact e
  have hs : (wordL N).toArray.size ≤ 1048576 := by rw [List.size_toArray]; (first | lia | omega)
  have hd : (digs N 4 (hexN N)).length ≤ 1048576 := by rw [digs_len]; (first | lia | omega)
  obtain ⟨q1, q2⟩ := eqv_nL (digs N 4 (hexN N))
  have q3 : pyOk (.lst (nL (digs N 4 (hexN N)))) = true := ok_nL _
  have t0 : Tst (b.W 28) D147.2.2 none (ρ6 ps c N (wordL N) wh) (kid i7.1 0) false := by
    generalize wordL N = wl at *
    intro F stk as s
    exact Vc.use (ce b.g147 4 _ _ _).2 (by kernel_rfl) (by kernel_rfl)
  have r1 : Rd (b.W 28) D147.2.2 none (ρ6 ps c N (wordL N) wh) (kid k7 0) (.lst (nL (digs N 4 (hexN N)))) := by
    generalize wordL N = wl at *
    intro F stk as s
    exact Ev.rv (Vc.use (ce b.g147 4 _ _ _).1 (by kernel_rfl) (Eq.trans (by kernel_rfl) (dt (show hexN N ≤ 15 by (first | lia | omega)))))
  have r2 : Vl (b.W 28) D147.2.2 none (ρ6 ps c N (wordL N) wh) L7.e (.lst (nL (digs N 4 (hexN N)))) := by
    have ml : (nL (digs N 4 (hexN N))).length ≤ 1048576 := by rw [List.length_map]; exact hd
    rw [← hr] at ml ⊢
    generalize wordL N = wl at *
    have hi : Itm (b.W 28) D147.2.2 none (ρ6 ps c N wl wh) L7.g.target L7.g.iter (wl.reverse.map fun u => .int (u.toNat : Int)) := by
      rw [List.map_reverse]
      intro F stk as s
      exact Vc.use (itV b.g147 6 D147.2.2 (σ := none) (ρ6 ps c N wl wh) L7.g.target L7.g.iter) (by kernel_rfl) (Eq.trans (by kernel_rfl) (an (an (dt hs) rfl) rfl))
    have ht : ∀ u : UInt8, L7.T (b.W 28) D147.2.2 none (ρ6 ps c N wl wh) (.int (u.toNat : Int)) [.int ((u.toNat : Int) - 65)] := fun u => by
      generalize (u.toNat : Int) = x at *
      intros
      exact Vc.use (tnV b.g147 4 D147.2.2 (σ := none) (ρ6 ps c N wl wh) L7 (.int x)) (by kernel_rfl) (by kernel_rfl)
    intro F stk as s
    exact LC.ev (by kernel_rfl) ml hi (Turns.map fun u _ => ht u)
  have t1 : Tst (b.W 28) D147.2.2 none (ρ6 ps c N (wordL N) wh) (.Compare (kid k7 0) [.NotEq] [L7.e] k7.pos) false := by
    have e : (!(toPy (.lst (nL (digs N 4 (hexN N))))).eqv (toPy (.lst (nL (digs N 4 (hexN N)))))) = false := by rw [q1]; rfl
    rw [← e]
    intro F stk as s
    exact Tst.cmp r1 (Ev.rv r2) (op_ne (an (an q3 q3) (dt (Nat.le_trans (Nat.min_le_left _ _) (Nat.le_trans q2 (by decide)))))) rfl
  rw [st7]
  intro F stk as s
  exact Ex.iteF (Tst.bool (Tsts.orF t0 (Tsts.orF t1 Tsts.orNil))) Exs.nil
end
end Mine
namespace Mine
set_option genSizeOf false
set_option genInjectivity false
noncomputable def ρf (xs : List PV) (c n : Int) (w wh : List UInt8) (tl : Loc) : Loc := ρ6 xs c n w wh ++ (nv "family" .own :: tl)
noncomputable abbrev f9 : Expr × Expr × List Stmt × Pos := forP (stAt D147.2.1 9)
noncomputable abbrev g9 : Expr × List Stmt × List Stmt × Pos := ifP (stAt f9.2.2.1 0)
theorem st9 : stAt D147.2.1 9 = .For f9.1 f9.2.1 f9.2.2.1 [] f9.2.2.2 ∧ f9.2.2.1 = [.If (.BoolOp .And [kid g9.1 0, kid g9.1 1] g9.1.pos) g9.2.1 [] g9.2.2.2] := ⟨by kernel_rfl, by kernel_rfl⟩
noncomputable def lineM (d : Nat) : Mono := lineL.getD d (0, 0, 0)
noncomputable def addD (L : List Mono) (d : Nat) : List Mono := if d < 15 then addM L (lineM d) else L
noncomputable def famD (ds : List Nat) (L : List Mono) : List Mono := ds.foldl addD L
noncomputable def TlF (tl : Loc) : Prop := tl = [] ∨ ∃ v, tl = [nv "letter" (.val v)]
theorem line_at {d : Nat} (h : d < 15) : (lineL.map triPV).getD d .none = triPV (lineM d) := by
  have k : ∀ d < 15, lineL[d]? = some (lineM d) := by decide +kernel
  rw [List.getD_eq_getElem?_getD, List.getElem?_map, k d h]; rfl
section
variable {prog : Program} {w : World} {B : Bs} (b : Base prog w B) {ps : List PV} {c n : Int} {wl wh : List UInt8} {L : List Mono} {tl : Loc} {d : Nat}
theorem Base.turn9 (hd : d < 16) (ht : TlF tl) (hL : L.length < 1048576) : ∃ ρ₁ tl', TlF tl' ∧ Asg (b.W 28) false D147.2.2 f9.1 (.int ((65 + d : Nat) : Int)) (ρf ps c n wl wh tl) ρ₁ ∧
    Exs true (b.W 28) D147.2.2 f9.2.2.1 ρ₁ (some (L.map triPV)) .next (ρf ps c n wl wh tl') (some ((addD L d).map triPV)) := by
  have asg : Asg (b.W 28) false D147.2.2 f9.1 (.int ((65 + d : Nat) : Int)) (ρf ps c n wl wh tl) (ρf ps c n wl wh [nv "letter" (ri ((65 + d : Nat) : Int))]) := by
    rcases ht with rfl | ⟨v, rfl⟩
    · exact (Vc.use (asgV (b.W 28) D147.2.2 false 4 f9.1 (.int ((65 + d : Nat) : Int)) (ρf ps c n wl wh [])) (by kernel_rfl) (by kernel_rfl)).1
    · exact (Vc.use (asgV (b.W 28) D147.2.2 false 4 f9.1 (.int ((65 + d : Nat) : Int)) (ρf ps c n wl wh [nv "letter" (.val v)])) (by kernel_rfl) (by kernel_rfl)).1
  refine ⟨_, _, .inr ⟨.int ((65 + d : Nat) : Int), rfl⟩, asg, ?_⟩
  have hl : (L.map triPV).length < 1048576 := by rw [List.length_map]; exact hL
  have hk := ok_tri L
  have hh := fun y => has_tri y L
  have t0 : Tst (b.W 28) D147.2.2 (some (L.map triPV)) (ρf ps c n wl wh [nv "letter" (ri ((65 + d : Nat) : Int))]) (kid g9.1 0) (decide (((65 + d : Nat) : Int) < 80)) := by
    exact Vc.use (ce b.g147 4 _ _ _).2 (by kernel_rfl) (by kernel_rfl)
  rw [st9.2]
  unfold addD
  rcases Nat.lt_or_ge d 15 with h15 | h15
  · rw [dt (show ((65 + d : Nat) : Int) < 80 by (first | lia | omega))] at t0
    have hx : (((65 + d : Nat) : Int) - 65).toNat = d := by (first | lia | omega)
    have hp : (lineL.map triPV).getD (((65 + d : Nat) : Int) - 65).toNat .none = triPV (lineM d) := by rw [hx]; exact line_at h15
    have o : (((decide (0 ≤ ((65 + d : Nat) : Int) - 65) && decide (((65 + d : Nat) : Int) - 65 < 1048576)) && decide ((((65 + d : Nat) : Int) - 65).toNat < (lineL.map triPV).length)) && isTri ((lineL.map triPV).getD (((65 + d : Nat) : Int) - 65).toNat .none)) = true := by
      rw [hp]
      exact an (an (an (dt (by (first | lia | omega))) (dt (by (first | lia | omega)))) (dt (by rw [hx]; exact h15))) rfl
    have t1 : Tst (b.W 28) D147.2.2 (some (L.map triPV)) (ρf ps c n wl wh [nv "letter" (ri ((65 + d : Nat) : Int))]) (kid g9.1 1) (!decide (lineM d ∈ L)) := by
      rw [← hh, show triPV (lineM d) = .tup [.int (t3 ((lineL.map triPV).getD (((65 + d : Nat) : Int) - 65).toNat .none)).1, .int (t3 ((lineL.map triPV).getD (((65 + d : Nat) : Int) - 65).toNat .none)).2.1, .int (t3 ((lineL.map triPV).getD (((65 + d : Nat) : Int) - 65).toNat .none)).2.2] by rw [hp]; rfl]
      generalize L.map triPV = l at *
      intro F stk as s
      exact Vc.use (ce b.g147 14 _ _ _).2 (by kernel_rfl) (Eq.trans (by kernel_rfl) (an o (an hk (rfl : true = true))))
    have t2 : Exs true (b.W 28) D147.2.2 g9.2.1 (ρf ps c n wl wh [nv "letter" (ri ((65 + d : Nat) : Int))]) (some (L.map triPV)) .next (ρf ps c n wl wh [nv "letter" (ri ((65 + d : Nat) : Int))]) (some (L.map triPV ++ [triPV (lineM d)])) := by
      rw [show triPV (lineM d) = .tup [.int (t3 ((lineL.map triPV).getD (((65 + d : Nat) : Int) - 65).toNat .none)).1, .int (t3 ((lineL.map triPV).getD (((65 + d : Nat) : Int) - 65).toNat .none)).2.1, .int (t3 ((lineL.map triPV).getD (((65 + d : Nat) : Int) - 65).toNat .none)).2.2] by rw [hp]; rfl]
      generalize L.map triPV = l at *
      intro F stk as s
      exact useExs (cs true b.g147 14 D147.2.2 3 g9.2.1 _ _) (by kernel_rfl) (Eq.trans (by kernel_rfl) (an (an (an o (rfl : true = true)) (dt hl)) (rfl : true = true)))
    rw [if_pos h15]
    unfold addM
    refine @Exs.one _ _ _ _ _ _ _ _ ?_
    rcases Classical.em (lineM d ∈ L) with hm | hm
    · rw [decide_eq_true hm] at t1
      rw [if_pos hm]
      intro F stk as s
      exact Ex.iteF (Tst.bool (Tsts.andT t0 (Tsts.andF t1))) Exs.nil
    · rw [decide_eq_false hm] at t1
      rw [if_neg hm, List.map_append]
      intro F stk as s
      exact Ex.iteT (Tst.bool (Tsts.andT t0 (Tsts.andT t1 Tsts.andNil))) t2
  · rw [decide_eq_false (show ¬ ((65 + d : Nat) : Int) < 80 by (first | lia | omega))] at t0
    rw [if_neg (Nat.not_lt.mpr h15)]
    refine @Exs.one _ _ _ _ _ _ _ _ ?_
    intro F stk as s
    exact Ex.iteF (Tst.bool (Tsts.andF t0)) Exs.nil
theorem addD_len (L : List Mono) (d : Nat) : (addD L d).length ≤ L.length + 1 := by
  unfold addD
  split
  · exact addM_len L _
  · exact Nat.le_succ _
theorem Base.loop9 : ∀ (ds : List Nat) (L : List Mono) (tl : Loc), (∀ d ∈ ds, d < 16) → TlF tl → L.length + ds.length < 1048576 →
    ∃ tl', TlF tl' ∧ Loop true (b.W 28) D147.2.2 f9.1 f9.2.2.1 (ds.map fun d => .int ((65 + d : Nat) : Int)) (ρf ps c n wl wh tl) (some (L.map triPV)) (ρf ps c n wl wh tl') (some ((famD ds L).map triPV)) := by
  intro ds
  induction ds with
  | nil => exact fun L tl _ ht _ => ⟨tl, ht, .nil⟩
  | cons d ds ih =>
    intro L tl hd ht hl
    rw [List.length_cons] at hl
    obtain ⟨ρ₁, tl1, h0, h1, h2⟩ := @Base.turn9 prog w B b ps c n wl wh L tl d (hd d List.mem_cons_self) ht (by (first | lia | omega))
    have := addD_len L d
    obtain ⟨tl2, h3, h4⟩ := ih (addD L d) tl1 (fun y hy => hd y (List.mem_cons_of_mem _ hy)) h0 (by (first | lia | omega))
    exact ⟨tl2, h3, .cons h1 h2 h4⟩
end
end Mine
namespace Mine
set_option genSizeOf false
set_option genInjectivity false
noncomputable def grow (size n : Nat) : Nat := (grN size n).1
noncomputable def firstL (n : Nat) : List PV := (more (lineL.take n)).map triPV
noncomputable def D5 : List PV := (List.range 6).flatMap fun a => (List.range (6 - a)).map fun c => triPV (a, c, 5 - a - c)
noncomputable def dueI (n : Nat) : Int := 21 - (grow 4 (15 - n) : Nat)
noncomputable def tail5 (d : Int) : List PV := (D5.drop (PySem.W.kms_lo (some (21 - d)) D5.length)).take (PySem.W.kms_hi none D5.length - PySem.W.kms_lo (some (21 - d)) D5.length)
noncomputable def runM (l : List PV) : Option (Array Nat) := kasRun (fun i j => (ltV (l.getD i .none) (l.getD j .none)).map (·.1)) (kas_sort l.length)
theorem first_sorted : ([1, 2, 3, 4, 5, 6, 7, 8].map fun n => ((runM (firstL n)).map fun p => p.toList.map fun i => (firstL n).getD i .none)) = [1, 2, 3, 4, 5, 6, 7, 8].map fun n => some (tail5 (dueI n)) := by kernel_rfl
theorem first_ok : ([1, 2, 3, 4, 5, 6, 7, 8].map fun n => (decide (2 ≤ (firstL n).length) && decide ((firstL n).length < 64) && (firstL n).all (fun p => hd p == some "int"))) = [1, 2, 3, 4, 5, 6, 7, 8].map fun _ => true := by kernel_rfl
theorem tail_eqv : ([0, 1, 2, 3, 4, 5, 6, 7, 8].map fun n => (pyOk (.lst (tail5 (dueI n))) && decide (min (toPy (.lst (tail5 (dueI n)))).depth (toPy (.lst (tail5 (dueI n)))).depth ≤ 50)) && (toPy (.lst (tail5 (dueI n)))).eqv (toPy (.lst (tail5 (dueI n))))) = [0, 1, 2, 3, 4, 5, 6, 7, 8].map fun _ => true := by kernel_rfl
theorem tail0 : firstL 0 = [] ∧ tail5 (dueI 0) = [] := ⟨by kernel_rfl, by kernel_rfl⟩
theorem sorted_first {W : Ws} {n : Nat} (h : n ≤ 8) : OpN W (biF "sorted") [.lst (firstL n)] (.lst (tail5 (dueI n))) := by
  rcases Nat.eq_zero_or_pos n with rfl | h0
  · rw [tail0.1, tail0.2]
    intro A L s us ok
    exact bi_sorted0
  · have hm : n ∈ [1, 2, 3, 4, 5, 6, 7, 8] := by
      have k : ∀ n, n ≤ 8 → 0 < n → n ∈ [1, 2, 3, 4, 5, 6, 7, 8] := by decide
      exact k n h h0
    have h1 := List.map_inj_left.mp first_sorted n hm
    have h2 := List.map_inj_left.mp first_ok n hm
    obtain ⟨p, h3, h4⟩ := Option.map_eq_some_iff.mp h1
    rw [← h4]
    intro A L s us ok
    exact bi_sorted (T := "int") (by decide) h2 h3
end Mine
namespace Mine
set_option genSizeOf false
set_option genInjectivity false
noncomputable def ρh (xs : List PV) (c n : Int) (w wh : List UInt8) (tl : Loc) (first : List PV) : Loc := ρf xs c n w wh tl ++ [nv "first" (.val (.lst first))]
noncomputable def ρg (xs : List PV) (c n : Int) (w wh : List UInt8) (tl : Loc) (first : List PV) (due : Int) : Loc := ρh xs c n w wh tl first ++ [nv "due" (ri due)]
noncomputable abbrev i12 : Expr × List Stmt × List Stmt × Pos := ifP (stAt D147.2.1 12)
noncomputable def k12 : Expr := kid i12.1 1
theorem st12 : stAt D147.2.1 12 = .If (.BoolOp .Or [kid i12.1 0, .Compare (kid k12 0) [.NotEq] [kid k12 1] k12.pos] i12.1.pos) i12.2.1 [] i12.2.2.2 ∧ kid k12 0 = .Call (.Name (Str.ofString "sorted") (kid (kid k12 0) 0).pos) ((kids (kid k12 0)).drop 1) [] (kid k12 0).pos := ⟨by kernel_rfl, by kernel_rfl⟩
theorem sliceTo (l : List PV) (n : Nat) : (l.drop (PySem.W.kms_lo none l.length)).take (PySem.W.kms_hi (some (n : Int)) l.length - PySem.W.kms_lo none l.length) = l.take n := by
  have e : PySem.W.kms_hi (some (n : Int)) l.length = min n l.length := by
    show (if (n : Int) < 0 then l.length - (-(n : Int)).toNat else min (n : Int).toNat l.length) = _
    rw [if_neg (Int.not_lt.mpr (Int.natCast_nonneg n))]; rfl
  rw [show PySem.W.kms_lo none l.length = 0 from rfl, e, List.drop_zero, Nat.sub_zero, ← List.take_take, List.take_of_length_le (Nat.le_refl l.length)]
theorem line_ok (n : Nat) : FamOk (lineL.take n) := by
  have k : ∀ m ∈ lineL, m.1 ≤ 20 ∧ m.2.1 ≤ 20 ∧ m.2.2 ≤ 20 := by decide
  refine ⟨Nat.le_trans (List.length_take_le' n lineL) (by decide), fun m hm j => ?_⟩
  have h := k m (List.mem_of_mem_take hm)
  rcases j with _ | _ | j
  · exact h.1
  · exact h.2.1
  · exact h.2.2
section
variable {prog : Program} {w : World} {B : Bs} (b : Base prog w B) {ps L : List PV} {c x : Int} {wl wh : List UInt8} {tl : Loc} {n : Nat}
include b in
theorem Base.is128 : ∃ o fd, (b.W 28).B.g.get? 128 = some o ∧ o.data = .func fd := b.f128.is (W := b.W 0)
theorem Base.first147 (ht : TlF tl) (hL : L.length = n) (hn : n ≤ 8) : Ex true (b.W 28) D147.2.2 (stAt D147.2.1 10) (ρf ps c x wl wh tl) (some L) .next (ρh ps c x wl wh tl (firstL n)) (some L) := by
  have hs : Spc false (b.W 28) 128 [.lst ((lineL.map triPV).take n), .int c] (.lst (firstL n)) := by
    rw [← List.map_take]
    intro A outer s vs ok
    exact b.up 28 (b.spec128 (line_ok n)) (by decide)
  generalize firstL n = M at *
  rw [← sliceTo, ← hL] at hs
  have o := an (an (dt (show L.length ≤ 1048576 by (first | lia | omega))) (rfl : true = true)) (rfl : true = true)
  rcases ht with rfl | ⟨v, rfl⟩
  all_goals exact @Base.call147 prog w B b (stAt D147.2.1 10) (Str.ofString "first") (Str.ofString "_law_multiples") 128 _ _ _ _ _ (by kernel_rfl) (by kernel_rfl) (by kernel_rfl) (by kernel_rfl) b.is128 (by kernel_rfl) (Vc.use (arsV (fun e => rdV (ce b.g147 6 D147.2.2 (σ := some L) _ e).1) _) (by kernel_rfl) (Eq.trans (by kernel_rfl) o)) (.inr hs)
theorem Base.due147 {M : List PV} (ht : TlF tl) (hL : L.length = n) (hn : n ≤ 8) : Ex true (b.W 28) D147.2.2 (stAt D147.2.1 11) (ρh ps c x wl wh tl M) (some L) .next (ρg ps c x wl wh tl M (dueI n)) (some L) := by
  have e : dueI n = 21 - ((grN 4 (15 - (L.length : Int)).toNat).1 : Nat) := by rw [dueI, grow, hL, show (15 - (n : Int)).toNat = 15 - n by (first | lia | omega)]
  have o := an (an (an (an (dt (show L.length ≤ 1048576 by (first | lia | omega))) (rfl : true = true)) (rfl : true = true)) (an (dt (show (0 : Int) ≤ 15 - (L.length : Int) by (first | lia | omega))) (dt (show (15 - (L.length : Int)).toNat ≤ lim142 (Int.toNat 4) by show _ ≤ 15; (first | lia | omega))))) (rfl : true = true)
  rw [e]
  rcases ht with rfl | ⟨v, rfl⟩
  all_goals exact @useEx _ _ _ _ _ _ _ _ _ (exV true b.g147 8 D147.2.2 3 (stAt D147.2.1 11) _ _) (by kernel_rfl) (Eq.trans (by kernel_rfl) o)
theorem Base.test12 (ht : TlF tl) (hn : n ≤ 8) : Ex true (b.W 28) D147.2.2 (stAt D147.2.1 12) (ρg ps c x wl wh tl (firstL n) (dueI n)) (some L) .next (ρg ps c x wl wh tl (firstL n) (dueI n)) (some L) := by
  have hm : n ∈ [0, 1, 2, 3, 4, 5, 6, 7, 8] := by
    have k : ∀ n, n ≤ 8 → n ∈ [0, 1, 2, 3, 4, 5, 6, 7, 8] := by decide
    exact k n hn
  have hq := List.map_inj_left.mp tail_eqv n hm
  have hs := @sorted_first (b.W 28) n hn
  have t0 : Tst (b.W 28) D147.2.2 (some L) (ρg ps c x wl wh tl (firstL n) (dueI n)) (kid i12.1 0) false := by
    generalize firstL n = M at *
    rcases ht with rfl | ⟨v, rfl⟩
    all_goals exact fun {F stk as s} => Vc.use (ce b.g147 4 D147.2.2 _ _).2 (by kernel_rfl) (by kernel_rfl)
  have r1 : Rd (b.W 28) D147.2.2 (some L) (ρg ps c x wl wh tl (firstL n) (dueI n)) (kid k12 0) (.lst (tail5 (dueI n))) := by
    generalize firstL n = M at *
    rw [st12.2]
    intro F stk as s
    refine Ev.rv (Ev.callB (by kernel_rfl) (b.glob 28 (Str.ofString "sorted") (.bi "sorted") (by kernel_rfl)) ?_ hs)
    rcases ht with rfl | ⟨v, rfl⟩
    all_goals exact Vc.use (arsV (fun e => rdV (ce b.g147 6 D147.2.2 (σ := some L) _ e).1) _) (by kernel_rfl) (by kernel_rfl)
  have r2 : Rd (b.W 28) D147.2.2 (some L) (ρg ps c x wl wh tl (firstL n) (dueI n)) (kid k12 1) (.lst (tail5 (dueI n))) := by
    generalize firstL n = M at *
    generalize dueI n = d at *
    rcases ht with rfl | ⟨v, rfl⟩
    all_goals exact fun {F stk as s} => Ev.rv (Vc.use (ce b.g147 14 D147.2.2 _ _).1 (by kernel_rfl) (by kernel_rfl))
  have t1 : Tst (b.W 28) D147.2.2 (some L) (ρg ps c x wl wh tl (firstL n) (dueI n)) (.Compare (kid k12 0) [.NotEq] [kid k12 1] k12.pos) false := by
    have e : (!(toPy (.lst (tail5 (dueI n)))).eqv (toPy (.lst (tail5 (dueI n))))) = false := by rw [and2 hq]; rfl
    rw [← e]
    intro F stk as s
    exact Tst.cmp r1 r2 (op_ne (an (an (and1 (and1 hq)) (and1 (and1 hq))) (and2 (and1 hq)))) rfl
  rw [st12.1]
  intro F stk as s
  exact Ex.iteF (Tst.bool (Tsts.orF t0 (Tsts.orF t1 Tsts.orNil))) Exs.nil
end
end Mine
namespace Mine
set_option genSizeOf false
set_option genInjectivity false
noncomputable def ρt (xs : List PV) (c n : Int) (w wh : List UInt8) (fv : RV) (tl : Loc) (M : List PV) (due : Int) (ti : Bool) (tl2 : Loc) : Loc := ρ6 xs c n w wh ++ (nv "family" fv :: tl) ++ ([nv "first" (.val (.lst M)), nv "due" (ri due), nv "tight" (.val (.bool ti))] ++ tl2)
noncomputable abbrev f14 : Expr × Expr × List Stmt × Pos := forP (stAt D147.2.1 14)
noncomputable abbrev g14 : Expr × List Stmt × List Stmt × Pos := ifP (stAt f14.2.2.1 2)
theorem st14 : stAt D147.2.1 14 = .For f14.1 f14.2.1 f14.2.2.1 [] f14.2.2.2 ∧ f14.2.2.1 = [stAt f14.2.2.1 0, stAt f14.2.2.1 1, .If (.BoolOp .Or [kid g14.1 0, kid g14.1 1, .BoolOp .And [kid (kid g14.1 2) 0, kid (kid g14.1 2) 1] (kid g14.1 2).pos] g14.1.pos) g14.2.1 [] g14.2.2.2, stAt f14.2.2.1 3] := ⟨by kernel_rfl, by kernel_rfl⟩
noncomputable def limS (sz : Nat) : Nat := if sz = 4 then 21 else if sz = 5 then 28 else 36
noncomputable def dueT (sz n : Nat) : Int := (limS sz : Nat) - (grow sz (lim142 sz - n) : Nat)
noncomputable def FvOk (fv : RV) (σ : Sto) (L : List PV) : Prop := (fv = .own ∧ σ = some L) ∨ (fv = .val (.lst L) ∧ ∃ L0, σ = some L0)
section
variable {prog : Program} {w : World} {B : Bs} (b : Base prog w B) {ps L M : List PV} {c x due : Int} {wl wh : List UInt8} {fv : RV} {σ : Sto} {tl : Loc} {n sz : Nat} {ti : Bool}
theorem size_of (hz : sz = 4 ∨ sz = 5 ∨ sz = 6) (h : n ≤ lim142 sz) : (((sz : Int) + 1) * (sz + 2)).fdiv 2 - (n : Int) = ((lim142 sz - n : Nat) : Int) ∧ (((sz : Int) + 2) * (sz + 3)).fdiv 2 = (limS sz : Nat) := by
  have k : (((sz : Int) + 1) * (sz + 2)).fdiv 2 = (lim142 sz : Nat) ∧ (((sz : Int) + 2) * (sz + 3)).fdiv 2 = (limS sz : Nat) := by rcases hz with rfl | rfl | rfl <;> exact ⟨rfl, rfl⟩
  exact ⟨by rw [k.1]; (first | lia | omega), k.2⟩
theorem Base.due14 (hz : sz = 4 ∨ sz = 5 ∨ sz = 6) (ht : TlF tl) (hv : FvOk fv σ L) (hL : L.length = n) (hn : n ≤ lim142 sz) : Ex true (b.W 28) D147.2.2 (stAt f14.2.2.1 0) (ρt ps c x wl wh fv tl M due ti [nv "size" (ri sz)]) σ .next (ρt ps c x wl wh fv tl M (dueT sz n) ti [nv "size" (ri sz)]) σ := by
  obtain ⟨e1, e2⟩ := size_of hz hn
  rw [← hL] at e1
  have hl : lim142 sz ≤ 28 := by rcases hz with rfl | rfl | rfl <;> decide
  have e : dueT sz n = (((sz : Int) + 2) * (sz + 3)).fdiv 2 - ((grN (sz : Int).toNat ((((sz : Int) + 1) * (sz + 2)).fdiv 2 - (L.length : Int)).toNat).1 : Nat) := by rw [e1, e2, dueT, grow, hL]; rfl
  have hd : ((decide ((sz : Int) = 4) || decide ((sz : Int) = 5) || decide ((sz : Int) = 6)) && decide (((((sz : Int) + 1) * (sz + 2)).fdiv 2 - (L.length : Int)).toNat ≤ lim142 (sz : Int).toNat)) = true := by
    refine an ?_ (dt (by rw [e1]; exact Nat.sub_le _ _))
    rcases hz with rfl | rfl | rfl <;> rfl
  have o := an (an (dt (show ((sz : Int) + 2).natAbs < 2 ^ 64 by (first | lia | omega))) (rfl : true = true)) (an (an (an (an (an (dt (show ((sz : Int) + 1).natAbs < 2 ^ 64 by (first | lia | omega))) (rfl : true = true)) (an (dt (show L.length ≤ 1048576 by (first | lia | omega))) (rfl : true = true))) (rfl : true = true)) (an (dt (show 0 ≤ (((sz : Int) + 1) * (sz + 2)).fdiv 2 - (L.length : Int) by rw [e1]; exact Int.natCast_nonneg _)) hd)) (rfl : true = true))
  rw [e]
  rcases hv with ⟨rfl, rfl⟩ | ⟨rfl, L0, rfl⟩
  all_goals
    rcases ht with rfl | ⟨v, rfl⟩
    all_goals exact @useEx _ _ _ _ _ _ _ _ _ (exV true b.g147 8 D147.2.2 3 (stAt f14.2.2.1 0) _ _) (by kernel_rfl) (Eq.trans (by kernel_rfl) o)
theorem Base.fam14 {L2 : List PV} {y : Int} (ht : TlF tl) (hv : FvOk fv σ L) (hs : Spc false (b.W 28) 128 [.lst L, .int (c + y)] (.lst L2)) : Ex true (b.W 28) D147.2.2 (stAt f14.2.2.1 1) (ρt ps c x wl wh fv tl M due ti [nv "size" (ri y)]) σ .next (ρt ps c x wl wh (.val (.lst L2)) tl M due ti [nv "size" (ri y)]) σ := by
  rcases hv with ⟨rfl, rfl⟩ | ⟨rfl, L0, rfl⟩
  all_goals
    rcases ht with rfl | ⟨v, rfl⟩
    all_goals exact @Base.call147 prog w B b (stAt f14.2.2.1 1) (Str.ofString "family") (Str.ofString "_law_multiples") 128 _ _ _ _ _ (by kernel_rfl) (by kernel_rfl) (by kernel_rfl) (by kernel_rfl) b.is128 (by kernel_rfl) (Vc.use (arsV (fun e => rdV (ce b.g147 6 D147.2.2 _ e).1) _) (by kernel_rfl) (by kernel_rfl)) (.inr hs)
theorem Base.tst14 {y : Int} (ht : TlF tl) (hl : L.length ≤ 1048576) (h1 : ¬ (L.length : Int) < due) (h2 : ti = true → ¬ due < (L.length : Int)) {L0 : List PV} : Ex true (b.W 28) D147.2.2 (.If (.BoolOp .Or [kid g14.1 0, kid g14.1 1, .BoolOp .And [kid (kid g14.1 2) 0, kid (kid g14.1 2) 1] (kid g14.1 2).pos] g14.1.pos) g14.2.1 [] g14.2.2.2) (ρt ps c x wl wh (.val (.lst L)) tl M due ti [nv "size" (ri y)]) (some L0) .next (ρt ps c x wl wh (.val (.lst L)) tl M due ti [nv "size" (ri y)]) (some L0) ∧
    Ex true (b.W 28) D147.2.2 (stAt f14.2.2.1 3) (ρt ps c x wl wh (.val (.lst L)) tl M due ti [nv "size" (ri y)]) (some L0) .next (ρt ps c x wl wh (.val (.lst L)) tl M due (decide ((L.length : Int) = due)) [nv "size" (ri y)]) (some L0) := by
  have o := an (dt hl) (rfl : true = true)
  have t : Tst (b.W 28) D147.2.2 (some L0) (ρt ps c x wl wh (.val (.lst L)) tl M due ti [nv "size" (ri y)]) (kid g14.1 0) false ∧ Tst (b.W 28) D147.2.2 (some L0) (ρt ps c x wl wh (.val (.lst L)) tl M due ti [nv "size" (ri y)]) (kid g14.1 1) (decide ((L.length : Int) < due)) ∧ Tst (b.W 28) D147.2.2 (some L0) (ρt ps c x wl wh (.val (.lst L)) tl M due ti [nv "size" (ri y)]) (kid (kid g14.1 2) 0) ti ∧ Tst (b.W 28) D147.2.2 (some L0) (ρt ps c x wl wh (.val (.lst L)) tl M due ti [nv "size" (ri y)]) (kid (kid g14.1 2) 1) (decide (due < (L.length : Int))) ∧ Ex true (b.W 28) D147.2.2 (stAt f14.2.2.1 3) (ρt ps c x wl wh (.val (.lst L)) tl M due ti [nv "size" (ri y)]) (some L0) .next (ρt ps c x wl wh (.val (.lst L)) tl M due (decide ((L.length : Int) = due)) [nv "size" (ri y)]) (some L0) := by
    rcases ht with rfl | ⟨v, rfl⟩
    all_goals exact ⟨fun {F stk as s} => Vc.use (ce b.g147 4 D147.2.2 _ _).2 (by kernel_rfl) (by kernel_rfl), fun {F stk as s} => Vc.use (ce b.g147 4 D147.2.2 _ _).2 (by kernel_rfl) (Eq.trans (by kernel_rfl) o), fun {F stk as s} => Vc.use (ce b.g147 4 D147.2.2 _ _).2 (by kernel_rfl) (by kernel_rfl), fun {F stk as s} => Vc.use (ce b.g147 4 D147.2.2 _ _).2 (by kernel_rfl) (Eq.trans (by kernel_rfl) o), @useEx _ _ _ _ _ _ _ _ _ (exV true b.g147 8 D147.2.2 3 (stAt f14.2.2.1 3) _ _) (by kernel_rfl) (Eq.trans (by kernel_rfl) o)⟩
  obtain ⟨t0, t1, t2, t3, t4⟩ := t
  rw [decide_eq_false h1] at t1
  refine ⟨?_, t4⟩
  cases ti with
  | false =>
    intro F stk as s
    exact Ex.iteF (Tst.bool (Tsts.orF t0 (Tsts.orF t1 (Tsts.orF (Tst.bool (Tsts.andF t2)) Tsts.orNil)))) Exs.nil
  | true =>
    rw [decide_eq_false (h2 rfl)] at t3
    intro F stk as s
    exact Ex.iteF (Tst.bool (Tsts.orF t0 (Tsts.orF t1 (Tsts.orF (Tst.bool (Tsts.andT t2 (Tsts.andF t3))) Tsts.orNil)))) Exs.nil
end
end Mine
namespace Mine
set_option genSizeOf false
set_option genInjectivity false
structure Step (sz : Nat) (F : List Mono) (ti ti' : Bool) : Prop where
  ok : FamOk F
  lim : F.length ≤ lim142 sz
  few : ¬ ((more F).length : Int) < dueT sz F.length
  tight : ti = true → ¬ dueT sz F.length < ((more F).length : Int)
  flag : ti' = decide (((more F).length : Int) = dueT sz F.length)
  len : (more F).length ≤ 300
noncomputable def the147 (N : Nat) : List Mono := famD (digs N 4 (hexN N)).reverse []
theorem bd147 : D147.2.1 = [stAt D147.2.1 0, stAt D147.2.1 1, stAt D147.2.1 2, stAt D147.2.1 3, stAt D147.2.1 4, stAt D147.2.1 5, stAt D147.2.1 6, stAt D147.2.1 7, stAt D147.2.1 8, stAt D147.2.1 9, stAt D147.2.1 10, stAt D147.2.1 11, stAt D147.2.1 12, stAt D147.2.1 13, stAt D147.2.1 14, stAt D147.2.1 15] := by kernel_rfl
section
variable {prog : Program} {w : World} {B : Bs} (b : Base prog w B) {ps M : List PV} {c x due : Int} {wl wh : List UInt8} {fv : RV} {L0 : List PV} {tl tl2 : Loc} {sz : Nat} {ti ti' : Bool} {F : List Mono}
theorem Base.turn14 (hz : sz = 4 ∨ sz = 5 ∨ sz = 6) (ht : TlF tl) (h2 : tl2 = [] ∨ ∃ v, tl2 = [nv "size" (.val v)]) (hv : FvOk fv (some L0) (F.map triPV)) (st : Step sz F ti ti') :
    ∃ ρ₁, Asg (b.W 28) false D147.2.2 f14.1 (.int (sz : Int)) (ρt ps c x wl wh fv tl M due ti tl2) ρ₁ ∧ Exs true (b.W 28) D147.2.2 f14.2.2.1 ρ₁ (some L0) .next (ρt ps c x wl wh (.val (famP (more F))) tl M (dueT sz F.length) ti' [nv "size" (ri sz)]) (some L0) := by
  have asg : Asg (b.W 28) false D147.2.2 f14.1 (.int (sz : Int)) (ρt ps c x wl wh fv tl M due ti tl2) (ρt ps c x wl wh fv tl M due ti [nv "size" (ri sz)]) := by
    have key : ∀ z : Vc (AsgJ (b.W 28) false D147.2.2 f14.1 (.int (sz : Int)) (ρt ps c x wl wh fv tl M due ti tl2)), z.val = ρt ps c x wl wh fv tl M due ti [nv "size" (ri sz)] → z.ob = true → Asg (b.W 28) false D147.2.2 f14.1 (.int (sz : Int)) (ρt ps c x wl wh fv tl M due ti tl2) (ρt ps c x wl wh fv tl M due ti [nv "size" (ri sz)]) := fun z h1 h2 => (Vc.use z h1 h2).1
    rcases ht with rfl | ⟨v, rfl⟩
    all_goals
      rcases h2 with rfl | ⟨u, rfl⟩
      all_goals exact @key (asgV (b.W 28) D147.2.2 false 4 f14.1 _ _) (by kernel_rfl) (by kernel_rfl)
  refine ⟨_, asg, ?_⟩
  have hl : ((more F).map triPV).length = (more F).length := List.length_map ..
  have e0 := @Base.due14 prog w B b ps (F.map triPV) M c x due wl wh fv (some L0) tl F.length sz ti hz ht hv (List.length_map ..) st.lim
  have hs : Spc false (b.W 28) 128 [.lst (F.map triPV), .int (c + sz)] (.lst ((more F).map triPV)) := by
    intro A outer s vs ok
    exact b.up 28 (b.spec128 st.ok) (by decide)
  have e1 := @Base.fam14 prog w B b ps (F.map triPV) M c x (dueT sz F.length) wl wh fv (some L0) tl ti ((more F).map triPV) sz ht hv hs
  obtain ⟨e2, e3⟩ := @Base.tst14 prog w B b ps ((more F).map triPV) M c x (dueT sz F.length) wl wh tl ti sz ht (by rw [hl]; have := st.len; (first | lia | omega)) (by rw [hl]; exact st.few) (by rw [hl]; exact st.tight) L0
  rw [hl, ← st.flag] at e3
  rw [st14.2]
  intro F' stk as s
  exact Exs.cons e0 (Exs.cons e1 (Exs.cons e2 (Exs.one e3)))
theorem Base.loop14 {t1 t2 t3 : Bool} (ht : TlF tl) (s1 : Step 4 F false t1) (s2 : Step 5 (more F) t1 t2) (s3 : Step 6 (more (more F)) t2 t3) :
    ∃ ρ', Loop true (b.W 28) D147.2.2 f14.1 f14.2.2.1 [.int (4 : Nat), .int (5 : Nat), .int (6 : Nat)] (ρt ps c x wl wh .own tl M due false []) (some (F.map triPV)) ρ' (some (F.map triPV)) := by
  obtain ⟨r1, a1, b1⟩ := @Base.turn14 prog w B b ps M c x due wl wh .own (F.map triPV) tl [] 4 false t1 F (.inl rfl) ht (.inl rfl) (.inl ⟨rfl, rfl⟩) s1
  obtain ⟨r2, a2, b2⟩ := @Base.turn14 prog w B b ps M c x (dueT 4 F.length) wl wh (.val (famP (more F))) (F.map triPV) tl _ 5 t1 t2 (more F) (.inr (.inl rfl)) ht (.inr ⟨_, rfl⟩) (.inr ⟨rfl, _, rfl⟩) s2
  obtain ⟨r3, a3, b3⟩ := @Base.turn14 prog w B b ps M c x (dueT 5 (more F).length) wl wh (.val (famP (more (more F)))) (F.map triPV) tl _ 6 t2 t3 (more (more F)) (.inr (.inr rfl)) ht (.inr ⟨_, rfl⟩) (.inr ⟨rfl, _, rfl⟩) s3
  exact ⟨_, .cons a1 b1 (.cons a2 b2 (.cons a3 b3 .nil))⟩
theorem Base.spec147 {xs : List Int} (hx : xs.length ≤ 63) (plain : ∀ N : Nat, N < 16 ^ 8 → (the147 N).length ≤ 8 ∧ ∃ t1 t2 t3, Step 4 (the147 N) false t1 ∧ Step 5 (more (the147 N)) t1 t2 ∧ Step 6 (more (more (the147 N))) t2 t3) : Spc true (b.W 29) 147 [.lst (xs.map .int)] (.bool true) := by
  obtain ⟨c, s0⟩ := @Base.half0 prog w B b xs hx
  obtain ⟨n, s1⟩ := @Base.half1 prog w B b xs c hx
  obtain ⟨N, hN, s2⟩ := b.mod147 (xs.map .int) c n
  obtain ⟨h8, t1, t2, t3, p1, p2, p3⟩ := plain N hN
  have s3 := @Base.line147 prog w B b (xs.map .int) c N
  have s4 := @Base.word147 prog w B b N (xs.map .int) c hN
  have s5 := @Base.whole147 prog w B b N (xs.map .int) c hN
  have s6 := @Base.test6 prog w B b N (xs.map .int) c hN
  have s7 := @Base.test7 prog w B b N (xs.map .int) c (lettL 8 N) hN
  have hl : hexN N ≤ 8 := hexN_iff.mpr hN
  obtain ⟨tl, ht, L9⟩ := @Base.loop9 prog w B b (xs.map .int) c N (wordL N) (lettL 8 N) (digs N 4 (hexN N)).reverse [] [] (fun d hd => digs16 d (List.mem_reverse.mp hd)) (.inl rfl) (by rw [List.length_reverse, digs_len, List.length_nil]; (first | lia | omega))
  have it9 : Itm (b.W 28) D147.2.2 (some []) (ρf (xs.map .int) c N (wordL N) (lettL 8 N) []) f9.1 f9.2.1 ((digs N 4 (hexN N)).reverse.map fun d => .int ((65 + d : Nat) : Int)) := by
    have e : ((digs N 4 (hexN N)).reverse.map fun d => PV.int ((65 + d : Nat) : Int)) = (wordL N).map fun u => .int (u.toNat : Int) := by
      rw [wordL, lettL, List.map_map]
      refine List.map_congr_left fun d hd => ?_
      show PV.int _ = PV.int ((lett d).toNat : Int)
      rw [lett_nat (digs16 d (List.mem_reverse.mp hd))]
    rw [e]
    generalize wordL N = wl at *
    intro F stk as s
    exact Vc.use (itV b.g147 4 D147.2.2 (σ := some []) (ρf (xs.map .int) c N wl (lettL 8 N) []) f9.1 f9.2.1) (by kernel_rfl) (by kernel_rfl)
  change Loop true (b.W 28) D147.2.2 f9.1 f9.2.2.1 ((digs N 4 (hexN N)).reverse.map fun d => .int ((65 + d : Nat) : Int)) (ρf (xs.map .int) c N (wordL N) (lettL 8 N) []) (some []) (ρf (xs.map .int) c N (wordL N) (lettL 8 N) tl) (some ((the147 N).map triPV)) at L9
  generalize wordL N = wl at *
  generalize lettL 8 N = wh at *
  generalize the147 N = F at *
  have hF : (F.map triPV).length = F.length := List.length_map ..
  have s10 := @Base.first147 prog w B b (xs.map .int) (F.map triPV) c N wl wh tl F.length ht hF h8
  have s11 := @Base.due147 prog w B b (xs.map .int) (F.map triPV) c N wl wh tl F.length (firstL F.length) ht hF h8
  have s12 := @Base.test12 prog w B b (xs.map .int) (F.map triPV) c N wl wh tl F.length ht h8
  have s13 : Ex true (b.W 28) D147.2.2 (stAt D147.2.1 13) (ρg (xs.map .int) c N wl wh tl (firstL F.length) (dueI F.length)) (some (F.map triPV)) .next (ρt (xs.map .int) c N wl wh .own tl (firstL F.length) (dueI F.length) false []) (some (F.map triPV)) := by
    generalize firstL F.length = M at *
    generalize dueI F.length = d at *
    generalize F.map triPV = L at *
    rcases ht with rfl | ⟨v, rfl⟩
    all_goals exact @useEx _ _ _ _ _ _ _ _ _ (exV true b.g147 8 D147.2.2 3 (stAt D147.2.1 13) _ _) (by kernel_rfl) (by kernel_rfl)
  obtain ⟨ρ', s14⟩ := @Base.loop14 prog w B b (xs.map .int) (firstL F.length) c N (dueI F.length) wl wh tl F t1 t2 t3 ht p1 p2 p3
  have it14 : Itm (b.W 28) D147.2.2 (some (F.map triPV)) (ρt (xs.map .int) c N wl wh .own tl (firstL F.length) (dueI F.length) false []) f14.1 f14.2.1 [.int (4 : Nat), .int (5 : Nat), .int (6 : Nat)] := by
    generalize F.map triPV = L at *
    rcases ht with rfl | ⟨v, rfl⟩
    all_goals exact fun {F' stk as s} => Vc.use (itV b.g147 4 D147.2.2 (σ := some L) _ f14.1 f14.2.1) (by kernel_rfl) (by kernel_rfl)
  have s15 : Exs true (b.W 28) D147.2.2 [stAt D147.2.1 15] ρ' (some (F.map triPV)) (.ret (.val (.bool true))) ρ' (some (F.map triPV)) := by
    exact @useExs _ _ _ _ _ _ _ _ _ (cs true b.g147 4 D147.2.2 3 [stAt D147.2.1 15] _ _) (by kernel_rfl) (by kernel_rfl)
  refine @FnB.spc true (b.W 28) 147 _ _ [.lst (xs.map .int)] _ (.val _) (some (F.map triPV)) b.f147 rfl ?_ (.inl rfl) rfl
  rw [bd147, st9.1, st14.1]
  intro G s₀
  exact Bd.cons @s0 (Bd.cons @s1 (Bd.cons @s2 (Bd.cons @s3 (Bd.cons @s4 (Bd.cons @s5 (Bd.cons @s6 (Bd.cons @s7 (Bd.new (by kernel_rfl) New.nil (by kernel_rfl) (Exs.cons (Ex.for_ @it9 (fun _ _ => rfl) L9) (Exs.cons @s10 (Exs.cons @s11 (Exs.cons @s12 (Exs.cons @s13 (Exs.cons (Ex.for_ @it14 (fun _ _ => rfl) s14) @s15))))))))))))))
end
end Mine
namespace Mine
set_option genSizeOf false
set_option genInjectivity false
noncomputable def tab4 : Nat := 5233100607456472756419719915901461
noncomputable def tab5 : Nat := 1472986871268048068450005496712879774221397858588
noncomputable def tab6 : Nat := 106139889992934843699845265858784737288300998186600289448558010660
noncomputable def tabP : Nat := 95125173855764218123276304889944061997689682402263585766959741291920687686033329201817409157123347502415384089435969498586180241031507595463600295898153685276653211633572815512294064538494957912327413386667662218713394765509704508661031522276467630197481635010039778342554499416459730172574551513689147646224
noncomputable def pb (r : Nat) : Nat := Nat.mod (Nat.shiftRight tabP (Nat.mul 4 r)) 16
noncomputable def pbR (m a : Nat) : Nat := pb (Nat.mod (Nat.shiftRight m (Nat.mul 8 a)) 256)
noncomputable def popF (m : Nat) : Nat := Nat.add (pbR m 0) (Nat.add (pbR m 1) (Nat.add (pbR m 2) (Nat.add (pbR m 3) (Nat.add (pbR m 4) (Nat.add (pbR m 5) (Nat.add (pbR m 6) (pbR m 7)))))))
noncomputable def dil (m : Nat) : Nat := Nat.lor m (Nat.lor (Nat.shiftLeft m 1) (Nat.shiftLeft m 8))
noncomputable def tb (t n : Nat) : Nat := Nat.mod (Nat.shiftRight t (Nat.mul 8 n)) 256
noncomputable def chkS (l d s : Nat) (ti : Bool) (n2 : Nat) : Bool := Nat.ble n2 l && Nat.ble d (Nat.add n2 s) && (!ti || Nat.ble (Nat.add n2 s) d)
noncomputable def chk3 (n2 s2 m3 : Nat) : Bool := chkS 36 36 (tb tab6 n2) (Nat.beq s2 28) (popF m3)
noncomputable def chk2 (n1 s1 m2 n2 s2 : Nat) : Bool := chkS 28 28 (tb tab5 n1) (Nat.beq s1 21) n2 && chk3 n2 s2 (dil m2)
noncomputable def chk2' (n1 s1 m2 n2 : Nat) : Bool := chk2 n1 s1 m2 n2 (Nat.add n2 (tb tab5 n1))
noncomputable def chk1 (n0 m1 n1 s1 : Nat) : Bool := chkS 21 21 (tb tab4 n0) false n1 && chk2' n1 s1 (dil m1) (popF (dil m1))
noncomputable def chk1' (n0 m1 n1 : Nat) : Bool := chk1 n0 m1 n1 (Nat.add n1 (tb tab4 n0))
noncomputable def chk (m : Nat) : Bool := chk1' (popF m) (dil m) (popF (dil m))
noncomputable def goM : List Nat → Nat → Nat → Bool
  | [], m, _ => chk m
  | b :: bs, m, n => goM bs m n && (match n with | 0 => true | k + 1 => goM bs (Nat.lor (Nat.shiftLeft 1 b) m) k)
noncomputable abbrev pos12 : List Nat := [18, 17, 16, 11, 10, 9, 8, 4, 3, 2, 1, 0]
noncomputable def posL : List Nat := 32 :: 25 :: 24 :: pos12
theorem goM_and {b : Nat} {bs : List Nat} {m k : Nat} (h1 : goM bs m (k + 1) = true) (h2 : goM bs (Nat.lor (Nat.shiftLeft 1 b) m) k = true) : goM (b :: bs) m (k + 1) = true := Bool.and_eq_true_iff.mpr ⟨h1, h2⟩
theorem go_000 : goM pos12 0 8 = true := by decide +kernel
theorem go_001 : goM pos12 (Nat.lor (Nat.shiftLeft 1 24) 0) 7 = true := by decide +kernel
theorem go_010 : goM pos12 (Nat.lor (Nat.shiftLeft 1 25) 0) 7 = true := by decide +kernel
theorem go_011 : goM pos12 (Nat.lor (Nat.shiftLeft 1 24) (Nat.lor (Nat.shiftLeft 1 25) 0)) 6 = true := by decide +kernel
theorem go_100 : goM pos12 (Nat.lor (Nat.shiftLeft 1 32) 0) 7 = true := by decide +kernel
theorem go_101 : goM pos12 (Nat.lor (Nat.shiftLeft 1 24) (Nat.lor (Nat.shiftLeft 1 32) 0)) 6 = true := by decide +kernel
theorem go_110 : goM pos12 (Nat.lor (Nat.shiftLeft 1 25) (Nat.lor (Nat.shiftLeft 1 32) 0)) 6 = true := by decide +kernel
theorem go_111 : goM pos12 (Nat.lor (Nat.shiftLeft 1 24) (Nat.lor (Nat.shiftLeft 1 25) (Nat.lor (Nat.shiftLeft 1 32) 0))) 5 = true := by decide +kernel
theorem go_all : goM posL 0 8 = true := goM_and (goM_and (goM_and go_000 go_001) (goM_and go_010 go_011)) (goM_and (goM_and go_100 go_101) (goM_and go_110 go_111))
noncomputable def pop (m : Nat) : Nat := (List.range 64).countP fun i => m.testBit i
theorem pb_all : (List.range 256).map pb = (List.range 256).map fun r => (List.range 8).countP fun i => r.testBit i := by decide +kernel
theorem row_eq (m a : Nat) : pbR m a = (List.range 8).countP fun i => m.testBit (8 * a + i) := by
  have h := List.map_inj_left.mp pb_all ((m >>> (8 * a)) % 2 ^ 8) (List.mem_range.mpr (Nat.mod_lt _ (by decide)))
  refine h.trans (List.countP_congr fun i hi => ?_)
  have hi : i < 8 := List.mem_range.mp hi
  rw [Nat.testBit_mod_two_pow, Nat.testBit_shiftRight, decide_eq_true hi, Bool.true_and]
theorem popF_eq (m : Nat) : popF m = pop m := by
  have e : List.range 64 = (List.range 8).flatMap fun a => (List.range 8).map fun i => 8 * a + i := by decide +kernel
  have k : pop m = ((List.range 8).map fun a => pbR m a).sum := by
    rw [pop, e, List.countP_flatMap]
    refine congrArg List.sum (List.map_congr_left fun a _ => ?_)
    show List.countP _ (List.map _ _) = _
    rw [List.countP_map, row_eq]; rfl
  rw [k]; rfl
noncomputable def maskP : List Nat → Nat
  | [] => 0
  | p :: r => 2 ^ p ||| maskP r
theorem mask_bit (L : List Nat) (i : Nat) : (maskP L).testBit i = decide (i ∈ L) := by
  induction L with
  | nil => exact Nat.zero_testBit i
  | cons p r ih => rw [maskP, Nat.testBit_or, Nat.testBit_two_pow, ih, Bool.eq_iff_iff, Bool.or_eq_true_iff, decide_eq_true_iff, decide_eq_true_iff, decide_eq_true_iff, List.mem_cons, eq_comm]
theorem pop_mask {L : List Nat} (hn : L.Nodup) (hp : ∀ p ∈ L, p < 64) : pop (maskP L) = L.length := by
  rw [pop, List.countP_eq_length_filter]
  refine ((List.perm_ext_iff_of_nodup (List.nodup_range.filter _) hn).mpr fun i => ?_).length_eq
  rw [List.mem_filter, mask_bit, decide_eq_true_iff, List.mem_range]
  exact ⟨And.right, fun h => ⟨hp i h, h⟩⟩
theorem goM_split {b : Nat} {bs : List Nat} {m n : Nat} (h : goM (b :: bs) m n = true) : goM bs m n = true ∧ ∀ k, n = k + 1 → goM bs (Nat.lor (Nat.shiftLeft 1 b) m) k = true := by
  cases n with
  | zero => exact ⟨and1 h, nofun⟩
  | succ n => exact ⟨and1 h, fun k e => Nat.succ.inj e ▸ and2 h⟩
theorem goM_all {bs sub : List Nat} (hs : sub.Sublist bs) : ∀ m n, sub.length ≤ n → goM bs m n = true → chk (m ||| maskP sub) = true := by
  induction hs with
  | slnil => exact fun m n _ h => (Nat.or_zero m).symm ▸ h
  | cons b hs ih => exact fun m n hl h => ih m n hl (goM_split h).1
  | cons_cons b hs ih =>
    intro m n hl h
    cases n with
    | zero => cases hl
    | succ k =>
      have := ih _ k (Nat.le_of_succ_le_succ hl) ((goM_split h).2 k rfl)
      have e : Nat.lor (Nat.shiftLeft 1 b) m = 2 ^ b ||| m := by
        show (1 <<< b) ||| m = _
        rw [Nat.one_shiftLeft]
      rw [e, Nat.or_comm (2 ^ b), Nat.or_assoc] at this
      exact this
end Mine
namespace Mine
set_option genSizeOf false
set_option genInjectivity false
noncomputable def posM (x : Mono) : Nat := 8 * x.1 + x.2.1
structure Fam (s : Nat) (L : List Mono) : Prop where
  deg : ∀ x ∈ L, x.1 + x.2.1 + x.2.2 = s
  nodup : L.Nodup
theorem pos_inj {s : Nat} (hs : s ≤ 7) {x y : Mono} (hx : x.1 + x.2.1 + x.2.2 = s) (hy : y.1 + y.2.1 + y.2.2 = s) (h : posM x = posM y) : x = y := by
  obtain ⟨a, b, c⟩ := x
  obtain ⟨a', b', c'⟩ := y
  have h : 8 * a + b = 8 * a' + b' := h
  have hx : a + b + c = s := hx
  have hy : a' + b' + c' = s := hy
  obtain rfl : a = a' := by (first | lia | omega)
  obtain rfl : b = b' := by (first | lia | omega)
  obtain rfl : c = c' := by (first | lia | omega)
  rfl
noncomputable def maskM (L : List Mono) : Nat := maskP (L.map posM)
theorem pop_fam {s : Nat} (hs : s ≤ 7) {L : List Mono} (h : Fam s L) : popF (maskM L) = L.length := by
  rw [popF_eq, maskM, pop_mask ?_ ?_, List.length_map]
  · refine List.pairwise_map.mpr (List.Pairwise.imp_of_mem (fun hx hy hne e => hne (pos_inj hs (h.deg _ hx) (h.deg _ hy) e)) h.nodup)
  · intro p hp
    obtain ⟨x, hx, rfl⟩ := List.mem_map.mp hp
    have := h.deg x hx
    unfold posM
    (first | lia | omega)
theorem addM_mem {L : List Mono} {x y : Mono} : y ∈ addM L x ↔ y ∈ L ∨ x = y := by
  unfold addM
  split
  · rename_i h
    exact ⟨.inl, fun q => q.elim id fun e => e ▸ h⟩
  · rw [List.mem_append, List.mem_singleton, eq_comm (a := y)]
theorem addM_nodup {L : List Mono} {x : Mono} (h : L.Nodup) : (addM L x).Nodup := by
  unfold addM
  split
  · exact h
  · rename_i hx
    exact List.nodup_append.mpr ⟨h, List.pairwise_singleton _ x, fun a ha b hb => by rw [List.mem_singleton.mp hb]; exact fun e => hx (e ▸ ha)⟩
theorem told_mem (cs : List (Mono × Nat)) (y : Mono) : ∀ T : List Mono, y ∈ toldOf cs T ↔ y ∈ T ∨ ∃ x ∈ cs, mulT x = y := by
  induction cs with
  | nil => exact fun T => ⟨.inl, fun h => h.elim id fun ⟨x, hx, _⟩ => nomatch hx⟩
  | cons x cs ih =>
    intro T
    show y ∈ toldOf cs (addM T (mulT x)) ↔ _
    rw [ih, addM_mem, or_assoc]
    simp only [List.mem_cons, exists_eq_or_imp]
theorem told_nodup (cs : List (Mono × Nat)) : ∀ T : List Mono, T.Nodup → (toldOf cs T).Nodup := by
  induction cs with
  | nil => exact fun T h => h
  | cons x cs ih => exact fun T h => ih _ (addM_nodup h)
theorem more_mem {L : List Mono} {y : Mono} : y ∈ more L ↔ ∃ m ∈ L, (m.1 + 1, m.2.1, m.2.2) = y ∨ (m.1, m.2.1 + 1, m.2.2) = y ∨ (m.1, m.2.1, m.2.2 + 1) = y := by
  rw [more, told_mem]
  constructor
  · rintro (h | ⟨x, hx, h⟩)
    · cases h
    · obtain ⟨m, hm, hx⟩ := List.mem_flatMap.mp hx
      refine ⟨m, hm, ?_⟩
      rcases List.mem_cons.mp hx with rfl | hx
      · exact .inl h
      rcases List.mem_cons.mp hx with rfl | hx
      · exact .inr (.inl h)
      obtain rfl := List.mem_singleton.mp hx
      exact .inr (.inr h)
  · rintro ⟨m, hm, h⟩
    have k : ∀ x ∈ [(m, 0), (m, 1), (m, 2)], mulT x = y → y ∈ [] ∨ ∃ x ∈ csOf L, mulT x = y := fun x hx e => .inr ⟨x, List.mem_flatMap.mpr ⟨m, hm, hx⟩, e⟩
    rcases h with h | h | h
    · exact k (m, 0) List.mem_cons_self h
    · exact k (m, 1) (List.mem_cons_of_mem _ List.mem_cons_self) h
    · exact k (m, 2) (List.mem_cons_of_mem _ (List.mem_cons_of_mem _ List.mem_cons_self)) h
theorem Fam.more {s : Nat} {L : List Mono} (h : Fam s L) : Fam (s + 1) (more L) := by
  refine ⟨fun y hy => ?_, told_nodup _ _ List.nodup_nil⟩
  obtain ⟨m, hm, e⟩ := more_mem.mp hy
  have k : m.1 + m.2.1 + m.2.2 = s := h.deg m hm
  rcases e with rfl | rfl | rfl
  · show m.1 + 1 + m.2.1 + m.2.2 = s + 1
    (first | lia | omega)
  · show m.1 + (m.2.1 + 1) + m.2.2 = s + 1
    (first | lia | omega)
  · show m.1 + m.2.1 + (m.2.2 + 1) = s + 1
    (first | lia | omega)
theorem maskM_bit {L : List Mono} {i : Nat} : (maskM L).testBit i = true ↔ ∃ m ∈ L, posM m = i := by
  rw [maskM, mask_bit, decide_eq_true_iff, List.mem_map]
theorem more_mask (L : List Mono) : maskM (more L) = dil (maskM L) := by
  refine Nat.eq_of_testBit_eq fun i => ?_
  show (maskM (more L)).testBit i = (maskM L ||| (maskM L <<< 1 ||| maskM L <<< 8)).testBit i
  rw [Nat.testBit_or, Nat.testBit_or, Nat.testBit_shiftLeft, Nat.testBit_shiftLeft, Bool.eq_iff_iff, Bool.or_eq_true_iff, Bool.or_eq_true_iff, Bool.and_eq_true_iff, Bool.and_eq_true_iff, decide_eq_true_iff, decide_eq_true_iff, maskM_bit, maskM_bit, maskM_bit, maskM_bit]
  have p1 : ∀ m : Mono, posM (m.1 + 1, m.2.1, m.2.2) = posM m + 8 := fun m => by show 8 * (m.1 + 1) + m.2.1 = 8 * m.1 + m.2.1 + 8; (first | lia | omega)
  have p2 : ∀ m : Mono, posM (m.1, m.2.1 + 1, m.2.2) = posM m + 1 := fun m => rfl
  constructor
  · rintro ⟨y, hy, rfl⟩
    obtain ⟨m, hm, e⟩ := more_mem.mp hy
    rcases e with rfl | rfl | rfl
    · rw [p1]; exact .inr (.inr ⟨Nat.le_add_left _ _, m, hm, (Nat.add_sub_cancel ..).symm⟩)
    · rw [p2]; exact .inr (.inl ⟨Nat.le_add_left _ _, m, hm, (Nat.add_sub_cancel ..).symm⟩)
    · exact .inl ⟨m, hm, rfl⟩
  · rintro (⟨m, hm, e⟩ | ⟨h, m, hm, e⟩ | ⟨h, m, hm, e⟩)
    · exact ⟨_, more_mem.mpr ⟨m, hm, .inr (.inr rfl)⟩, e⟩
    · exact ⟨_, more_mem.mpr ⟨m, hm, .inr (.inl rfl)⟩, by rw [p2, e]; exact Nat.sub_add_cancel h⟩
    · exact ⟨_, more_mem.mpr ⟨m, hm, .inl rfl⟩, by rw [p1, e]; exact Nat.sub_add_cancel h⟩
theorem line_ok' : (∀ x ∈ lineL, posM x ∈ posL ∧ x.1 + x.2.1 + x.2.2 = 4) ∧ posL.Nodup ∧ ∀ p ∈ posL, p < 64 := by decide +kernel
theorem fam_chk {L : List Mono} (hn : L.Nodup) (hl : ∀ x ∈ L, x ∈ lineL) (h8 : L.length ≤ 8) : chk (maskM L) = true := by
  have hd : Fam 4 L := ⟨fun x hx => (line_ok'.1 x (hl x hx)).2, hn⟩
  have hs : (posL.filter fun p => (maskM L).testBit p).Sublist posL := List.filter_sublist
  have hm : maskP (posL.filter fun p => (maskM L).testBit p) = maskM L := by
    refine Nat.eq_of_testBit_eq fun i => ?_
    rw [mask_bit, Bool.eq_iff_iff, decide_eq_true_iff, List.mem_filter]
    refine ⟨And.right, fun h => ⟨?_, h⟩⟩
    obtain ⟨x, hx, rfl⟩ := maskM_bit.mp h
    exact (line_ok'.1 x (hl x hx)).1
  have hlen : (posL.filter fun p => (maskM L).testBit p).length ≤ 8 := by
    rw [← pop_mask (hs.nodup line_ok'.2.1) (fun p hp => line_ok'.2.2 p (List.mem_filter.mp hp).1), hm, ← popF_eq, pop_fam (by decide) hd]
    exact h8
  have := goM_all hs 0 8 hlen go_all
  rw [Nat.zero_or, hm] at this
  exact this
end Mine
namespace Mine
set_option genSizeOf false
set_option genInjectivity false
theorem tab_ok : (∀ n ≤ 15, tb tab4 n = grow 4 (15 - n)) ∧ (∀ n ≤ 21, tb tab5 n = grow 5 (21 - n)) ∧ ∀ n ≤ 28, tb tab6 n = grow 6 (28 - n) := by decide +kernel
theorem step_of {sz s : Nat} {ti : Bool} {F : List Mono} (hF : Fam sz F) (hz : sz ≤ 20) (hn : F.length ≤ lim142 sz) (hn' : F.length ≤ 100) (hl : limS sz ≤ 36) (hg : s = grow sz (lim142 sz - F.length)) (hc : chkS (limS sz) (limS sz) s ti (more F).length = true) : Step sz F ti (Nat.beq ((more F).length + s) (limS sz)) ∧ (more F).length ≤ limS sz := by
  have h1 := Nat.le_of_ble_eq_true (and1 (and1 hc))
  have h2 := Nat.le_of_ble_eq_true (and2 (and1 hc))
  have h2 : limS sz ≤ (more F).length + s := h2
  have h3 : ti = true → (more F).length + s ≤ limS sz := fun e => by
    rcases Bool.or_eq_true_iff.mp (and2 hc) with q | q
    · rw [e] at q; cases q
    · exact Nat.le_of_ble_eq_true q
  have hd : dueT sz F.length = (limS sz : Nat) - (s : Nat) := by rw [dueT, ← hg]
  refine ⟨⟨⟨hn', fun m hm k => ?_⟩, hn, by rw [hd]; (first | lia | omega), fun e => by have := h3 e; rw [hd]; (first | lia | omega), ?_, Nat.le_trans h1 (Nat.le_trans hl (by decide))⟩, h1⟩
  · have := hF.deg m hm
    rcases k with _ | _ | k
    · show m.1 ≤ 20
      (first | lia | omega)
    · show m.2.1 ≤ 20
      (first | lia | omega)
    · show m.2.2 ≤ 20
      (first | lia | omega)
  · rw [Bool.eq_iff_iff, Nat.beq_eq, decide_eq_true_iff, hd]
    (first | lia | omega)
theorem fam_law {L : List Mono} (hn : L.Nodup) (hl : ∀ x ∈ L, x ∈ lineL) (h8 : L.length ≤ 8) : ∃ t1 t2 t3, Step 4 L false t1 ∧ Step 5 (more L) t1 t2 ∧ Step 6 (more (more L)) t2 t3 := by
  have f0 : Fam 4 L := ⟨fun x hx => (line_ok'.1 x (hl x hx)).2, hn⟩
  have f1 := f0.more
  have f2 := f1.more
  have hc := fam_chk hn hl h8
  unfold chk chk1' chk1 chk2' chk2 chk3 at hc
  rw [← more_mask, ← more_mask, ← more_mask, pop_fam (by decide) f0, pop_fam (by decide) f1, pop_fam (by decide) f2, pop_fam (by decide) f2.more] at hc
  obtain ⟨s1, l1⟩ := step_of f0 (by decide) (show L.length ≤ 15 by (first | lia | omega)) (by (first | lia | omega)) (by decide) (tab_ok.1 _ (by (first | lia | omega))) (and1 hc)
  have l1 : (more L).length ≤ 21 := l1
  obtain ⟨s2, l2⟩ := step_of f1 (by decide) l1 (by (first | lia | omega)) (by decide) (tab_ok.2.1 _ l1) (and1 (and2 hc))
  have l2 : (more (more L)).length ≤ 28 := l2
  obtain ⟨s3, l3⟩ := step_of f2 (by decide) l2 (by (first | lia | omega)) (by decide) (tab_ok.2.2 _ l2) (and2 (and2 hc))
  exact ⟨_, _, _, s1, s2, s3⟩
theorem famD_ok (ds : List Nat) : ∀ L : List Mono, L.Nodup → (∀ x ∈ L, x ∈ lineL) → (famD ds L).Nodup ∧ (∀ x ∈ famD ds L, x ∈ lineL) ∧ (famD ds L).length ≤ L.length + ds.length := by
  have hm : ∀ d, d < 15 → lineM d ∈ lineL := by decide
  induction ds with
  | nil => exact fun L h1 h2 => ⟨h1, h2, Nat.le_refl _⟩
  | cons d ds ih =>
    intro L h1 h2
    have h3 := addD_len L d
    have k : (addD L d).Nodup ∧ ∀ x ∈ addD L d, x ∈ lineL := by
      unfold addD
      split
      · rename_i h
        exact ⟨addM_nodup h1, fun x hx => (addM_mem.mp hx).elim (h2 x) fun e => e ▸ hm d h⟩
      · exact ⟨h1, h2⟩
    obtain ⟨a, b, c⟩ := ih (addD L d) k.1 k.2
    refine ⟨a, b, Nat.le_trans c ?_⟩
    rw [List.length_cons]
    (first | lia | omega)
theorem plain147 (N : Nat) (hN : N < 16 ^ 8) : (the147 N).length ≤ 8 ∧ ∃ t1 t2 t3, Step 4 (the147 N) false t1 ∧ Step 5 (more (the147 N)) t1 t2 ∧ Step 6 (more (more (the147 N))) t2 t3 := by
  have h8 : hexN N ≤ 8 := hexN_iff.mpr hN
  obtain ⟨h1, h2, h3⟩ := famD_ok (digs N 4 (hexN N)).reverse [] List.nodup_nil fun _ h => nomatch h
  rw [List.length_reverse, digs_len, List.length_nil, Nat.zero_add] at h3
  have h3 := Nat.le_trans h3 h8
  exact ⟨h3, fam_law h1 h2 h3⟩
end Mine
namespace Mine
set_option genSizeOf false
set_option genInjectivity false
noncomputable abbrev KP (P : Params) : Frag := tp.heap_1 P
noncomputable def objAt (K : Frag) (a : Addr) : Obj := (K.lookup a).getD { cls := .none, data := .plain }
noncomputable def fdOf (K : Frag) (a : Addr) : FuncData := match (objAt K a).data with | .func fd => fd | _ => default
noncomputable def fsOf (K : Frag) (a : Addr) : Array Value := match (objAt K a).data with | .fields fs => fs | _ => #[]
noncomputable def seqOf (K : Frag) (a : Addr) : Array Value × Nat := match (objAt K a).data with | .seq xs n => (xs, n) | _ => (#[], 0)
noncomputable def esOf (K : Frag) (a : Addr) : Array DictEntry × Nat := match (objAt K a).data with | .dict xs n => (xs, n) | _ => (#[], 0)
noncomputable def noFree (l : List (Str × NameKind)) : Bool := l.all fun x => match x.2 with | .free => false | _ => true
noncomputable def fnL : List (Addr × List String × String) := [(48, ["data"], "quotedata"), (55, ["a", "b", "n"], "_div2n1n"), (69, ["a", "n"], "_int2digits"), (76, ["digits", "n"], "_digits2int"), (83, ["a", "b"], "_divmod_pos"), (90, ["a", "b"], "int_divmod"), (97, ["num"], "Int2AP"), (110, ["version"], "_comparable_version"), (118, ["version", "build"], "_norm_version"), (123, ["cell"], "_law_line"), (128, ["family", "cell"], "_law_multiples"), (135, ["many", "some"], "_law_over"), (142, ["count", "size", "cell"], "_law_grown"), (147, ["script"], "law")]
noncomputable def fnB (K : Frag) (x : Addr × List String × String) : Bool := have fd := fdOf K x.1; codeIn K fd.code fd.qualname && (!fd.scope.isCoroutine && (!fd.scope.isGenerator && (noFree fd.scope.names && (nm x.2.1).all (stoQ fd.scope))))
noncomputable def fnD (K : Frag) (x : Addr × List String × String) := (K.lookup x.1, (objAt K x.1).data, (fdOf K x.1).body, (fdOf K x.1).scope, (fdOf K x.1).closure, (fdOf K x.1).globals, (fdOf K x.1).builtins, (fdOf K x.1).scope.kind, fnB K x)
noncomputable def fnE (K : Frag) (x : Addr × List String × String) := (some (objAt K x.1), Data.func (fdOf K x.1), FuncBody.stmts (defOf' x.2.2).2.1, (defOf' x.2.2).2.2, ([] : List (Str × Addr)), mainGlobals, builtinsNs, ScopeKind.function, true)
theorem fn_all (P : Params) : fnL.map (fnD (KP P)) = fnL.map (fnE (KP P)) := by kernel_rfl
theorem kp_tabs (P : Params) : [noTabs (KP P), codeHdIn (KP P) 75 71, codeHdIn (KP P) 68 64] = [true, true, true] := by kernel_rfl
noncomputable def ar1 : List (Addr × List String × String) := fnL.filter fun x => x.2.1.length == 1
noncomputable def ar2 : List (Addr × List String × String) := fnL.filter fun x => x.2.1.length == 2 && x.1 != 118
noncomputable def ar3 : List (Addr × List String × String) := fnL.filter fun x => x.2.1.length == 3
noncomputable def bindD (K : Frag) (vs : List Value) (x : Addr × List String × String) : Sem (List (Str × Value)) := bindArgs (fdOf K x.1) ⟨vs, []⟩
noncomputable def bindE (vs : List Value) (x : Addr × List String × String) : Sem (List (Str × Value)) := pure ((nm x.2.1).zip vs)
theorem bind_all (P : Params) (u v z : Value) : (ar1.map (bindD (KP P) [u]), ar2.map (bindD (KP P) [u, v]), ar3.map (bindD (KP P) [u, v, z])) = (ar1.map (bindE [u]), ar2.map (bindE [u, v]), ar3.map (bindE [u, v, z])) := by kernel_rfl
noncomputable def gv : PV → Option Value
  | .obj a => some (.ref a)
  | .str x => some (.str x 342)
  | .int i => some (.int i 353)
  | _ => none
noncomputable def gb : PV → Option Value
  | .bi id => some (.builtin id)
  | .ty id => some (.type id)
  | _ => none
theorem gl_all (P : Params) : globT.map (fun p => (nsIn (KP P) mainGlobals (Str.ofString p.1), if (gb p.2).isSome = true then bootBuiltins (Str.ofString p.1) else none)) = globT.map fun p => (some (gv p.2), gb p.2) := by kernel_rfl
theorem gl_kind : globT.all (fun p => ((gv p.2).isSome || (gb p.2).isSome) && Str.ofString p.1 != Str.ofString "__name__") = true := by decide +kernel
end Mine
namespace Mine
set_option genSizeOf false
set_option genInjectivity false
noncomputable def tabs2 : List (Addr × Addr) := [(75, 71), (68, 64)]
noncomputable def bsOf (h₁ : Heap) (mg mb : Str → Option Value) : Bs := { g := ghostOf h₁ tabs2, T := fun a => a = 71 ∨ a = 64, TI := fun h => TabOk h 71 pos76 qual76 ∧ TabOk h 64 pos69 qual69, mg := mg, mb := mb }
theorem tab_keep {W : Addr → Prop} {h h' : Heap} {Q : Addr} {pos : Pos} {qual : Str} (h1 : ∀ a o, W a → h.get? a = some o → (∀ vs, o.data ≠ .fields vs) ∨ (∃ c, o.cls = .type c ∧ c ≠ "code")) (h2 : ∀ a o, ¬ W a → h.get? a = some o → h'.get? a = some o) (x : TabOk h Q pos qual) : TabOk h' Q pos qual := by
  obtain ⟨ps, e1, e2, e3⟩ := x
  have k1 : h'.get? Q = some (tabObj ps) := h2 Q _ (fun q => (h1 Q _ q e1).elim (fun h => h ps rfl) fun ⟨c, h, _⟩ => by cases h) e1
  exact ⟨ps, k1, e2, e3.imp id fun ⟨c', e3, C⟩ => ⟨c', e3, C.keeps fun o ⟨vs, hd⟩ hc e => h2 c' o (fun q => (h1 c' o q e).elim (fun h => h vs hd) fun ⟨c, h, hn⟩ => by rw [hc] at h; cases h; exact hn rfl) e⟩⟩
theorem tab_other {Q Q' : Addr} {pos pos' : Pos} {qual qual' : Str} {h h' : Heap} (hne : Q' ≠ Q) (z : TabOk h Q pos qual) (x : TabOk h Q' pos' qual') (k : ∀ a o, a ≠ Q → h.get? a = some o → h'.get? a = some o) : TabOk h' Q' pos' qual' := by
  obtain ⟨qs, f1, _⟩ := z
  obtain ⟨ps, e1, e2, e3⟩ := x
  exact ⟨ps, k _ _ hne e1, e2, e3.imp id fun ⟨c', e3, C⟩ => ⟨c', e3, C.keeps fun o ⟨vs, hd⟩ hc e => k c' o (fun q => by rw [q, f1] at e; cases e; cases hc) e⟩⟩
section
variable {p : Program} {loose : List Str} {mean : ExcName → Option Value} {mg mb : Str → Option Value} {h₁ : Heap} {P : Params}
theorem kp_of (P : Params) : noTabs (KP P) = true ∧ codeHdIn (KP P) 75 71 = true ∧ codeHdIn (KP P) 68 64 = true := by
  have h := kp_tabs P
  rw [List.cons.injEq, List.cons.injEq, List.cons.injEq] at h
  exact ⟨h.1, h.2.1, h.2.2.1⟩
theorem tabsAt2 (KX : (KP P).In h₁) (h8 : ∀ Q ∈ ([71, 64] : List Addr), h₁.get? Q = some (tabObj #[])) : TabsAt tabs2 h₁ :=
  List.forall_mem_cons.mpr ⟨⟨codeHd_of_K KX (kp_of P).2.1, h8 71 List.mem_cons_self⟩, List.forall_mem_cons.mpr ⟨⟨codeHd_of_K KX (kp_of P).2.2, h8 64 (List.mem_cons_of_mem _ List.mem_cons_self)⟩, fun _ h => nomatch h⟩⟩
variable (KX : (KP P).In h₁) (h8 : ∀ Q ∈ ([71, 64] : List Addr), h₁.get? Q = some (tabObj #[])) (T : Top p loose mean mg mb h₁)
include KX h8
theorem KG : (KP P).In (bsOf h₁ mg mb).g := ghost_K (tabsAt2 KX h8) KX (kp_of P).1
theorem g_noT {b : Addr} (hb : b = 71 ∨ b = 64) : (bsOf h₁ mg mb).g.get? b = none := hideAll_none _ (by rcases hb with rfl | rfl <;> decide)
theorem ti_first : (bsOf h₁ mg mb).TI h₁ := ⟨⟨#[], h8 71 List.mem_cons_self, by trivial, .inl rfl⟩, ⟨#[], h8 64 (List.mem_cons_of_mem _ List.mem_cons_self), by trivial, .inl rfl⟩⟩
theorem glob_first : Glob (bsOf h₁ mg mb) h₁ := ⟨fun b o e => of_hideAll _ e, ti_first KX h8⟩
theorem tab_at {h : Heap} {a : Addr} (x : (bsOf h₁ mg mb).TI h) (ha : (bsOf h₁ mg mb).T a) : ∃ ps, h.get? a = some (tabObj ps) := by
  rcases ha with rfl | rfl
  · exact x.1.imp fun _ h => h.1
  · exact x.2.imp fun _ h => h.1
include T
theorem bs_ok : (bsOf h₁ mg mb).Ok where
  g1 := ghost_ns (tabsAt2 KX h8) T.g
  b1 := ghost_ns (tabsAt2 KX h8) T.b
  nolim := let ⟨mc, a, r⟩ := T.nolimit; ⟨mc, ghost_ns (tabsAt2 KX h8) a, r⟩
  noT := fun b o e q => by rw [g_noT KX h8 q] at e; cases e
  tf := fun h a o x ha e => by obtain ⟨ps, q⟩ := tab_at KX h8 x ha; rw [e] at q; cases q; exact ⟨_, rfl⟩
  tex := fun h a x ha => (tab_at KX h8 x ha).imp' _ fun ps e => e
  tiW := fun W h h' h1 h2 x => ⟨tab_keep h1 h2 x.1, tab_keep h1 h2 x.2⟩
theorem bui_ok {Q : Addr} (hQ : Q = 71 ∨ Q = 64) (h : Heap) (G : Glob (bsOf h₁ mg mb) h) : h.BuiltinsAt mg Q := by
  obtain ⟨bm, ob, a1, a2, a3, a4, a5, a6⟩ := T.bmain
  have hg : (bsOf h₁ mg mb).g.get? bm = some ob := ghost_get (tabsAt2 KX h8) a3 (fun q => by rw [q] at a4; cases a4)
  refine ⟨bm, ob, a1, a2, ?_, ?_, G.1 _ _ hg, a4, a5, a6⟩
  · rintro rfl
    obtain ⟨o', es, ep, y, z, _⟩ := T.g
    rw [a3] at y; cases y
    rw [a6] at z; cases z
  · rintro rfl
    rw [g_noT KX h8 hQ] at hg; cases hg
theorem not_code (h : Heap) (x : (bsOf h₁ mg mb).TI h) (a : Addr) (o : Obj) (ha : (bsOf h₁ mg mb).T a) (e : h.get? a = some o) : o.cls ≠ .type "code" := by
  obtain ⟨ps, q⟩ := tab_at KX h8 x ha
  rw [e] at q; cases q
  intro q; cases q
theorem tabB_71 : TabB (bsOf h₁ mg mb) 75 71 pos76 qual76 where
  t := .inl rfl
  of := fun h x => x.1
  to := fun h h' x k y => ⟨y, tab_other (by decide) x.1 x.2 k⟩
  hd := codeHd_of_K (KG KX h8) (kp_of P).2.1
  bu := bui_ok KX h8 T (.inl rfl)
  ne := by decide
  notCode := not_code KX h8 T
theorem tabB_64 : TabB (bsOf h₁ mg mb) 68 64 pos69 qual69 where
  t := .inr rfl
  of := fun h x => x.2
  to := fun h h' x k y => ⟨tab_other (by decide) x.2 x.1 k, y⟩
  hd := codeHd_of_K (KG KX h8) (kp_of P).2.2
  bu := bui_ok KX h8 T (.inr rfl)
  ne := by decide
  notCode := not_code KX h8 T
end
end Mine
namespace Mine
set_option genSizeOf false
set_option genInjectivity false
theorem fn_nodup : ∀ x ∈ fnL, (nm x.2.1).Nodup := by decide +kernel
section
variable {p : Program} {loose : List Str} {mean : ExcName → Option Value} {mg mb : Str → Option Value} {h₁ : Heap} {P : Params}
variable (KX : (KP P).In h₁) (h8 : ∀ Q ∈ ([71, 64] : List Addr), h₁.get? Q = some (tabObj #[])) (T : Top p loose mean mg mb h₁) {x : Addr × List String × String}
include KX h8
theorem fnOk_of (hx : x ∈ fnL) : FnOk (bsOf h₁ mg mb) x.1 (fdOf (KP P) x.1) (nm x.2.1) (defOf' x.2.2).2.1 ∧ (fdOf (KP P) x.1).scope = (defOf' x.2.2).2.2 := by
  have e := List.map_inj_left.mp (fn_all P) x hx
  simp only [fnD, fnE, Prod.mk.injEq] at e
  obtain ⟨e1, e2, e3, e4, e5, e6, e7, e8, e9⟩ := e
  refine ⟨{ obj := ⟨_, KG KX h8 _ _ e1, e2⟩, hbody := e3, clo := e5, gl := e6, bu := e7, code := fun h G => codeRec_of (K := KP P) (fun b o e => G.1 _ _ (KG (mg := mg) (mb := mb) KX h8 b o e)) (and1 e9), co := Bool.not_eq_true' _ ▸ and1 (and2 e9), gen := Bool.not_eq_true' _ ▸ and1 (and2 (and2 e9)), kind := e8, nofree := fun y hy q => ?_, nodup := fn_nodup x hx, kinds := fun y hy => ?_ }, e4⟩
  · have := List.all_eq_true.mp (and1 (and2 (and2 (and2 e9)))) y hy
    rw [q] at this; cases this
  · have h := List.all_eq_true.mp (and2 (and2 (and2 (and2 e9)))) y hy
    unfold stoQ at h
    split at h
    · rename_i e; exact .inl e
    · rename_i e; exact .inr e
    · cases h
theorem fnB_of {prog : Program} {w : World} (hx : x ∈ fnL) (hb : ∀ vals : List Value, vals.length = x.2.1.length → bindArgs (fdOf (KP P) x.1) ⟨vals, []⟩ = pure ((nm x.2.1).zip vals)) : FnB prog w (bsOf h₁ mg mb) x.1 (nm x.2.1) (defOf' x.2.2) := by
  obtain ⟨h1, h2⟩ := fnOk_of (mg := mg) (mb := mb) KX h8 hx
  refine ⟨_, h1, h2, fun G hl q => ?_⟩
  rw [List.append_nil] at q
  rw [hb _ (hl.trans (List.length_map ..))]
  exact wpAny_pure q
theorem fnB1 {prog : Program} {w : World} (hx : x ∈ ar1) : FnB prog w (bsOf h₁ mg mb) x.1 (nm x.2.1) (defOf' x.2.2) := by
  obtain ⟨h1, h2⟩ := List.mem_filter.mp hx
  refine fnB_of KX h8 h1 fun vals hl => ?_
  rw [eq_of_beq h2] at hl
  rcases vals with _ | ⟨u, _ | ⟨v, l⟩⟩
  · cases hl
  · exact List.map_inj_left.mp (congrArg Prod.fst (bind_all P u u u)) x hx
  · cases hl
theorem bind2 (hx : x ∈ ar2) (vals : List Value) (hl : vals.length = x.2.1.length) : bindArgs (fdOf (KP P) x.1) ⟨vals, []⟩ = pure ((nm x.2.1).zip vals) := by
  obtain ⟨h1, h2⟩ := List.mem_filter.mp hx
  rw [eq_of_beq (and1 h2)] at hl
  rcases vals with _ | ⟨u, _ | ⟨v, _ | ⟨z, l⟩⟩⟩
  · cases hl
  · cases hl
  · exact List.map_inj_left.mp (congrArg (fun z => z.2.1) (bind_all P u v u)) x hx
  · cases hl
theorem fnB2 {prog : Program} {w : World} (hx : x ∈ ar2) : FnB prog w (bsOf h₁ mg mb) x.1 (nm x.2.1) (defOf' x.2.2) :=
  fnB_of KX h8 (List.mem_filter.mp hx).1 (bind2 KX h8 hx)
theorem fnB3 {prog : Program} {w : World} (hx : x ∈ ar3) : FnB prog w (bsOf h₁ mg mb) x.1 (nm x.2.1) (defOf' x.2.2) := by
  obtain ⟨h1, h2⟩ := List.mem_filter.mp hx
  refine fnB_of KX h8 h1 fun vals hl => ?_
  rw [eq_of_beq h2] at hl
  rcases vals with _ | ⟨u, _ | ⟨v, _ | ⟨z, _ | ⟨y, l⟩⟩⟩⟩
  · cases hl
  · cases hl
  · cases hl
  · exact List.map_inj_left.mp (congrArg (fun z => z.2.2) (bind_all P u v z)) x hx
  · cases hl
theorem hbind2 {prog : Program} {w : World} (hx : x ∈ ar2) (h2 : x.2.1.length = 2) : HBind prog w (bsOf h₁ mg mb) (fdOf (KP P) x.1) (nm x.2.1) 2 [] := fun {A s vals Q E} G hl q => by
  rw [List.append_nil] at q
  rw [bind2 KX h8 hx vals (hl.trans h2.symm)]
  exact wpAny_pure q
theorem pat_of {a c : Addr} {code : Array Nat} {groups : Nat} (h : ((KP P).lookup a, (objAt (KP P) a).cls, (objAt (KP P) a).dict, (objAt (KP P) a).data, Builtin.Re.reRawNat ((fsOf (KP P) a).getD 6 .none), Builtin.Re.reRawNat ((fsOf (KP P) a).getD 2 .none), (fsOf (KP P) a).getD 5 .none, (KP P).lookup c, (objAt (KP P) c).data, ((seqOf (KP P) c).1.map Builtin.Re.reRawOf).map (·.toNat)) =
    (some (objAt (KP P) a), .type "re.Pattern", none, .fields (fsOf (KP P) a), 0, groups, .ref c, some (objAt (KP P) c), .seq (seqOf (KP P) c).1 (seqOf (KP P) c).2, code)) : Pat (bsOf h₁ mg mb).g a code groups := by
  simp only [Prod.mk.injEq] at h
  obtain ⟨h1, h2, h3, h4, h5, h6, h7, h8', h9, h10⟩ := h
  exact ⟨_, _, _, _, _, _, KG KX h8 _ _ h1, h2, h3, h4, by rw [h5]; decide, h6, h7, KG KX h8 _ _ h8', h9, h10⟩
include T
theorem globs_ok {prog : Program} {w : World} {k : Nat} {O : (bsOf h₁ mg mb).Ok} : GlobOk ⟨prog, w, bsOf h₁ mg mb, k, O⟩ := by
  intro y q h
  obtain ⟨n, hm, hn⟩ := List.exists_of_findSome?_eq_some h
  obtain ⟨n, q'⟩ := n
  split at hn
  · rename_i e
    obtain rfl : q' = q := Option.some.inj hn
    obtain rfl : y = Str.ofString n := eq_of_beq e
    have h1 := List.map_inj_left.mp (gl_all P) _ hm
    have h2 := List.all_eq_true.mp gl_kind _ hm
    rw [Prod.mk.injEq] at h1
    obtain ⟨h1, h3⟩ := h1
    have hb : ∀ v, gb q' = some v → gv q' = none → mg (Str.ofString n) = none ∧ mb (Str.ofString n) = some v := fun v e1 e2 => by
      dsimp only at h1 h3
      rw [e2] at h1
      rw [e1] at h3
      exact ⟨mg_none_of KX T.g h1, (T.builtins _ (bne_iff_ne.mp (and2 h2))).trans h3⟩
    have hg : ∀ v, gv q' = some v → mg (Str.ofString n) = some v := fun v e1 => by
      dsimp only at h1
      rw [e1] at h1
      exact mg_of KX T.g h1
    cases q' with
    | obj a => exact ⟨_, .obj _, .inl (hg _ rfl)⟩
    | str s => exact ⟨_, .str _ _, .inl (hg _ rfl)⟩
    | int i => exact ⟨_, .int _ _, .inl (hg _ rfl)⟩
    | bi id => exact ⟨_, .bi _, .inr (hb _ rfl rfl)⟩
    | ty id => exact ⟨_, .ty _, .inr (hb _ rfl rfl)⟩
    | _ => cases and1 h2
  · cases hn
end
end Mine
namespace Mine
set_option genSizeOf false
set_option genInjectivity false
section
variable {p : Program} {loose : List Str} {mean : ExcName → Option Value} {mg mb : Str → Option Value} {h₁ : Heap} {prog : Program} {w : World}
variable (KX : (KP w.params).In h₁) (h8 : ∀ Q ∈ ([71, 64] : List Addr), h₁.get? Q = some (tabObj #[])) (T : Top p loose mean mg mb h₁)
include KX h8
theorem stages_ok {k : Nat} {O : (bsOf h₁ mg mb).Ok} : StagesOk ⟨prog, w, bsOf h₁ mg mb, k, O⟩ :=
  ⟨_, mapOf_K (K := KP w.params) (a := 103) (es := (esOf (KP w.params) 103).1) (n := (esOf (KP w.params) 103).2) (KG KX h8) (by kernel_rfl) (by
    refine ⟨⟨_, _, rfl, rfl⟩, ⟨_, _, rfl, rfl⟩, ⟨_, _, rfl, rfl⟩, ⟨_, _, rfl, rfl⟩, ⟨_, _, rfl, rfl⟩, ⟨_, _, rfl, rfl⟩, ⟨_, _, rfl, rfl⟩, ⟨_, _, rfl, rfl⟩, ⟨_, _, rfl, rfl⟩, ⟨_, _, rfl, rfl⟩, trivial⟩), by kernel_rfl⟩
theorem bind118 (vs : List Value) (bs : List (Str × Value)) (h : ∃ k : Option (Array Value) → Sem (List (Str × Value)), bindArgs (fdOf (KP w.params) 118) ⟨vs, []⟩ = (seqItems? (fdOf (KP w.params) 118).defaults >>= k) ∧ k (some (seqOf (KP w.params) 111).1) = pure bs) {A : Around} {s : Shared} {Q : List (Str × Value) → Shared → Prop} {E : Value → Shared → Prop} (G : Glob (bsOf h₁ mg mb) s.heap) (q : Q bs s) : wpAny (model prog w) A (bindArgs (fdOf (KP w.params) 118) ⟨vs, []⟩) Q E s := by
  obtain ⟨k, h1, h2⟩ := h
  exact BindsTo.of_defaults (s := s) (fd := fdOf (KP w.params) 118) (T := 111) (items := (seqOf (KP w.params) 111).1) (n := (seqOf (KP w.params) 111).2) (by kernel_rfl) (G.1 _ _ (KG (mg := mg) (mb := mb) KX h8 111 (objAt (KP w.params) 111) (by kernel_rfl))) (by kernel_rfl) h1 h2 _ A E Q q
theorem hb118 : HBind prog w (bsOf h₁ mg mb) (fdOf (KP w.params) 118) (nm ["version", "build"]) 2 [] := fun {A s vals Q E} G hl q => by
  rcases vals with _ | ⟨u, _ | ⟨v, _ | ⟨z, l⟩⟩⟩
  · cases hl
  · cases hl
  · exact bind118 KX h8 [u, v] _ ⟨_, rfl, by kernel_rfl⟩ G q
  · cases hl
theorem hb118d : HBind prog w (bsOf h₁ mg mb) (fdOf (KP w.params) 118) (nm ["version", "build"]) 1 [(seqOf (KP w.params) 111).1.getD 0 .none] := fun {A s vals Q E} G hl q => by
  rcases vals with _ | ⟨u, _ | ⟨v, l⟩⟩
  · cases hl
  · exact bind118 KX h8 [u] _ ⟨_, rfl, by kernel_rfl⟩ G q
  · cases hl
include T
theorem base_of : Base prog w (bsOf h₁ mg mb) where
  ok := bs_ok KX h8 T
  glob := fun k => globs_ok KX h8 T
  stages := fun k => stages_ok KX h8
  p36 := pat_of (P := w.params) (c := 35) KX h8 (by kernel_rfl)
  p41 := pat_of (P := w.params) (c := 40) KX h8 (by kernel_rfl)
  p102 := pat_of (P := w.params) (c := 101) KX h8 (by kernel_rfl)
  f48 := fnB1 KX h8 (x := (48, ["data"], "quotedata")) (by decide +kernel)
  f55 := fnB3 KX h8 (x := (55, ["a", "b", "n"], "_div2n1n")) (by decide +kernel)
  f69 := have h := fnOk_of (mg := mg) (mb := mb) KX h8 (x := (69, ["a", "n"], "_int2digits")) (by decide +kernel)
    ⟨_, 68, 64, tabB_64 KX h8 T, h.1, h.2, by kernel_rfl, by kernel_rfl, hbind2 KX h8 (x := (69, ["a", "n"], "_int2digits")) (by decide +kernel) rfl⟩
  f76 := have h := fnOk_of (mg := mg) (mb := mb) KX h8 (x := (76, ["digits", "n"], "_digits2int")) (by decide +kernel)
    ⟨_, 75, 71, tabB_71 KX h8 T, h.1, h.2, by kernel_rfl, by kernel_rfl, hbind2 KX h8 (x := (76, ["digits", "n"], "_digits2int")) (by decide +kernel) rfl⟩
  f83 := fnB2 KX h8 (x := (83, ["a", "b"], "_divmod_pos")) (by decide +kernel)
  f90 := fnB2 KX h8 (x := (90, ["a", "b"], "int_divmod")) (by decide +kernel)
  f97 := fnB1 KX h8 (x := (97, ["num"], "Int2AP")) (by decide +kernel)
  f110 := fnB1 KX h8 (x := (110, ["version"], "_comparable_version")) (by decide +kernel)
  f118 := have h := fnOk_of (mg := mg) (mb := mb) KX h8 (x := (118, ["version", "build"], "_norm_version")) (by decide +kernel)
    ⟨_, [(seqOf (KP w.params) 111).1.getD 0 .none], h.1, h.2, hb118 KX h8, .cons (show Rel _ _ (.str (Str.ofString "") 536) _ from .str _ _) .nil, hb118d KX h8⟩
  f123 := fnB1 KX h8 (x := (123, ["cell"], "_law_line")) (by decide +kernel)
  f128 := fnB2 KX h8 (x := (128, ["family", "cell"], "_law_multiples")) (by decide +kernel)
  f135 := fnB2 KX h8 (x := (135, ["many", "some"], "_law_over")) (by decide +kernel)
  f142 := fnB3 KX h8 (x := (142, ["count", "size", "cell"], "_law_grown")) (by decide +kernel)
  f147 := fnB1 KX h8 (x := (147, ["script"], "law")) (by decide +kernel)
end
end Mine
namespace Mine
set_option genSizeOf false
set_option genInjectivity false
theorem ends_cl {prog : Program} {w : World} {t : Sem Fin} {s : Shared} {R : Result → Shared → Prop} (hreg : s.asleep)
    (h : wpX true (model prog w) callerA t (fun fin s' => ∃ f, fin = .done f ∧ R (.ok f) s' ∧ leftWithCleanup s'.gens = false) (fun e s' => R (.error e) s' ∧ leftWithCleanup s'.gens = false) s) :
    ∃ n r s' s'', runN (denote table) prog w n s ⟨t, .builtin "claim.caller" {}, default, []⟩ = .halted (outcomeOf r) s' ∧
      schedN (denote table) prog w n (.single s ⟨t, .builtin "claim.caller" {}, default, []⟩) = .halted (outcomeOf r) s' ∧ s'.forget = s''.forget ∧ R r s'' := by
  have h' := h ⟨.builtin "claim.caller" {}, none, none, [], none⟩ default caller_in fun _ => rfl
  have h2 : Sem.wp (model prog w) ⟨.builtin "claim.caller" {}, none, none, [], none⟩ t (Sem.finPost (model prog w) ⟨.builtin "claim.caller" {}, none, none, [], none⟩ fun r s' => R r s' ∧ leftWithCleanup s'.gens = false) (fun e _ s' => R (.error e) s' ∧ leftWithCleanup s'.gens = false) default s :=
    Sem.wp_mono _ _ _ (fun fin p s' q => by obtain ⟨f, rfl, q⟩ := q; exact q) (fun _ _ _ q => q) _ _ h'
  obtain ⟨n, r, s₁, s₂, a, b, c, d⟩ := wp_halts_full (M := model prog w) hreg h2
  exact ⟨n, r, s₂, s₁, b, a, c, d⟩
theorem callFrom_cl {c : ClaimW} {tree : List Value → Sem Fin} {w : World} {s : Shared} {free : Addr → Prop} {gens : Prop} {kept : Heap → Prop} (hz : s.asleep) (hgens : s.gens = #[])
    (spec : ∀ args, c.pre args = true → WData.layableAll args = true → ∀ ord : List DictEntry → List DictEntry, (∀ l, (ord l).Perm l) →
      ∃ vs s₁, layAllW c.records (classAt s.heap) w.params ord args s = some (vs, s₁) ∧
        wpX true (model c.prog w) callerA (tree vs) (fun fin s' => ∃ f, fin = .done f ∧ c.Ends s args vs s₁ (.ok f) s' ∧ s'.os = s.os ∧ AllBare s'.gens ∧ kept s'.heap)
          (fun e s' => c.Ends s args vs s₁ (.error e) s' ∧ s'.os = s.os ∧ AllBare s'.gens ∧ kept s'.heap) s₁) :
    c.CallFrom (fun vs => ⟨tree vs, .builtin "claim.caller" {}, default, []⟩) w free gens kept s := by
  intro args hpre hlay ord hord
  obtain ⟨vs, s₁, laid, code⟩ := spec args hpre hlay ord hord
  have hal := layAllW_rest _ _ _ laid
  have awake : s₁.asleep := Shared.asleep_of_life hal.2.2.2 hz
  have code' := wpX_mono (Q' := fun fin s' => ∃ f, fin = .done f ∧ (c.Ends s args vs s₁ (.ok f) s' ∧ s'.os = s.os ∧ kept s'.heap) ∧ leftWithCleanup s'.gens = false) (E' := fun e s' => (c.Ends s args vs s₁ (.error e) s' ∧ s'.os = s.os ∧ kept s'.heap) ∧ leftWithCleanup s'.gens = false) code
    (fun fin s' ⟨f, e, q1, q2, q3, q4⟩ => ⟨f, e, ⟨q1, q2, q4⟩, leftWithCleanup_false_of_bare q3⟩) fun e s' ⟨q1, q2, q3, q4⟩ => ⟨⟨q1, q2, q4⟩, leftWithCleanup_false_of_bare q3⟩
  obtain ⟨k, r, s', s'', hrun, hsched, hfo, hcase, hos, hkp⟩ := ends_cl (prog := c.prog) (w := w) (R := fun r s' => c.Ends s args vs s₁ r s' ∧ s'.os = s.os ∧ kept s'.heap) awake code'
  obtain ⟨eh, _, _, eo, _⟩ := Shared.forget_eq hfo
  have hcase := hcase.congr eh
  rw [← eh] at hkp
  rw [← eo] at hos
  have hlife : s'.heap.life = s.heap.life := (runN_life _ _ _ hrun).trans hal.2.2.2
  refine ⟨vs, s₁, laid, k, _, s', hsched, ?_, (fun _ i x hx => by rw [hgens] at hx; simp at hx), hkp, by rw [hlife], Shared.rest_eq hos⟩
  rcases hcase with ⟨v, rfl, d1, d2, d3, d4, d5⟩ | ⟨e, ob, cls, rfl, d1, d2, d3, d4, d5⟩
  · exact .inl ⟨v, rfl, d1, d2, d3, fun b o y _ => d4 b o y, d5⟩
  · exact .inr ⟨e, ob, cls, rfl, d1, d2, d3, d4, fun b o y _ => d5 b o y⟩
noncomputable abbrev WalkCl (q : Program) (loose : List Str) (XP : (Str → Option Value) → Heap → Prop) (YP : World → Heap → Prop) (r : RowW) (d : DefRec) (kwd : List (Str × Expr)) : Prop :=
  ∀ (w : World) (s₀ s₁ : Shared) (mg mb : Str → Option Value), Ground q loose r.records XP w s₀ mg mb s₁.heap → YP w s₁.heap → ∀ (a : Addr) (o : Obj) (pm cd doc dV kV : Value), s₁.heap.get? a = some o →
    o.data = .func { docDef d.name d.params d.body d.scope pm cd doc with defaults := dV, kwdefaults := kV } → s₁.heap.CodeRec cd d.name → Dflts mg s₁.heap d.params kwd dV kV → mg d.name = some (.ref a) → s₁.gens = #[] →
    ∀ (args : List WData) (vals : List Value) (as : List Addr), r.claim.pre args = true → WData.layableAll args = true → ReadsAllW r.records (classAt s₀.heap) s₁.heap vals args as → WellAll w.params s₁.heap vals args → (∀ a ∈ as, (a == sysModules) = false) →
      wpX true (model r.prog w) callerA (PySem.call (.ref a) vals) (fun v s' => GoodWG r.claim (classAt s₀.heap) (ExcName.means s₀.heap) args s₁ (.ok (.ret v)) s')
        (fun e s' => GoodWG r.claim (classAt s₀.heap) (ExcName.means s₀.heap) args s₁ (.error e) s') s₁
theorem holds_cl {r : OpenRow} {q : Program} {loose : List Str} {Xt : Shared → Bool} {XP : (Str → Option Value) → Heap → Prop} {α : Type} {Yf : Shared → α} {Ya : World → α} {YP : World → Heap → Prop} {d : DefRec} {kwd : List (Str × Expr)} {N : Nat}
    (left : LeftO r.prog q loose Xt Yf Ya N) (hY : ∀ w s, Yf s = Ya w → YP w s.heap) (hYk : ∀ w h h', YP w h → (∀ b o, h.get? b = some o → h'.get? b = some o) → YP w h')
    (hX : ∀ s, Xt s = true → XP (s.heap.nsMap mainGlobals) s.heap) (hXk : ∀ mg h h', XP mg h → (∀ b o, h.get? b = some o → h'.get? b = some o) → XP mg h')
    (hdef : defOf q r.name = some (d, kwd)) (hp : r.prog.theDef r.name = some (d.params, d.body, d.scope)) (hk : kwWritten? d.params.kwonlyargs d.params.kw_defaults = some kwd) (hRf : ∀ s, Xt s = true → RecFacts r.records s.heap) (hwr : (!r.writes || r.records.isEmpty) = true)
    (k1 : r.wellSaid = true) (ok : (chainsOk q && opensWell r.prog && (frees r.toRowW && r.within.isEmpty)) = true) (hb : r.prog.bare) (hw : r.toRowW.promised)
    (call : WalkCl q loose XP YP r.toRowW d kwd) : r.Holds := by
  simp only [Bool.and_eq_true] at ok
  obtain ⟨⟨hch, o1⟩, k5, k6⟩ := ok
  obtain ⟨hsame, hu, ha, hap, hm⟩ := frees_parts k5
  refine ⟨k1, hw, ⟨hb, o1, by show r.makers.map _ = []; rw [hm]; rfl⟩, hw.witness, fun w => ?_⟩
  have behind := left.behind (XP := fun mg h => XP mg h ∧ RecFacts r.records h) (fun s hs => ⟨hX s hs, hRf s hs⟩) hch w
  refine ⟨behind.1, fun s' hs' => ?_⟩
  obtain ⟨s₀, hf, hg0, s, hT, hz, hgens, hg, G00, y⟩ := behind.2 s' hs'
  have G0 : Ground q loose [] XP w s (s.heap.nsMap mainGlobals) (s.heap.nsMap builtinsNs) s.heap := { G00 with X := G00.X.1 }
  have RF := G00.X.2
  refine ⟨s₀, hf, hg0, s, hT, fun n hn => ?_, RF.1, RF.2.1, ?_⟩
  · obtain rfl : n = r.name := by split at hn <;> simp_all
    exact pinned_of_view hg G0 hdef hp hk
  · have hgens : s.gens = #[] := Array.eq_empty_of_size_eq_zero (beq_iff_eq.mp hgens)
    have G : Ground q loose r.records XP w s _ _ s.heap := RF.ground G0
    refine callFrom_cl (c := r.claim) hz hgens fun args hpre hlay ord hord => ?_
    obtain ⟨⟨vs, s₁⟩, laid⟩ := Option.isSome_iff_exists.mp (layAllW_isSome (P := w.params) (ord := ord) G.has args r.args s (pre_splitW hpre).1)
    have keeps := layAllW_keeps _ _ _ laid
    have hal := layAllW_rest _ _ _ laid
    obtain ⟨as, hrd, hin, hold⟩ := reads_layAllW hord _ _ _ laid hlay s₁.heap (fun _ _ e => e)
    have L : Laid r.records w s s₁ args vs as := ⟨⟨ord, hord, laid⟩, hrd, hin, hold, keeps, hal.1.trans hgens, hal.2.2.1⟩
    have G₁ := G.keeps hXk keeps
    obtain ⟨a, o, pm, cd, doc, dV, kV, h1, h2, h3, h4, h5⟩ := G₁.fn hdef
    have hcall := call w s s₁ _ _ G₁ (hYk _ _ _ (hY w s y) keeps) a o pm cd doc dV kV h2 h3 h4 h5 (defOf_name hdef ▸ h1) L.gens args vs as hpre hlay L.reads L.well (L.low G.low)
    have hi := ident_freeW hu ha hap
    have hwi : r.claim.within = [] := List.isEmpty_iff.mp k6
    have fin : ∀ {res s'}, GoodWG r.claim (classAt s.heap) (ExcName.means s.heap) args s₁ res s' → r.claim.Ends s args vs s₁ res s' ∧ s'.os = s.os ∧ AllBare s'.gens ∧ (r.writes = true → namesKept r.prog r.keeps s.heap s'.heap ∧ ∀ x ∈ r.records, ∀ a, classAt s.heap x.1 = some a → recordClass s'.heap a x.1 (x.2.map (·.1)) = true) := fun g =>
      have z := g.laid (c := r.claim) hsame hwi hi L
      ⟨z.1, z.2.1, z.2.2, fun q => ⟨namesKept_of hT hg r.keeps keeps g.2.1.old, noTable hwr q⟩⟩
    refine ⟨vs, s₁, laid, ?_⟩
    refine wpX_then (wpAny_nsGet G₁.T.g ?_)
    rw [h1]
    exact wpX_bind (wpX_mono hcall (fun v s' g => wpX_pure ⟨_, rfl, fin g⟩) fun e s' g => fin g)
end Mine
namespace Mine
set_option genSizeOf false
set_option genInjectivity false
noncomputable def addrs : List Addr := [2, 3, 6, 11, 12, 35, 36, 40, 41, 42, 44, 45, 47, 48, 49, 51, 52, 54, 55, 56, 58, 59, 61, 62, 63, 65, 66, 68, 69, 70, 72, 73, 75, 76, 77, 79, 80, 82, 83, 84, 86, 87, 89, 90, 91, 93, 94, 96, 97, 101, 102, 103, 104, 106, 107, 109, 110, 111, 112, 114, 115, 117, 118, 119, 122, 123, 124, 127, 128, 129, 131, 132, 134, 135, 136, 138, 139, 141, 142, 143, 146, 147]
noncomputable def looseN : List Str := [Str.ofString "twin_re_1_smtplib", Str.ofString "_twin_re_2", Str.ofString "twin_re_1_platform", Str.ofString "_ver_stages", Str.ofString "_norm_version"]
noncomputable def hookL : Hook := kmHook tp.heap_1 addrs (fun _ => by kernel_rfl) [71, 64]
noncomputable abbrev rowL : OpenRow := PySem.Challenge.rw_wv0016_01.row
noncomputable def XtL (s : Shared) : Bool := xlAt tp.view_1 [] s && recOk (RowW.records rowL.toRowW) s
theorem leftL : LeftO rowL.prog tp.view_1 looseN XtL (Hook.obs hookL) (Hook.val hookL) 2018 := LeftO.of_split "special-get-raises" tp._proof_4
noncomputable def lawDK : DefRec × List (Str × Expr) := (defOf tp.view_1 rowL.name).get (by kernel_rfl)
noncomputable abbrev lw : OpenLaw := PySem.Challenge.rw_wv0016_01
theorem lk3 : namesResolve lw.row.prog = true := by kernel_rfl
theorem lk4 : lw.row.prog.boundNames.all (fun n => !worldNames.contains n) = true := by kernel_rfl
theorem lk5 : noRoadLSs { strict := !(importedModules lw.row.prog.main.body).all cThrough.contains, foot := none, bare := (["vars", "dir", "locals"] : List Str).filter (readsOut lw.row.prog lw.row.prog.main.body) } lw.row.prog.main.body = true := by kernel_rfl
theorem lk6 : namesMeet lw.row.prog lw.row.prog.main.body (fun _ n => attrL n) = true := by kernel_rfl
theorem lk7 : looksOpen lw.row.prog = true := look_both (look_both (look_both (look_both (look_both (by kernel_rfl) (by kernel_rfl)) lk3) lk4) lk5) lk6
theorem and3 {a1 a2 a3 : Bool} (h1 : a1 = true) (h : (a2 && a3) = true) : (a1 && a2 && a3) = true := by
  rw [h1, Bool.true_and]
  exact h
theorem and14 {a1 a2 a3 a4 a5 a6 a7 a8 a9 a10 a11 a12 a13 a14 : Bool} (h1 : a1 = true) (h : (a2 && a3 && a4 && a5 && a6 && a7 && a8 && a9 && a10 && a11 && a12 && a13 && a14) = true) : (a1 && a2 && a3 && a4 && a5 && a6 && a7 && a8 && a9 && a10 && a11 && a12 && a13 && a14) = true := by
  rw [h1, Bool.true_and]
  exact h
theorem and19 {a1 a2 a3 a4 a5 a6 a7 a8 a9 a10 a11 a12 a13 a14 a15 a16 a17 a18 a19 : Bool} (h1 : a1 = true) (h : (a2 && a3 && a4 && a5 && a6 && a7 && a8 && a9 && a10 && a11 && a12 && a13 && a14 && a15 && a16 && a17 && a18 && a19) = true) : (a1 && a2 && a3 && a4 && a5 && a6 && a7 && a8 && a9 && a10 && a11 && a12 && a13 && a14 && a15 && a16 && a17 && a18 && a19) = true := by
  rw [h1, Bool.true_and]
  exact h
theorem lk8 : lw.row.partSaid = true := by
  unfold OpenRow.partSaid
  refine and14 lk7 ?_
  kernel_rfl
theorem lk9 : lw.row.wellSaid = true := by
  unfold OpenRow.wellSaid
  refine and3 lk8 ?_
  kernel_rfl
theorem lw_said : lw.wellSaid = true := by
  unfold OpenLaw.wellSaid
  refine and19 lk9 ?_
  kernel_rfl
theorem holdsCl (call : WalkCl tp.view_1 looseN (XL tp.view_1 []) (Hook.says hookL) rowL.toRowW lawDK.1 lawDK.2) : PySem.Challenge.rw_wv0016_01.Holds := by
  refine holds_law lw_said fun said => ?_
  refine holds_cl (q := tp.view_1) (loose := looseN) (Xt := XtL) (XP := XL tp.view_1 []) (Yf := Hook.obs hookL) (Ya := Hook.val hookL) (YP := Hook.says hookL) (N := 2018) (d := lawDK.1) (kwd := lawDK.2) leftL (Hook.of hookL) (Hook.keeps hookL)
    (fun s e => xl_of s (Bool.and_eq_true_iff.mp e).1) XL.keeps (by kernel_rfl) (by kernel_rfl) (by kernel_rfl) (fun s e => recFacts_of (Bool.and_eq_true_iff.mp e).2) (by kernel_rfl) (by first | assumption | decide +kernel) (by decide +kernel) ⟨rfl, rfl, rfl, rfl, rfl, by decide +kernel⟩ ?hw call
  case hw => w_witness2
theorem gl_law (P : Params) : nsIn (KP P) mainGlobals (Str.ofString "law") = some (some (.ref 147)) := by kernel_rfl
theorem law_name : lawDK.1.name = Str.ofString "law" := by kernel_rfl
theorem rels_ints {ok : Addr → Prop} {h : Heap} : ∀ {vs : List Value} {xs : List Int}, IntsAre vs xs → Rels ok h vs (xs.map .int)
  | _, _, .nil => .nil
  | _, _, .cons _ _ h => .cons (.int _ _) (rels_ints h)
end Mine
namespace Mine
set_option genSizeOf false
set_option genInjectivity false
theorem walkL : WalkCl tp.view_1 looseN (XL tp.view_1 []) (Hook.says hookL) rowL.toRowW lawDK.1 lawDK.2 := by
  w_on
  intro w s₀ s₁ mg mb G Y fa o pm cd doc dV kV ho hd hcd hD hmg hg args vals as hpre hlay hrd hwl hlo
  have KX := km_in_of Y
  have h8 := km_tabs_of Y
  refine Ground.open G ?_
  intro T B D TE TW
  have e147 := mg_of KX T.g (gl_law w.params)
  rw [← law_name, hmg] at e147
  cases e147
  clear G Y B D TE TW ho hd hcd hD hmg
  wrow_args hpre hlay hrd hwl hlo
  rename_i xs _ _ _ _ _ _ _ L vs _ hL _ _ _ hI _ hlen _
  have hx : xs.length ≤ 63 := by (first | lia | omega)
  have b := base_of (prog := rowL.prog) (w := w) KX h8 T
  have hspec := @Base.spec147 rowL.prog w _ b xs hx plain147
  refine wpX_call (codeX_mono (hspec (A := callerA) (outer := []) (s := s₁) (vs := [.ref L]) (ok := fun _ => True) ⟨rfl, (show callerA.depth + 29 ≤ 500 by decide), (show callerA.units + 50 * 29 ≤ 5000 by decide)⟩ (fun _ => ⟨rfl, fun _ h => nomatch h⟩) (glob_first KX h8) (fun _ h => nomatch h) (.cons ⟨L, vs, rfl, hL, rels_ints hI⟩ .nil)) fun res s' q => ?_)
  obtain ⟨v, rfl, hv, GS⟩ := q
  cases hv
  obtain ⟨h', tk, rfl, keep, _, ti⟩ := GS
  have hti : TabOk h' 71 pos76 qual76 ∧ TabOk h' 64 pos69 qual69 := ti (ti_first KX h8)
  have grown : ∀ q ∈ tabs2, ∃ ps, h'.get? q.2 = some (tabObj ps) := fun q hq => by
    rcases List.mem_cons.mp hq with rfl | hq
    · exact hti.1.imp fun _ h => h.1
    rcases List.mem_cons.mp hq with rfl | hq
    · exact hti.2.imp fun _ h => h.1
    cases hq
  have kp : ∀ b o, b ∉ tabs2.map (·.2) → s₁.heap.get? b = some o → h'.get? b = some o := fun b o hb e => keep b o (fun h => nomatch h) (fun q => hb (by rcases q with rfl | rfl <;> decide)) e
  have hT := tabsAt2 KX h8
  have gr : ∀ b o, b ∈ tabs2.map (·.2) → s₁.heap.get? b = some o → isCodeTable s₁.heap b ∧ o = tabObj #[] ∧ ∃ ps, h'.get? b = some (tabObj ps) := fun b o hb e => by
    obtain ⟨q, hq, rfl⟩ := List.mem_map.mp hb
    have e2 := (hT q hq).2
    rw [e] at e2
    exact ⟨((hT q hq).1.tab (hT q hq).2).isCodeTable, Option.some.inj e2, grown q hq⟩
  refine ⟨.inl ⟨_, .bool true, [], rfl, fun _ => rfl, .bool _, ?_, fun _ => ⟨List.nodup_nil, fun a ha => nomatch ha⟩⟩, ⟨fun b o e => ?_, fun b o e => ?_⟩, rfl, .of_eq hg⟩
  · wrow_post
  · by_cases hb : b ∈ tabs2.map (·.2)
    · obtain ⟨ht, rfl, ps, hP⟩ := gr b o hb e
      exact .inr (.inl ⟨ht, rfl, #[], ps, rfl, by rw [Array.empty_append]; exact hP⟩)
    · exact .inl (kp b o hb e)
  · by_cases hb : b ∈ tabs2.map (·.2)
    · obtain ⟨_, _, ps, hP⟩ := gr b o hb e
      exact ⟨_, hP⟩
    · exact ⟨o, kp b o hb e⟩
end Mine
theorem PySem.Challenge.cw_wv0016_01_holds : PySem.Challenge.rw_wv0016_01.Holds := by
  exact Mine.holdsCl Mine.walkL
