import PyProof.Rows.All
import Wide.All
import OpenK.AllK
import Wide.FinOn
import PyProof.GenObj
import PyProof.GenQ
import PyProof.ListNew
import PyProof.EqKinds
import PyProof.CompFree
import PyProof.StrWalks
import PyProof.WalksMore
import KE.KLcPair
import PyProof.ForRange
import PyProof.EnumFor
import PyProof.EnumMake
import PyProof.EnumStmt
import PyProof.EqLayable
import PyProof.CompUse
import Wide.Txt
import PyProof.StrLawsLines
import PyProof.Cells
import PyProof.SliceList
import PyProof.SliceMore
import PyProof.Rows.SeqSliceW
import PySem.Challenge.RW_co0043_01
set_option Elab.async false
set_option autoImplicit false
set_option maxRecDepth 100000
namespace Mine
open PySem PySem.W PySem.Calls PyProof.Rows PySem.Spec

/-- abstract data -/
inductive AV where
  | none
  | bool (b : Bool)
  | int (i : Int)
  | str (x : Str)
  | tup (vs : List AV)

mutual
inductive Den (h : Heap) : Value → AV → Prop
  | none : Den h .none .none
  | bool (b : Bool) : Den h (.bool b) (.bool b)
  | int (i : Int) (t : Tok) : Den h (.int i t) (.int i)
  | str (x : Str) (t : Tok) : Den h (.str x t) (.str x)
  | tup {a : Addr} {vs : List Value} {ds : List AV} : IsTup h a vs.toArray → Dens h vs ds → Den h (.ref a) (.tup ds)
inductive Dens (h : Heap) : List Value → List AV → Prop
  | nil : Dens h [] []
  | cons {v : Value} {vs : List Value} {d : AV} {ds : List AV} : Den h v d → Dens h vs ds → Dens h (v :: vs) (d :: ds)
end

/-- tuples are kept -/
def TP (h h' : Heap) : Prop := ∀ b o, h.get? b = some o → o.cls = .type "tuple" → (∃ its n, o.data = .seq its n) → h'.get? b = some o
theorem TP.refl (h : Heap) : TP h h := fun _ _ e _ _ => e
theorem TP.trans {h₁ h₂ h₃ : Heap} (x : TP h₁ h₂) (y : TP h₂ h₃) : TP h₁ h₃ := fun b o e c d => y b o (x b o e c d) c d
theorem TP.of_keeps {h h' : Heap} (hk : ∀ b o, h.get? b = some o → h'.get? b = some o) : TP h h' := fun b o e _ _ => hk b o e

mutual
theorem Den.mono {h h' : Heap} (k : TP h h') : ∀ {v : Value} {d : AV}, Den h v d → Den h' v d
  | _, _, .none => .none
  | _, _, .bool b => .bool b
  | _, _, .int i t => .int i t
  | _, _, .str x t => .str x t
  | _, _, .tup ht r => .tup (let ⟨o, ho, hc, q⟩ := ht; ⟨o, k _ o ho hc ⟨_, q⟩, hc, q⟩) (Dens.mono k r)
theorem Dens.mono {h h' : Heap} (k : TP h h') : ∀ {vs : List Value} {ds : List AV}, Dens h vs ds → Dens h' vs ds
  | _, _, .nil => .nil
  | _, _, .cons x r => .cons (Den.mono k x) (Dens.mono k r)
end

theorem Dens.length {h : Heap} : ∀ {vs : List Value} {ds : List AV}, Dens h vs ds → vs.length = ds.length
  | _, _, .nil => rfl
  | _, _, .cons _ r => by rw [List.length_cons, List.length_cons, Dens.length r]
theorem Dens.get {h : Heap} : ∀ {vs : List Value} {ds : List AV}, Dens h vs ds → ∀ {k : Nat} {d : AV}, ds[k]? = some d → ∃ v, vs[k]? = some v ∧ Den h v d
  | _, _, .nil, _, _, e => by simp at e
  | _, _, .cons x r, 0, _, e => by simp at e; subst e; exact ⟨_, rfl, x⟩
  | _, _, .cons x r, k + 1, _, e => by
    have e' : _ := e
    simp only [List.getElem?_cons_succ] at e'
    obtain ⟨v, hv, hd⟩ := Dens.get r e'
    exact ⟨v, by simpa using hv, hd⟩
theorem Dens.append {h : Heap} : ∀ {vs : List Value} {ds : List AV} {ws : List Value} {es : List AV}, Dens h vs ds → Dens h ws es → Dens h (vs ++ ws) (ds ++ es)
  | _, _, _, _, .nil, k => k
  | _, _, _, _, .cons x r, k => .cons x (Dens.append r k)
theorem Dens.one {h : Heap} {v : Value} {d : AV} (x : Den h v d) : Dens h [v] [d] := .cons x .nil

/-- a step: the heap and the counter alone change; all is kept but what W names -/
def Stp (W : Addr → Prop) (s s' : Shared) : Prop :=
  ∃ h' tk, s' = { s with heap := h', toks := tk } ∧ ∀ b o, s.heap.get? b = some o → ¬ W b → h'.get? b = some o
theorem Stp.refl (W : Addr → Prop) (s : Shared) : Stp W s s := ⟨s.heap, s.toks, rfl, fun _ _ e _ => e⟩
theorem Stp.trans {W : Addr → Prop} {s₁ s₂ s₃ : Shared} (x : Stp W s₁ s₂) (y : Stp W s₂ s₃) : Stp W s₁ s₃ := by
  obtain ⟨h₁, t₁, rfl, k₁⟩ := x
  obtain ⟨h₂, t₂, rfl, k₂⟩ := y
  exact ⟨h₂, t₂, rfl, fun b o e n => k₂ b o (k₁ b o e n) n⟩
theorem Stp.mono {W W' : Addr → Prop} {s s' : Shared} (x : Stp W s s') (h : ∀ b, W b → W' b) : Stp W' s s' := by
  obtain ⟨h₁, t₁, rfl, k₁⟩ := x
  exact ⟨h₁, t₁, rfl, fun b o e n => k₁ b o e fun w => n (h b w)⟩
theorem Stp.keep {W : Addr → Prop} {s s' : Shared} (x : Stp W s s') : ∀ b o, s.heap.get? b = some o → ¬ W b → s'.heap.get? b = some o := by
  obtain ⟨h₁, t₁, rfl, k₁⟩ := x
  exact k₁
theorem Stp.toks {W : Addr → Prop} (s : Shared) (t : Nat) : Stp W s { s with toks := t } := ⟨s.heap, t, rfl, fun _ _ e _ => e⟩
theorem Stp.push {W : Addr → Prop} (s : Shared) (o : Obj) (t : Nat) : Stp W s { s with heap := s.heap.push o, toks := t } := ⟨_, t, rfl, fun _ _ e _ => Heap.get?_push_of_some _ e⟩
theorem Stp.push' {W : Addr → Prop} (s : Shared) (o : Obj) : Stp W s { s with heap := s.heap.push o } := ⟨_, s.toks, rfl, fun _ _ e _ => Heap.get?_push_of_some _ e⟩

/-- the draws' object: the list at a holds the ref of the list at b (the script's ints), the index and the seed -/
structure DrI where
  a : Addr
  b : Addr
  xs : List Int

abbrev Dr := Int × Int

structure DrAt (t : DrI) (d : Dr) (h : Heap) : Prop where
  pos : 0 ≤ d.1
  st : ∃ ti td, h.IsList t.a #[.ref t.b, .int d.1 ti, .int d.2 td]
  sc : ∃ vs, h.IsList t.b vs.toArray ∧ IntsAre vs t.xs

def DrOk (t : Option DrI) (d : Dr) (h : Heap) : Prop := ∀ t', t = some t' → DrAt t' d h
theorem DrAt.keep {t : DrI} {d : Dr} {h h' : Heap} (x : DrAt t d h) (ha : ∀ o, h.get? t.a = some o → h'.get? t.a = some o) (hb : ∀ o, h.get? t.b = some o → h'.get? t.b = some o) : DrAt t d h' :=
  ⟨x.pos, let ⟨ti, td, o, ho, r⟩ := x.st; ⟨ti, td, o, ha o ho, r⟩, let ⟨vs, ⟨o, ho, r⟩, q⟩ := x.sc; ⟨vs, ⟨o, hb o ho, r⟩, q⟩⟩
theorem DrAt.at_a {t : DrI} {d : Dr} {h : Heap} (x : DrAt t d h) : ∃ o, h.get? t.a = some o ∧ o.cls = .type "list" := let ⟨_, _, o, ho, hc, _⟩ := x.st; ⟨o, ho, hc⟩
theorem DrAt.at_b {t : DrI} {d : Dr} {h : Heap} (x : DrAt t d h) : ∃ o, h.get? t.b = some o ∧ o.cls = .type "list" := let ⟨_, ⟨o, ho, hc, _⟩, _⟩ := x.sc; ⟨o, ho, hc⟩

/-- what stays the same while one def's frame runs -/
structure FC where
  prog : Program
  w : World
  env : Env
  hb : Heap
  nm : List Str
  st : Option DrI
  cell : Option (Nat × Addr)

inductive Slot where
  | u
  | v (d : AV)
  | l (vs : List AV)
  | s

structure St where
  loc : List Slot
  dr : Dr

/-- variable x holds v -/
def VarIs (F : FC) (h : Heap) (m : Str → Option Value) (x : Nat) (v : Value) : Prop := match F.cell with
  | some (y, c) => if x = y then h.IsCell c (some v) else ∃ n, F.nm[x]? = some n ∧ m n = some v
  | none => ∃ n, F.nm[x]? = some n ∧ m n = some v

def SlotOk (F : FC) (h : Heap) (m : Str → Option Value) (adr : Nat → Addr) (x : Nat) : Slot → Prop
  | .u => True
  | .v d => ∃ v, VarIs F h m x v ∧ Den h v d
  | .s => ∃ t, F.st = some t ∧ VarIs F h m x (.ref t.a)
  | .l vs => VarIs F h m x (.ref (adr x)) ∧ ∃ ws, h.PlainList (adr x) ws.toArray ∧ Dens h ws vs

/-- addresses that the frame writes by itself (not the lists) -/
def FC.own (F : FC) (b : Addr) : Prop := b = F.env.locals ∨ (∃ x, F.cell = some (x, b)) ∨ (∃ t, F.st = some t ∧ (b = t.a ∨ b = t.b))

structure Inv (F : FC) (σ : St) (adr : Nat → Addr) (h : Heap) : Prop where
  base : ∀ b o, F.hb.get? b = some o → h.get? b = some o
  loc : ∃ m, h.Ns F.env.locals m ∧ ∀ x sl, σ.loc[x]? = some sl → SlotOk F h m adr x sl
  cellIs : ∀ x c, F.cell = some (x, c) → ∃ v, h.IsCell c v
  apart : ∀ x vs, σ.loc[x]? = some (.l vs) → ¬ F.own (adr x) ∧ F.hb.get? (adr x) = none ∧ ∀ y ws, σ.loc[y]? = some (.l ws) → adr x = adr y → x = y
  dr : DrOk F.st σ.dr h

/-- facts of the frame -/
structure FC.Ok (F : FC) : Prop where
  kind : F.env.scope.kind = .function
  glob : F.env.globals = mainGlobals
  blt : F.env.builtins = builtinsNs
  len : F.nm.Nodup
  loc : ∀ x n, F.nm[x]? = some n → (∀ y c, F.cell = some (y, c) → x ≠ y) → F.env.kindOf n = some .local
  cell : ∀ x c, F.cell = some (x, c) → ∃ n, F.nm[x]? = some n ∧ F.env.kindOf n = some .cell ∧ F.env.cells.lookup n = some c
  dbg : ∀ n ∈ F.nm, (n == ("__debug__" : Str)) = false
  notL : ∀ x c, F.cell = some (x, c) → c ≠ F.env.locals
  stL : ∀ t, F.st = some t → t.a ≠ F.env.locals ∧ t.b ≠ F.env.locals ∧ t.a ≠ t.b ∧ (∀ x c, F.cell = some (x, c) → c ≠ t.a ∧ c ≠ t.b)
  fresh : F.hb.get? F.env.locals = none ∧ (∀ x c, F.cell = some (x, c) → F.hb.get? c = none) ∧ (∀ t, F.st = some t → F.hb.get? t.a = none)
  lim : F.hb.NoLimit

/-- the addresses that an expression may write: the draws' list -/
def FC.W0 (F : FC) (b : Addr) : Prop := ∃ t, F.st = some t ∧ b = t.a

end Mine

namespace Mine
open PySem PySem.W PySem.Calls PyProof.Rows PySem.Spec

section
variable {F : FC} {σ : St} {adr : Nat → Addr} {h h' : Heap}

theorem Inv.tp (I : Inv F σ adr h) (hk : ∀ b o, h.get? b = some o → ¬ F.W0 b → h'.get? b = some o) : TP h h' := fun b o e c _ => hk b o e fun ⟨t, ht, eb⟩ => by
  obtain ⟨o', ho, hc⟩ := (I.dr t ht).at_a
  rw [eb, ho] at e
  cases e
  rw [hc] at c
  exact absurd (Value.type.inj c) (by decide)

theorem SlotOk.keep (O : F.Ok) {m : Str → Option Value} {x : Nat} {sl : Slot} (hk : ∀ b o, h.get? b = some o → ¬ F.W0 b → h'.get? b = some o) (tp : TP h h')
    (ha : ∀ vs, sl = .l vs → ¬ F.W0 (adr x)) (s : SlotOk F h m adr x sl) : SlotOk F h' m adr x sl := by
  have hv : ∀ v, VarIs F h m x v → VarIs F h' m x v := by
    intro v hv
    unfold VarIs at hv ⊢
    split
    · rename_i y c ec
      rw [ec] at hv
      simp only at hv
      split at hv
      · rename_i exy
        rw [if_pos exy]
        obtain ⟨o, ho, hd⟩ := hv
        exact ⟨o, hk c o ho fun ⟨t, ht, eb⟩ => ((O.stL t ht).2.2.2 y c ec).1 eb, hd⟩
      · rename_i exy
        rw [if_neg exy]
        exact hv
    · rename_i ec
      rw [ec] at hv
      exact hv
  cases sl with
  | u => trivial
  | v d => obtain ⟨v, h1, h2⟩ := s; exact ⟨v, hv v h1, h2.mono tp⟩
  | s => obtain ⟨t, h1, h2⟩ := s; exact ⟨t, h1, hv _ h2⟩
  | l vs => obtain ⟨h1, ws, ⟨n, h2⟩, h3⟩ := s; exact ⟨hv _ h1, ws, ⟨n, hk _ _ h2 (ha vs rfl)⟩, h3.mono tp⟩

theorem Inv.keep (O : F.Ok) (I : Inv F σ adr h) (hk : ∀ b o, h.get? b = some o → ¬ F.W0 b → h'.get? b = some o) {dr' : Dr} (hd : DrOk F.st dr' h') : Inv F { σ with dr := dr' } adr h' where
  base := fun b o e => hk b o (I.base b o e) fun ⟨t, ht, eb⟩ => by rw [eb, O.fresh.2.2 t ht] at e; cases e
  loc := by
    obtain ⟨m, ⟨o, es, ep, ho, r⟩, hs⟩ := I.loc
    refine ⟨m, ⟨o, es, ep, hk _ _ ho fun ⟨t, ht, eb⟩ => (O.stL t ht).1 eb.symm, r⟩, fun x sl e => ?_⟩
    exact (hs x sl e).keep O hk (I.tp hk) fun vs el ⟨t, ht, eb⟩ => by
      subst el
      exact (I.apart x vs e).1 (.inr (.inr ⟨t, ht, .inl eb⟩))
  cellIs := fun x c e => by
    obtain ⟨v, o, ho, hd⟩ := I.cellIs x c e
    exact ⟨v, o, hk _ _ ho fun ⟨t, ht, eb⟩ => ((O.stL t ht).2.2.2 x c e).1 eb, hd⟩
  apart := I.apart
  dr := hd

theorem DrOk.keep {t : Option DrI} {d : Dr} (x : DrOk t d h) (hk : ∀ b o, h.get? b = some o → h'.get? b = some o) : DrOk t d h' := fun t' e => (x t' e).keep (fun o => hk _ o) fun o => hk _ o

theorem Inv.grow (O : F.Ok) (I : Inv F σ adr h) (hk : ∀ b o, h.get? b = some o → h'.get? b = some o) : Inv F σ adr h' :=
  I.keep O (fun b o e _ => hk b o e) (I.dr.keep hk)

theorem Inv.lim (O : F.Ok) (I : Inv F σ adr h) : h.NoLimit := O.lim.keeps I.base
end

/-- the draws -/
def lawNext (xs : List Int) (d : Dr) (m : Int) : Int × Dr :=
  if d.1 < (xs.length : Int) then
    let f : Int := ((xs.getD d.1.toNat 0).natAbs : Int)
    (f.fmod m, (d.1 + 1, (d.2 * 31 + f).fmod 2147483647))
  else
    let e := (d.2 * 48271 + 11).fmod 2147483647
    ((e.fdiv 7).fmod m, (d.1, e))

mutual
inductive E where
  | int (i : Int) (k : Nat) (p : Pos)
  | str (x : Str) (k : Nat) (p : Pos)
  | bool (b : Bool) (k : Nat) (p : Pos)
  | non (k : Nat) (p : Pos)
  | name (x : Nat) (p : Pos)
  | tup (es : EL) (k : Nat) (p : Pos)
  | bin (op : Operator) (l r : E) (p : Pos)
  | cmp (op : CmpOp) (l r : E) (p : Pos)
  | ite (t : T) (b o : E) (p : Pos)
  | get (o i : E) (p : Pos)
  | lget (x : Nat) (xp : Pos) (i : E) (p : Pos)
  | menu (es : EL) (lp : Pos) (i : E) (p : Pos)
  | tail (e : E) (i : Int) (ik : Nat) (ip sp p : Pos)
  | neg (e : E) (p : Pos)
  | len (e : E) (fp p : Pos)
  | llen (x : Nat) (xp fp p : Pos)
  | next (x : Nat) (m : Int) (mk : Nat) (mp sp fp p : Pos)
  | tok (k : Nat) (np p : Pos)
  | rsc (o : E) (y : Str) (yk : Nat) (yp ap p : Pos)
  | ew (o : E) (y : Str) (yk : Nat) (yp ap p : Pos)
  | spl (o : E) (ik : Nat) (ip np ap cp p : Pos)
  | isb (a b : E) (fp p : Pos)
inductive EL where
  | nil
  | cons (e : E) (es : EL)
inductive T where
  | e (e : E)
  | not (t : T) (p : Pos)
  | and (ts : TL) (p : Pos)
  | or (ts : TL) (p : Pos)
inductive TL where
  | nil
  | cons (t : T) (ts : TL)
end

def tokName : Nat → Str
  | 0 => "COMMENT"
  | 1 => "OP"
  | _ => "STRING"
def tokNum : Nat → Int
  | 0 => 61
  | 1 => 54
  | _ => 3

def nmAt (nm : List Str) (x : Nat) : Str := (nm[x]?).getD "?"

mutual
def E.tr (nm : List Str) : E → Expr
  | .int i k p => .Constant (.int i) k p
  | .str x k p => .Constant (.str x) k p
  | .bool b k p => .Constant (.bool b) k p
  | .non k p => .Constant .none k p
  | .name x p => .Name (nmAt nm x) p
  | .tup es k p => .Tuple (es.tr nm) k p
  | .bin op l r p => .BinOp (l.tr nm) op (r.tr nm) p
  | .cmp op l r p => .Compare (l.tr nm) [op] [r.tr nm] p
  | .ite t b o p => .IfExp (t.tr nm) (b.tr nm) (o.tr nm) p
  | .get o i p => .Subscript (o.tr nm) (i.tr nm) p
  | .lget x xp i p => .Subscript (.Name (nmAt nm x) xp) (i.tr nm) p
  | .menu es lp i p => .Subscript (.List (es.tr nm) lp) (i.tr nm) p
  | .tail e i ik ip sp p => .Subscript (e.tr nm) (.Slice (some (.Constant (.int i) ik ip)) none none sp) p
  | .neg e p => .UnaryOp .USub (e.tr nm) p
  | .len e fp p => .Call (.Name "len" fp) [e.tr nm] [] p
  | .llen x xp fp p => .Call (.Name "len" fp) [.Name (nmAt nm x) xp] [] p
  | .next x m mk mp sp fp p => .Call (.Name "_law_next" fp) [.Name (nmAt nm x) sp, .Constant (.int m) mk mp] [] p
  | .tok k np p => .Attribute (.Name "tokenize" np) (tokName k) p
  | .rsc o y yk yp ap p => .Call (.Attribute (o.tr nm) "rstrip" ap) [.Constant (.str y) yk yp] [] p
  | .ew o y yk yp ap p => .Call (.Attribute (o.tr nm) "endswith" ap) [.Constant (.str y) yk yp] [] p
  | .spl o ik ip np ap cp p => .Subscript (.Call (.Attribute (o.tr nm) "splitlines" ap) [] [] cp) (.UnaryOp .USub (.Constant (.int 1) ik ip) np) p
  | .isb a b fp p => .Call (.Name "_is_binary_operator" fp) [a.tr nm, b.tr nm] [] p
def EL.tr (nm : List Str) : EL → List Expr
  | .nil => []
  | .cons e es => e.tr nm :: es.tr nm
def T.tr (nm : List Str) : T → Expr
  | .e e => e.tr nm
  | .not t p => .UnaryOp .Not (t.tr nm) p
  | .and ts p => .BoolOp .And (ts.tr nm) p
  | .or ts p => .BoolOp .Or (ts.tr nm) p
def TL.tr (nm : List Str) : TL → List Expr
  | .nil => []
  | .cons t ts => t.tr nm :: ts.tr nm
end

def strIn (x y : Str) : Bool := !(PySem.Builtin.Str.occurrences y x 0 y.length 1).isEmpty

def strs? : List AV → Option (List Str)
  | [] => some []
  | .str x :: r => (strs? r).map (x :: ·)
  | _ :: _ => none

def b01 (b : Bool) : Int := if b = true then 1 else 0

def AV.bin : Operator → AV → AV → Option AV
  | .Add, .int a, .int b => some (.int (a + b))
  | .Sub, .int a, .int b => some (.int (a - b))
  | .Add, .int a, .bool b => some (.int (a + b01 b))
  | .Sub, .int a, .bool b => some (.int (a - b01 b))
  | .Add, .str a, .str b => if a.length + b.length ≤ 1000000 then some (.str (a ++ b)) else Option.none
  | _, _, _ => Option.none

def AV.cmp : CmpOp → AV → AV → Option Bool
  | .Eq, .int a, .int b => some (a == b)
  | .NotEq, .int a, .int b => some (a != b)
  | .Lt, .int a, .int b => some (decide (a < b))
  | .Gt, .int a, .int b => some (decide (a > b))
  | .Eq, .str a, .str b => some (a == b)
  | .NotEq, .str a, .str b => some (a != b)
  | .In, .str a, .tup ds => (strs? ds).map fun ys => ys.any (· == a)
  | .In, .str a, .str b => some (strIn a b)
  | _, _, _ => Option.none

def AV.truth : AV → Option Bool
  | .bool b => some b
  | .int i => some (i != 0)
  | .none => some false
  | .tup ds => if ds.length ≤ 1000 then some (!ds.isEmpty) else Option.none
  | _ => Option.none

/-- item k of n things -/
def place (k : Int) (n : Nat) : Option Nat :=
  if 0 ≤ k then (if k < (n : Int) then some k.toNat else none) else if -(n : Int) ≤ k then some (k + n).toNat else none

def AV.item (d : AV) (k : Int) : Option AV := match d with
  | .tup ds => if ds.length ≤ 1000 then (place k ds.length).bind fun j => ds[j]? else Option.none
  | .str x => if x.length ≤ 1000000 then (place k x.length).bind fun j => (x.cps[j]?).map fun c => .str ⟨#[c]⟩ else Option.none
  | _ => Option.none

def symOps : List Str := ["(", ")", "[", "]", "{", "}", ",", ":", ".", ";", "@", "=", "%", "~", "..."]
def isBin : AV → AV → Option Bool
  | .int k, .str x => some ((k == 54 || x == ("and" : Str) || x == ("or" : Str)) && !(symOps.any (· == x)))
  | .none, .none => some false
  | _, _ => Option.none

structure Cfg where
  n : Nat
  cell : Option Nat
  wr : List Nat
  len : Bool
  next : Option (List Int)
  tok : Bool
  isb : Bool

def locV (l : List Slot) (x : Nat) : Option AV := match l[x]? with
  | some (.v d) => some d
  | _ => none
def locL (l : List Slot) (x : Nat) : Option (List AV) := match l[x]? with
  | some (.l d) => some d
  | _ => none

def E.isIte : E → Bool
  | .ite .. => true
  | _ => false

mutual
def E.ev (cf : Cfg) (l : List Slot) : E → Dr → Option (AV × Dr)
  | .int i _ _, d => some (.int i, d)
  | .str x _ _, d => some (.str x, d)
  | .bool b _ _, d => some (.bool b, d)
  | .non _ _, d => some (.none, d)
  | .name x _, d => (locV l x).map fun v => (v, d)
  | .tup es _ _, d => match es.ev cf l d with
    | some (vs, d₁) => if vs.length ≤ 1000 then some (.tup vs, d₁) else none
    | none => none
  | .bin op a b _, d => match a.ev cf l d with
    | some (u, d₁) => match b.ev cf l d₁ with
      | some (v, d₂) => (AV.bin op u v).map fun r => (r, d₂)
      | none => none
    | none => none
  | .cmp op a b _, d => match a.ev cf l d with
    | some (u, d₁) => match b.ev cf l d₁ with
      | some (v, d₂) => (AV.cmp op u v).map fun r => (.bool r, d₂)
      | none => none
    | none => none
  | .ite t b o _, d => match t.ev cf l d with
    | some (true, d₁) => b.ev cf l d₁
    | some (false, d₁) => o.ev cf l d₁
    | none => none
  | .get o i _, d => match o.ev cf l d with
    | some (u, d₁) => match i.ev cf l d₁ with
      | some (.int k, d₂) => (u.item k).map fun r => (r, d₂)
      | _ => none
    | none => none
  | .lget x _ i _, d => match locL l x with
    | some vs => match i.ev cf l d with
      | some (.int k, d₂) => if vs.length ≤ 1000000 then ((place k vs.length).bind fun j => vs[j]?).map fun r => (r, d₂) else none
      | _ => none
    | none => none
  | .menu es _ i _, d => match es.ev cf l d with
    | some (vs, d₁) => match i.ev cf l d₁ with
      | some (.int k, d₂) => if vs.length ≤ 1000 then ((place k vs.length).bind fun j => vs[j]?).map fun r => (r, d₂) else none
      | _ => none
    | none => none
  | .tail e i _ _ _ _, d => match e.ev cf l d with
    | some (.str x, d₁) => if x.length ≤ 1000000 then some (.str (Txt.slice x (some i) none), d₁) else none
    | _ => none
  | .neg e _, d => match e.ev cf l d with
    | some (.int k, d₁) => some (.int (-k), d₁)
    | _ => none
  | .len e _ _, d => if cf.len = true then (match e.ev cf l d with
    | some (.str x, d₁) => if x.length ≤ 1000000 then some (.int x.length, d₁) else none
    | _ => none) else none
  | .llen x _ _ _, d => if cf.len = true then (match locL l x with
    | some vs => if vs.length ≤ 1000000 then some (.int vs.length, d) else none
    | none => none) else none
  | .next x m _ _ _ _ _, d => match cf.next, l[x]? with
    | some xs, some .s => if 0 < m then some (.int (lawNext xs d m).1, (lawNext xs d m).2) else none
    | _, _ => none
  | .tok k _ _, d => if cf.tok = true then some (.int (tokNum k), d) else none
  | .rsc o y _ _ ap p, d => match o.ev cf l d with
    | some (.str x, d₁) => if (ap.endLine == p.line && decide (x.length ≤ 1000000)) = true then some (.str (Txt.rstripChars x y), d₁) else none
    | _ => none
  | .ew o y _ _ ap p, d => match o.ev cf l d with
    | some (.str x, d₁) => if (ap.endLine == p.line) = true then some (.bool (Txt.endswith x y), d₁) else none
    | _ => none
  | .spl o _ _ _ ap cp _, d => match o.ev cf l d with
    | some (.str x, d₁) => if (ap.endLine == cp.line && decide (x.length ≤ 1000000) && decide ((lineCuts x).length ≤ 1000)) = true then ((Txt.lines x).getLast?).map fun y => (.str y, d₁) else none
    | _ => none
  | .isb a b _ _, d => if cf.isb = true then (match a.ev cf l d with
    | some (u, d₁) => match b.ev cf l d₁ with
      | some (v, d₂) => (isBin u v).map fun r => (.bool r, d₂)
      | none => none
    | none => none) else none
def EL.ev (cf : Cfg) (l : List Slot) : EL → Dr → Option (List AV × Dr)
  | .nil, d => some ([], d)
  | .cons e es, d => match e.ev cf l d with
    | some (u, d₁) => match es.ev cf l d₁ with
      | some (us, d₂) => some (u :: us, d₂)
      | none => none
    | none => none
def T.ev (cf : Cfg) (l : List Slot) : T → Dr → Option (Bool × Dr)
  | .e e, d => if e.isIte = true then none else match e.ev cf l d with
    | some (u, d₁) => (u.truth).map fun b => (b, d₁)
    | none => none
  | .not t _, d => match t.ev cf l d with
    | some (b, d₁) => some (!b, d₁)
    | none => none
  | .and ts _, d => ts.all cf l d
  | .or ts _, d => ts.any cf l d
def TL.all (cf : Cfg) (l : List Slot) : TL → Dr → Option (Bool × Dr)
  | .nil, d => some (true, d)
  | .cons t ts, d => match t.ev cf l d with
    | some (true, d₁) => ts.all cf l d₁
    | some (false, d₁) => some (false, d₁)
    | none => none
def TL.any (cf : Cfg) (l : List Slot) : TL → Dr → Option (Bool × Dr)
  | .nil, d => some (false, d)
  | .cons t ts, d => match t.ev cf l d with
    | some (true, d₁) => some (true, d₁)
    | some (false, d₁) => ts.any cf l d₁
    | none => none
end
end Mine

namespace Mine
open PySem PySem.W PySem.Calls PyProof.Rows PySem.Spec

def AOk (n : Nat) (A : Around) : Prop := A.handled = none ∧ A.depth + n < recursionLimit ∧ A.units + 10 * n < cLine
theorem AOk.mono {n m : Nat} {A : Around} (h : AOk n A) (hm : m ≤ n) : AOk m A := ⟨h.1, by have := h.2.1; omega, by have := h.2.2; omega⟩

/-- a global name that loads to v -/
def FC.Loads (F : FC) (x : Str) (v : Value) : Prop := ∀ (A : Around) (s : Shared) (Q : Value → Shared → Prop) (E : Value → Shared → Prop) (pos : Pos),
  (∀ b o, F.hb.get? b = some o → s.heap.get? b = some o) → Q v s → wpAny (model F.prog F.w) A (eval (.Name x pos) F.env) Q E s

/-- the contract of _law_next, called with the draws' list -/
def NextOk (prog : Program) (w : World) (hb : Heap) (t : DrI) (f : Addr) : Prop := ∀ (A : Around) (s : Shared) (d : Dr) (m : Int) (u : Tok) (Q : Value → Shared → Prop) (E : Value → Shared → Prop),
  AOk 2 A → (∀ b o, hb.get? b = some o → s.heap.get? b = some o) → DrAt t d s.heap → 0 < m →
  (∀ tk s', DrAt t (lawNext t.xs d m).2 s'.heap → Stp (fun b => b = t.a) s s' → Q (.int (lawNext t.xs d m).1 tk) s') →
  wpAny (model prog w) A (call (.ref f) [.ref t.a, .int m u]) Q E s

/-- the contract of _is_binary_operator -/
def IsbOk (prog : Program) (w : World) (hb : Heap) (f : Addr) : Prop := ∀ (A : Around) (s : Shared) (a b : Value) (u v : AV) (r : Bool) (Q : Value → Shared → Prop) (E : Value → Shared → Prop),
  AOk 2 A → (∀ b o, hb.get? b = some o → s.heap.get? b = some o) → Den s.heap a u → Den s.heap b v → isBin u v = some r →
  (∀ s', Stp (fun _ => False) s s' → Q (.bool r) s') → wpAny (model prog w) A (call (.ref f) [a, b]) Q E s

structure Ext (F : FC) (cf : Cfg) : Prop where
  n : cf.n = F.nm.length
  cell : cf.cell = F.cell.map (·.1)
  len : cf.len = true → F.Loads "len" (.builtin "len")
  next : ∀ xs, cf.next = some xs → ∃ t f o fd, F.st = some t ∧ t.xs = xs ∧ F.Loads "_law_next" (.ref f) ∧ F.hb.get? f = some o ∧ o.data = .func fd ∧ NextOk F.prog F.w F.hb t f
  isb : cf.isb = true → ∃ f o fd, F.Loads "_is_binary_operator" (.ref f) ∧ F.hb.get? f = some o ∧ o.data = .func fd ∧ IsbOk F.prog F.w F.hb f
  tok : cf.tok = true → ∀ (k : Nat) (A : Around) (s : Shared) (Q : Value → Shared → Prop) (E : Value → Shared → Prop) (np p : Pos),
    (∀ b o, F.hb.get? b = some o → s.heap.get? b = some o) → (∀ t tk, Q (.int (tokNum k) t) { s with toks := tk }) → wpAny (model F.prog F.w) A (eval (.Attribute (.Name "tokenize" np) (tokName k) p) F.env) Q E s

section
variable {F : FC} {A : Around} {s : Shared} {adr : Nat → Addr} {Q : Value → Shared → Prop} {Er : Value → Shared → Prop}

theorem nmAt_of {nm : List Str} {x : Nat} {n : Str} (h : nm[x]? = some n) : nmAt nm x = n := by unfold nmAt; rw [h]; rfl

theorem load_var (O : F.Ok) {h : Heap} {m : Str → Option Value} {x : Nat} {v : Value} {pos : Pos} (hs : s.heap = h) (hn : h.Ns F.env.locals m) (hv : VarIs F h m x v) (hQ : Q v s) :
    wpAny (model F.prog F.w) A (eval (.Name (nmAt F.nm x) pos) F.env) Q Er s := by
  subst hs
  unfold VarIs at hv
  have loc : (∃ n, F.nm[x]? = some n ∧ m n = some v) → (∀ y c, F.cell = some (y, c) → x ≠ y) → wpAny (model F.prog F.w) A (eval (.Name (nmAt F.nm x) pos) F.env) Q Er s := by
    rintro ⟨n, e1, e2⟩ hne
    rw [nmAt_of e1]
    exact wpAny_Name (wpAny_loadName_local O.kind (O.loc x n e1 hne) hn e2 hQ) (O.dbg n (List.mem_of_getElem? e1))
  split at hv
  · rename_i y c ec
    split at hv
    · rename_i exy
      subst exy
      obtain ⟨n, e1, e2, e3⟩ := O.cell x c ec
      rw [nmAt_of e1]
      exact wpAny_Name (wpAny_loadName_cell O.kind e2 e3 hv hQ) (O.dbg n (List.mem_of_getElem? e1))
    · rename_i exy
      exact loc hv fun y' c' e => by rw [ec] at e; cases e; exact exy
  · rename_i ec
    exact loc hv fun y c e => by rw [ec] at e; cases e

theorem load_v (O : F.Ok) {l : List Slot} {d : Dr} {x : Nat} {v : AV} {pos : Pos} (I : Inv F ⟨l, d⟩ adr s.heap) (hl : locV l x = some v) (hQ : ∀ u, Den s.heap u v → Q u s) :
    wpAny (model F.prog F.w) A (eval (.Name (nmAt F.nm x) pos) F.env) Q Er s := by
  obtain ⟨m, hn, hs⟩ := I.loc
  unfold locV at hl
  split at hl
  · rename_i d' e
    cases hl
    obtain ⟨u, h1, h2⟩ := hs x _ e
    exact load_var O rfl hn h1 (hQ u h2)
  · cases hl
theorem load_l (O : F.Ok) {l : List Slot} {d : Dr} {x : Nat} {vs : List AV} {pos : Pos} (I : Inv F ⟨l, d⟩ adr s.heap) (hl : locL l x = some vs) (hQ : ∀ ws, s.heap.PlainList (adr x) ws.toArray → Dens s.heap ws vs → Q (.ref (adr x)) s) :
    wpAny (model F.prog F.w) A (eval (.Name (nmAt F.nm x) pos) F.env) Q Er s := by
  obtain ⟨m, hn, hs⟩ := I.loc
  unfold locL at hl
  split at hl
  · rename_i d' e
    cases hl
    obtain ⟨h1, ws, h2, h3⟩ := hs x _ e
    exact load_var O rfl hn h1 (hQ ws h2 h3)
  · cases hl
theorem load_s (O : F.Ok) {l : List Slot} {d : Dr} {x : Nat} {t : DrI} {pos : Pos} (I : Inv F ⟨l, d⟩ adr s.heap) (hl : l[x]? = some .s) (ht : F.st = some t) (hQ : Q (.ref t.a) s) :
    wpAny (model F.prog F.w) A (eval (.Name (nmAt F.nm x) pos) F.env) Q Er s := by
  obtain ⟨m, hn, hs⟩ := I.loc
  obtain ⟨t', e, h1⟩ := hs x _ hl
  rw [ht] at e
  cases e
  exact load_var O rfl hn h1 hQ

theorem tr_mark (nm : List Str) (op : CmpOp) (e : E) : behindInMarks op (e.tr nm) = false := by cases e <;> rfl
theorem tr_star (nm : List Str) (env : Env) (e : E) (rest : List Expr) : starEach (e.tr nm :: rest) env = (false, eval (e.tr nm) env) :: starEach rest env := by cases e <;> rfl
theorem t_star (nm : List Str) (env : Env) (t : T) (rest : List Expr) : starEach (t.tr nm :: rest) env = (false, eval (t.tr nm) env) :: starEach rest env := by
  cases t with
  | e e => exact tr_star nm env e rest
  | _ => rfl

theorem bin_sound {op : Operator} {a b : Value} {u v r : AV} (hu : Den s.heap a u) (hv : Den s.heap b v) (e : AV.bin op u v = some r) (hQ : ∀ c tk, Den s.heap c r → Q c { s with toks := tk }) :
    wpAny (model F.prog F.w) A (binaryOp op a b) Q Er s := by
  unfold AV.bin at e
  split at e
  · cases hu; cases hv; cases e
    exact add_int (hQ _ _ (.int _ _))
  · cases hu; cases hv; cases e
    exact sub_int (hQ _ _ (.int _ _))
  · cases hu; cases hv; cases e
    exact PySem.add_int_bool (hQ _ _ (.int _ _))
  · cases hu; cases hv; cases e
    exact IntBool.sub_int_bool (hQ _ _ (.int _ _))
  · cases hu; cases hv
    split at e
    · rename_i hle
      cases e
      exact PyProof.Rows.add_str (fun t' tk => hQ _ _ (.str _ _)) (Nat.le_trans hle (by decide))
    · cases e
  · cases e

theorem dens_strs {h : Heap} : ∀ {vs : List Value} {ds : List AV} {ys : List Str}, Dens h vs ds → strs? ds = some ys → StrsAre vs ys
  | _, _, _, .nil, e => by cases e; exact .nil
  | _, _, _, .cons (.str x t) r, e => by
    simp only [strs?, Option.map_eq_some_iff] at e
    obtain ⟨zs, e1, rfl⟩ := e
    exact .cons x t (dens_strs r e1)
  | _, _, _, .cons (.none) r, e => by cases e
  | _, _, _, .cons (.bool _) r, e => by cases e
  | _, _, _, .cons (.int _ _) r, e => by cases e
  | _, _, _, .cons (.tup _ _) r, e => by cases e

theorem cmp_sound {op : CmpOp} {a b : Value} {u v : AV} {r : Bool} (hu : Den s.heap a u) (hv : Den s.heap b v) (e : AV.cmp op u v = some r) (hQ : Q (.bool r) s) :
    wpAny (model F.prog F.w) A (compareOp op a b) Q Er s := by
  unfold AV.cmp at e
  split at e
  · cases hu; cases hv; cases e; exact PySem.P.eq_int hQ
  · cases hu; cases hv; cases e; exact PySem.P.ne_int hQ
  · cases hu; cases hv; cases e; exact PySem.P.lt_int hQ
  · cases hu; cases hv; cases e; exact PySem.P.gt_int hQ
  · cases hu; cases hv; cases e; exact PyProof.Rows.eq_str hQ
  · cases hu; cases hv; cases e; exact PyProof.Rows.ne_str hQ
  · cases hu
    cases hv with
    | tup ht r =>
      simp only [Option.map_eq_some_iff] at e
      obtain ⟨ys, e1, rfl⟩ := e
      exact in_tuple_strs ht (by simpa using dens_strs r e1) hQ
  · cases hu; cases hv; cases e; exact PySem.P.in_str hQ
  · cases e

theorem place_spec {k : Int} {n j : Nat} (h : place k n = some j) : (0 ≤ k ∧ k < n ∧ j = k.toNat) ∨ (k < 0 ∧ -(n : Int) ≤ k ∧ j = (k + n).toNat) := by
  unfold place at h
  split at h
  · split at h
    · cases h; exact .inl ⟨by assumption, by assumption, rfl⟩
    · cases h
  · split at h
    · cases h; exact .inr ⟨by omega, by assumption, rfl⟩
    · cases h

end
end Mine

namespace Mine
open PySem PySem.W PySem.Calls PyProof.Rows PySem.Spec

section
variable {F : FC}

theorem list_item {A : Around} {s : Shared} {Q : Value → Shared → Prop} {Er : Value → Shared → Prop} {a : Addr} {ws : List Value} {k : Int} {u : Tok} {j : Nat} {x : Value}
    (hl : s.heap.PlainList a ws.toArray) (hp : place k ws.length = some j) (hle : ws.length ≤ 1000000) (hx : ws[j]? = some x) (h : Q x s) :
    wpAny (model F.prog F.w) A (getItem (.ref a) (.int k u)) Q Er s := by
  have b63 : (1000000 : Int) < 2 ^ 63 := by decide
  rcases place_spec hp with ⟨h0, h1, rfl⟩ | ⟨h0, h1, rfl⟩
  · exact wpAny_getItem_list hl.isList h0 (by omega) (by simpa using hx) h
  · exact wpAny_getItem_list_neg hl.isList h0 (by simpa using h1) (by omega) (by simpa using hx) h

theorem sub_any (sl : Expr) (o i : Value) (hs : ∀ l u' s' p, sl ≠ .Slice l u' s' p) : subscripted sl false o i = operate [o, i] (getItem o i) := by
  unfold subscripted
  split
  · exact absurd rfl (hs _ _ _ _)
  · rename_i h; cases h
  · rfl
theorem tr_noslice (nm : List Str) (e : E) : ∀ l u' s' p, e.tr nm ≠ .Slice l u' s' p := by
  intro l u' s' p h
  cases e <;> cases h

theorem place_seq {k : Int} {n j : Nat} (h : place k n = some j) : seqIndex? k n = some j := by
  unfold seqIndex?
  rcases place_spec h with ⟨h0, h1, rfl⟩ | ⟨h0, h1, rfl⟩
  · simp only [if_neg (Int.not_lt.mpr h0), h0, h1, decide_true, Bool.and_self, if_true]
  · have a1 : 0 ≤ k + (n : Int) := by omega
    have a2 : k + (n : Int) < n := by omega
    simp only [if_pos h0, a1, a2, decide_true, Bool.and_self, if_true]

theorem item_sound {A : Around} {s : Shared} {Q : Value → Shared → Prop} {Er : Value → Shared → Prop} {value sl : Expr} {o : Value} {d r : AV} {k : Int} {u : Tok} (hs : ∀ l u' s' p, sl ≠ .Slice l u' s' p)
    (hd : Den s.heap o d) (e : d.item k = some r) (hQ : ∀ c tk, Den s.heap c r → Q c { s with toks := tk }) : wpAny (model F.prog F.w) A (subscriptTail value sl o (.int k u)) Q Er s := by
  have b63 : (1000000 : Int) < 2 ^ 63 := by decide
  unfold AV.item at e
  split at e
  · split at e
    · rename_i hle
      cases hd with
      | tup ht hr =>
        simp only [Option.bind_eq_some_iff] at e
        obtain ⟨j, e1, e2⟩ := e
        obtain ⟨v, hv, hdv⟩ := hr.get e2
        have hl := hr.length
        rw [← hl] at e1
        have hb : -(2 ^ 63) ≤ k ∧ k < 2 ^ 63 := by
          rcases place_spec e1 with ⟨h0, h1, _⟩ | ⟨h0, h1, _⟩ <;> constructor <;> omega
        exact item_tupleT ht hb.1 hb.2 (place_seq e1) hv (hQ v s.toks hdv) (sub_any sl _ _ hs)
    · cases e
  · rename_i x
    split at e
    · rename_i hle
      cases hd
      rename_i t
      simp only [Option.bind_eq_some_iff, Option.map_eq_some_iff] at e
      obtain ⟨j, e1, c, e2, rfl⟩ := e
      have hb : -(2 ^ 63) ≤ k ∧ k < 2 ^ 63 := by
        rcases place_spec e1 with ⟨h0, h1, _⟩ | ⟨h0, h1, _⟩ <;> constructor <;> omega
      refine tail_any (typeIs_str s x t) PySem.F.slot_str_getitem.lookup (PySem.P.getItem_str (c := c) ?_ ?_ (hQ _ _ (.str _ _))) (sub_any sl _ _ hs)
      · simp only [Bool.or_eq_false_iff, decide_eq_false_iff_not]; omega
      · rw [place_seq e1]; exact e2
    · cases e
  · cases e

theorem truth_sound {A : Around} {s : Shared} {Q : Bool → Shared → Prop} {Er : Value → Shared → Prop} {v : Value} {d : AV} {b : Bool} (hd : Den s.heap v d) (e : d.truth = some b) (hQ : ∀ tk, Q b { s with toks := tk }) :
    wpAny (model F.prog F.w) A (truthy v) Q Er s := by
  unfold AV.truth at e
  split at e
  · cases hd; cases e; exact wpAny_truthy_bool (hQ s.toks)
  · cases hd; cases e; exact PySem.P.truthy_int (hQ s.toks)
  · cases hd; cases e; exact truthy_none (hQ s.toks)
  · split at e
    · rename_i hle
      cases hd with
      | tup ht hr =>
        cases e
        have hl := hr.length
        refine truthy_tuple ht (by rw [List.size_toArray, hl]; have : (1000 : Int) < 2 ^ 63 := by decide
                                   omega) ?_
        have key : ∀ (vs : List Value) (ds : List AV), vs.length = ds.length → vs.toArray.isEmpty = ds.isEmpty := by
          intro vs ds e
          cases vs <;> cases ds <;> simp_all
        rw [key _ _ hl]
        exact hQ _
    · cases e
  · cases e

def Good (F : FC) (adr : Nat → Addr) (l : List Slot) (d' : Dr) (s s' : Shared) : Prop := Inv F ⟨l, d'⟩ adr s'.heap ∧ Stp F.W0 s s'
theorem Good.refl {adr : Nat → Addr} {l : List Slot} {d : Dr} {s : Shared} (I : Inv F ⟨l, d⟩ adr s.heap) : Good F adr l d s s := ⟨I, .refl _ _⟩
theorem Good.tok {adr : Nat → Addr} {l : List Slot} {d : Dr} {s s' : Shared} (g : Good F adr l d s s') (t : Nat) : Good F adr l d s { s' with toks := t } := ⟨g.1, g.2.trans (.toks _ _)⟩
theorem Good.trans {adr : Nat → Addr} {l : List Slot} {d d' : Dr} {s s' s'' : Shared} (g : Good F adr l d s s') (k : Good F adr l d' s' s'') : Good F adr l d' s s'' := ⟨k.1, g.2.trans k.2⟩
theorem Good.grow (O : F.Ok) {adr : Nat → Addr} {l : List Slot} {d : Dr} {s s' : Shared} {h' : Heap} {tk : Nat} (g : Good F adr l d s s') (hk : ∀ b o, s'.heap.get? b = some o → h'.get? b = some o) :
    Good F adr l d s { s' with heap := h', toks := tk } := ⟨g.1.grow O hk, g.2.trans ⟨h', tk, rfl, fun b o e _ => hk b o e⟩⟩
theorem Good.tp {adr : Nat → Addr} {l : List Slot} {d d' : Dr} {s s' : Shared} (I : Inv F ⟨l, d⟩ adr s.heap) (g : Good F adr l d' s s') : TP s.heap s'.heap := I.tp g.2.keep

theorem tr_base (nm : List Str) (e : E) (a : Str) (env : Env) : attributeBase (e.tr nm) a env (eval (e.tr nm) env) = eval (e.tr nm) env := by cases e <;> rfl

theorem split_meth {A : Around} {s : Shared} {x : Str} {t : Tok} {pos : Pos} {Q : Value → Shared → Prop} {Er : Value → Shared → Prop} (hsz : x.length ≤ sizeLine) (hsz2 : (lineCuts x).length ≤ sizeLine)
    (h : ∀ l h' k, l.map (·.1) = Txt.lines x → (∀ b o, s.heap.get? b = some o → h'.get? b = some o) → h'.PlainList s.heap.objs.size (strValues l).toArray → Q (.ref s.heap.objs.size) { s with heap := h', toks := k }) :
    MethodOnS F.prog F.w A Er "splitlines" (.str x t) pos [] Q s := by
  refine ⟨"str", "str.splitlines", PySem.F.plainAttrs_str, PySem.F.slot_str_splitlines, PySem.F.type_str_splitlines, typeIs_str _ _ _, (fun _ e => nomatch e), ?_⟩
  refine callWith_builtin rfl (PySem.evalArgs_none ?_)
  refine call_meets PySem.F.slot_str_splitlines (typeIs_str _ _ _) PySem.F.entry_str_splitlines (PySem.F.args_str_splitlines_1 _) (meets_str_splitlines x t hsz hsz2) ?_
  cases hw : lineCuts x == [(0, x.length)]
  · simp only [Bool.false_eq_true, if_false]
    rw [strsFrom_eq]
    exact h (numbered s.toks (linesOf x)) _ _ ((numbered_texts _ _).trans (if_neg (ne_true_of_eq_false hw)).symm) (fun _ _ e => Heap.get?_push_of_some _ e) ⟨_, Heap.get?_push_size _ rfl⟩
  · simp only [if_true]
    exact h [(x, t)] _ s.toks (if_pos hw).symm (fun _ _ e => Heap.get?_push_of_some _ e) ⟨_, Heap.get?_push_size _ rfl⟩

mutual
theorem E.sound (O : F.Ok) {cf : Cfg} (X : Ext F cf) {adr : Nat → Addr} {l : List Slot} {A : Around} (hA : AOk 2 A) : ∀ (e : E) {d : Dr} {v : AV} {d' : Dr}, e.ev cf l d = some (v, d') → ∀ {s : Shared} {Q : Value → Shared → Prop} {Er : Value → Shared → Prop},
    Inv F ⟨l, d⟩ adr s.heap → (∀ u s', Den s'.heap u v → Good F adr l d' s s' → Q u s') → wpAny (model F.prog F.w) A (eval (e.tr F.nm) F.env) Q Er s
  | .int i k p, d, v, d', ev, s, Q, Er, I, hQ => by
    simp only [E.ev] at ev; cases ev
    exact wpAny_Constant_int (hQ _ _ (.int _ _) ((Good.refl I).tok _))
  | .str x k p, d, v, d', ev, s, Q, Er, I, hQ => by
    simp only [E.ev] at ev; cases ev
    exact Calls.Constant_str (hQ _ _ (.str _ _) ((Good.refl I).tok _))
  | .bool b k p, d, v, d', ev, s, Q, Er, I, hQ => by
    simp only [E.ev] at ev; cases ev
    exact Constant_bool (hQ _ _ (.bool _) (Good.refl I))
  | .non k p, d, v, d', ev, s, Q, Er, I, hQ => by
    simp only [E.ev] at ev; cases ev
    exact Constant_none (hQ _ _ .none (Good.refl I))
  | .name x p, d, v, d', ev, s, Q, Er, I, hQ => by
    simp only [E.ev, Option.map_eq_some_iff] at ev
    obtain ⟨v', e, e2⟩ := ev
    cases e2
    exact load_v O I e fun u hu => hQ u s hu (Good.refl I)
  | .tup es k p, d, v, d', ev, s, Q, Er, I, hQ => by
    simp only [E.ev] at ev
    split at ev
    · rename_i vs d₁ e
      split at ev
      · rename_i hle
        cases ev
        refine wpAny_Tuple (EL.sound O X hA es e I fun us s₁ hus g => ?_)
        have hl := hus.length
        refine ⟨by rw [hl]; exact Nat.le_trans hle (by decide), hQ _ _ (.tup (IsTup.new _ _) (hus.mono (.of_keeps fun _ _ e => Heap.get?_push_of_some _ e))) (g.grow O fun _ _ e => Heap.get?_push_of_some _ e)⟩
      · cases ev
    · cases ev
  | .bin op a b p, d, v, d', ev, s, Q, Er, I, hQ => by
    simp only [E.ev] at ev
    split at ev
    · rename_i u d₁ e1
      split at ev
      · rename_i u2 d₂ e2
        simp only [Option.map_eq_some_iff] at ev
        obtain ⟨r, e3, e4⟩ := ev
        cases e4
        refine wpAny_BinOp (E.sound O X hA a e1 I fun a' s₁ ha g₁ => E.sound O X hA b e2 g₁.1 fun b' s₂ hb g₂ => ?_)
        exact bin_sound (ha.mono (g₂.tp g₁.1)) hb e3 fun c tk hc => hQ c _ hc ((g₁.trans g₂).tok tk)
      · cases ev
    · cases ev
  | .cmp op a b p, d, v, d', ev, s, Q, Er, I, hQ => by
    simp only [E.ev] at ev
    split at ev
    · rename_i u d₁ e1
      split at ev
      · rename_i u2 d₂ e2
        simp only [Option.map_eq_some_iff] at ev
        obtain ⟨r, e3, e4⟩ := ev
        cases e4
        refine wpAny_Compare1 (E.sound O X hA a e1 I fun a' s₁ ha g₁ => E.sound O X hA b e2 g₁.1 fun b' s₂ hb g₂ => ?_) (tr_mark _ _ _)
        exact cmp_sound (ha.mono (g₂.tp g₁.1)) hb e3 (hQ _ _ (.bool _) (g₁.trans g₂))
      · cases ev
    · cases ev
  | .ite t b o p, d, v, d', ev, s, Q, Er, I, hQ => by
    simp only [E.ev] at ev
    split at ev
    · rename_i d₁ e1
      refine wpAny_IfExp (T.sound O X hA t e1 I fun s₁ g₁ => ?_)
      rw [if_pos rfl]
      exact E.sound O X hA b ev g₁.1 fun u s₂ hu g₂ => hQ u s₂ hu (g₁.trans g₂)
    · rename_i d₁ e1
      refine wpAny_IfExp (T.sound O X hA t e1 I fun s₁ g₁ => ?_)
      rw [if_neg Bool.false_ne_true]
      exact E.sound O X hA o ev g₁.1 fun u s₂ hu g₂ => hQ u s₂ hu (g₁.trans g₂)
    · cases ev
  | .get o i p, d, v, d', ev, s, Q, Er, I, hQ => by
    simp only [E.ev] at ev
    split at ev
    · rename_i u d₁ e1
      split at ev
      · rename_i k d₂ e2
        simp only [Option.map_eq_some_iff] at ev
        obtain ⟨r, e3, e4⟩ := ev
        cases e4
        refine Subscript_ (E.sound O X hA o e1 I fun a' s₁ ha g₁ => E.sound O X hA i e2 g₁.1 fun b' s₂ hb g₂ => ?_)
        cases hb
        exact item_sound (tr_noslice _ _) (ha.mono (g₂.tp g₁.1)) e3 fun c tk hc => hQ c _ hc ((g₁.trans g₂).tok tk)
      · cases ev
    · cases ev
  | .lget x xp i p, d, v, d', ev, s, Q, Er, I, hQ => by
    simp only [E.ev] at ev
    split at ev
    · rename_i vs e1
      split at ev
      · rename_i k d₂ e2
        split at ev
        · rename_i hle
          simp only [Option.map_eq_some_iff, Option.bind_eq_some_iff] at ev
          obtain ⟨r, ⟨j, e3, e3'⟩, e4⟩ := ev
          cases e4
          refine Subscript_ (load_l O I e1 fun ws hp hw => E.sound O X hA i e2 I fun b' s₂ hb g₂ => ?_)
          cases hb
          have hl := hw.length
          have I2 := g₂.1
          obtain ⟨m, hn, hs⟩ := I2.loc
          have el : l[x]? = some (.l vs) := by
            unfold locL at e1
            split at e1
            · cases e1; assumption
            · cases e1
          obtain ⟨_, ws', hp', hw'⟩ := hs x _ el
          obtain ⟨c, hc, hdc⟩ := hw'.get e3'
          refine tail_any hp'.isList.typeIs slot_list_getitem.lookup (list_item hp' (by rw [hw'.length]; exact e3) (by rw [hw'.length]; exact hle) hc (hQ c _ hdc g₂)) (sub_any _ _ _ (tr_noslice _ _))
        · cases ev
      · cases ev
    · cases ev
  | .menu es lp i p, d, v, d', ev, s, Q, Er, I, hQ => by
    simp only [E.ev] at ev
    split at ev
    · rename_i vs d₁ e1
      split at ev
      · rename_i k d₂ e2
        split at ev
        · rename_i hle
          simp only [Option.map_eq_some_iff, Option.bind_eq_some_iff] at ev
          obtain ⟨r, ⟨j, e3, e3'⟩, e4⟩ := ev
          cases e4
          refine Subscript_ (wpAny_List (EL.sound O X hA es e1 I fun us s₁ hus g => ?_))
          have hl := hus.length
          refine ⟨by rw [hl]; exact Nat.le_trans hle (by decide), ?_⟩
          have g' : Good F adr l d₁ s { s₁ with heap := s₁.heap.push { cls := .type "list", data := .seq us.toArray } } := g.grow O fun _ _ e => Heap.get?_push_of_some _ e
          have hp : (s₁.heap.push { cls := .type "list", data := .seq us.toArray }).PlainList s₁.heap.objs.size us.toArray := ⟨_, Heap.get?_push_size _ rfl⟩
          refine E.sound O X hA i e2 g'.1 fun b' s₂ hb g₂ => ?_
          cases hb
          have hp₂ : s₂.heap.PlainList s₁.heap.objs.size us.toArray := by
            obtain ⟨n, hp⟩ := hp
            refine ⟨n, g₂.2.keep _ _ hp ?_⟩
            rintro ⟨t, ht, eb⟩
            obtain ⟨_, q, _⟩ := (g.1.dr t ht).at_a
            exact absurd (Heap.lt_size q) (by rw [← eb]; exact Nat.lt_irrefl _)
          have hd₂ : Dens s₂.heap us vs := (hus.mono (.of_keeps fun _ _ e => Heap.get?_push_of_some _ e)).mono (g₂.tp g'.1)
          obtain ⟨c, hc, hdc⟩ := hd₂.get e3'
          exact tail_any hp₂.isList.typeIs slot_list_getitem.lookup (list_item hp₂ (by rw [hl]; exact e3) (by rw [hl]; exact Nat.le_trans hle (by decide)) hc (hQ c _ hdc (g'.trans g₂))) (sub_any _ _ _ (tr_noslice _ _))
        · cases ev
      · cases ev
    · cases ev
  | .tail e i ik ip sp p, d, v, d', ev, s, Q, Er, I, hQ => by
    simp only [E.ev] at ev
    split at ev
    · rename_i x d₁ e1
      split at ev
      · rename_i hle
        cases ev
        refine Subscript_ (E.sound O X hA e e1 I fun a' s₁ ha g₁ => ?_)
        cases ha
        rename_i t
        refine wpAny_Slice (wpAny_evalPart_some (wpAny_Constant_int (wpAny_evalPart_none (wpAny_evalPart_none ?_))))
        refine tail_of_ItemOn (SBH.sliceItem_sn (P := fun h => ∀ b o, s₁.heap.get? b = some o → h.get? b = some o) (fun h ob k b o e => Heap.get?_push_of_some _ (k b o e)) (s := { s₁ with toks := s₁.toks + 1 }) (fun _ _ e => e) (fun h' t' k hk => hQ _ _ (.str _ _) (g₁.grow O hk)) (Nat.le_trans hle (by decide))) (by rfl) ?_
        intro r
        unfold letTemporaryGo
        split <;> first | rfl | contradiction
      · cases ev
    · cases ev
  | .neg e p, d, v, d', ev, s, Q, Er, I, hQ => by
    simp only [E.ev] at ev
    split at ev
    · rename_i k d₁ e1
      cases ev
      refine UnaryOp_ (E.sound O X hA e e1 I fun a' s₁ ha g₁ => ?_)
      cases ha
      exact PySem.P.neg_int (hQ _ _ (.int _ _) (g₁.tok _))
    · cases ev
  | .len e fp p, d, v, d', ev, s, Q, Er, I, hQ => by
    simp only [E.ev] at ev
    split at ev
    · rename_i hcf
      split at ev
      · rename_i x d₁ e1
        split at ev
        · rename_i hle
          cases ev
          refine Call_ (X.len hcf A s _ _ fp I.base ?_)
          refine PyProof.Rows.callWith_builtin1 (spliced_more (E.sound O X hA e e1 I fun a' s₁ ha g₁ => spliced_none ?_) (tr_star _ _ _ _)) (tr_star _ _ _ _)
          cases ha
          refine PySem.P.len_str ?_ (hQ _ _ (.int _ _) (g₁.tok _))
          have : (1000000 : Int) < 2 ^ 63 := by decide
          omega
        · cases ev
      · cases ev
    · cases ev
  | .llen x xp fp p, d, v, d', ev, s, Q, Er, I, hQ => by
    simp only [E.ev] at ev
    split at ev
    · rename_i hcf
      split at ev
      · rename_i vs e1
        split at ev
        · rename_i hle
          cases ev
          refine Call_ (X.len hcf A s _ _ fp I.base ?_)
          refine PyProof.Rows.callWith_builtin1 (spliced_more (load_l O I e1 fun ws hp hw => spliced_none ?_) rfl) rfl
          have hl := hw.length
          refine PyProof.Rows.len_list hp.isList ?_ ?_
          · rw [List.size_toArray, hl]
            have : (1000000 : Int) < 2 ^ 63 := by decide
            omega
          · have := hQ (.int ws.toArray.size (s.toks + 1)) { s with toks := s.toks + 1 + 1 } (by rw [List.size_toArray, hl]; exact .int _ _) ((Good.refl I).tok _)
            exact this
        · cases ev
      · cases ev
    · cases ev
  | .next x m mk mp sp fp p, d, v, d', ev, s, Q, Er, I, hQ => by
    simp only [E.ev] at ev
    split at ev
    · rename_i xs ecf el
      split at ev
      · rename_i hm
        cases ev
        obtain ⟨t, f, o, fd, ht, hxs, hld, ho, hfd, hnx⟩ := X.next xs ecf
        subst hxs
        refine Call_ (hld A s _ _ fp I.base ?_)
        refine callWith_def (o := o) (fd := fd) hfd (spliced_more (load_s O I el ht (spliced_more (wpAny_Constant_int (spliced_none ⟨I.base _ _ ho, ?_⟩)))))
        refine hnx A _ d m _ _ _ hA I.base ((I.dr t ht).keep (fun _ e => e) fun _ e => e) hm fun tk s' hd' st => hQ _ _ (.int _ _) ?_
        have st' : Stp F.W0 s s' := (Stp.toks s _).trans (st.mono fun b eb => ⟨t, ht, eb⟩)
        exact ⟨I.keep O st'.keep (fun t' e => by rw [ht] at e; cases e; exact hd'), st'⟩
      · cases ev
    · cases ev
  | .tok k np p, d, v, d', ev, s, Q, Er, I, hQ => by
    simp only [E.ev] at ev
    split at ev
    · rename_i hcf
      cases ev
      exact X.tok hcf k A s Q Er np p I.base fun t tk => hQ _ _ (.int _ _) ((Good.refl I).tok _)
    · cases ev
  | .rsc o y yk yp ap p, d, v, d', ev, s, Q, Er, I, hQ => by
    simp only [E.ev] at ev
    split at ev
    · rename_i x d₁ e1
      split at ev
      · rename_i hc
        simp only [Bool.and_eq_true, decide_eq_true_eq] at hc
        cases ev
        refine Call_method1 (tr_base _ _ _ _) (by rfl) hc.1 (E.sound O X hA o e1 I fun a' s₁ ha g₁ => ?_)
        cases ha
        exact SB.rstripChars (Calls.Constant_str ⟨_, _, rfl, fun t' k => hQ _ _ (.str _ _) ((g₁.tok _).tok _)⟩) (Nat.le_trans hc.2 (by decide))
      · cases ev
    · cases ev
  | .ew o y yk yp ap p, d, v, d', ev, s, Q, Er, I, hQ => by
    simp only [E.ev] at ev
    split at ev
    · rename_i x d₁ e1
      split at ev
      · rename_i hc
        cases ev
        refine Call_method1 (tr_base _ _ _ _) (by rfl) hc (E.sound O X hA o e1 I fun a' s₁ ha g₁ => ?_)
        cases ha
        exact SB.endswith (Calls.Constant_str ⟨_, _, rfl, hQ _ _ (.bool _) (g₁.tok _)⟩)
      · cases ev
    · cases ev
  | .spl o ik ip np ap cp p, d, v, d', ev, s, Q, Er, I, hQ => by
    simp only [E.ev] at ev
    split at ev
    · rename_i x d₁ e1
      split at ev
      · rename_i hc
        simp only [Bool.and_eq_true, decide_eq_true_eq] at hc
        simp only [Option.map_eq_some_iff] at ev
        obtain ⟨y, e2, e3⟩ := ev
        cases e3
        refine Subscript_ (Call_method0 (tr_base _ _ _ _) hc.1.1 (E.sound O X hA o e1 I fun a' s₁ ha g₁ => ?_))
        cases ha
        rename_i t
        refine split_meth (Nat.le_trans hc.1.2 (by decide)) (Nat.le_trans hc.2 (by decide)) fun l' h' k hl hk hp => ?_
        refine UnaryOp_ (wpAny_Constant_int (PySem.P.neg_int ?_))
        have hlen : (Txt.lines x).length ≤ 1001 := by
          have := hc.2
          unfold Txt.lines
          split
          · simp
          · have q : (linesOf x).length = (lineCuts x).length := by unfold linesOf; simp
            omega
        have hl' : l'.length = (Txt.lines x).length := by rw [← hl, List.length_map]
        obtain ⟨ys, hys⟩ : ∃ ys, Txt.lines x = ys ++ [y] := List.getLast?_eq_some_iff.mp e2
        have hpos : 0 < l'.length := by rw [hl', hys]; simp
        have hit : (strValues l')[(strValues l').length - 1]? = some (.str y (l'[l'.length - 1]'(by omega)).2) := by
          have e3 : (l'.map (·.1))[l'.length - 1]? = some y := by rw [hl, hl', hys]; simp
          simp only [List.getElem?_map, Option.map_eq_some_iff] at e3
          obtain ⟨q, e4, e5⟩ := e3
          have e6 : l'[l'.length - 1]'(by omega) = q := by
            rw [List.getElem?_eq_getElem (by omega)] at e4
            exact Option.some.inj e4
          simp only [strValues, List.length_map, List.getElem?_map, e4, Option.map_some, e6, e5]
        have hpl : (strValues l').length = l'.length := by simp [strValues]
        refine tail_any hp.isList.typeIs slot_list_getitem.lookup (list_item (j := (strValues l').length - 1) hp ?_ ?_ hit (hQ _ _ (.str _ _) (((g₁.grow (tk := k) O hk).tok _).tok _))) (sub_any _ _ _ (by intro l u' s' p h; cases h))
        · unfold place
          rw [hpl]
          simp only [show ¬ ((0:Int) ≤ -1) from by decide, if_false]
          rw [if_pos (by omega)]
          congr 1
          omega
        · rw [hpl]; omega
      · cases ev
    · cases ev
  | .isb a b fp p, d, v, d', ev, s, Q, Er, I, hQ => by
    simp only [E.ev] at ev
    split at ev
    · rename_i hcf
      split at ev
      · rename_i u d₁ e1
        split at ev
        · rename_i v' d₂ e2
          simp only [Option.map_eq_some_iff] at ev
          obtain ⟨r, e3, e4⟩ := ev
          cases e4
          obtain ⟨f, o, fd, hld, ho, hfd, hok⟩ := X.isb hcf
          refine Call_ (hld A s _ _ fp I.base ?_)
          refine callWith_def (o := o) (fd := fd) hfd (spliced_more (E.sound O X hA a e1 I fun a' s₁ ha g₁ => spliced_more (E.sound O X hA b e2 g₁.1 fun b' s₂ hb g₂ => spliced_none ⟨g₂.1.base _ _ ho, ?_⟩) (tr_star _ _ _ _)) (tr_star _ _ _ _)) (tr_star _ _ _ _)
          refine hok A _ _ _ _ _ _ _ _ hA g₂.1.base (ha.mono (g₂.tp g₁.1)) hb e3 fun s' st => hQ _ _ (.bool _) ?_
          obtain ⟨h', tk, rfl, hk⟩ := st
          exact (g₁.trans g₂).grow O fun b o e => hk b o e id
        · cases ev
      · cases ev
    · cases ev
theorem EL.sound (O : F.Ok) {cf : Cfg} (X : Ext F cf) {adr : Nat → Addr} {l : List Slot} {A : Around} (hA : AOk 2 A) {pos : Pos} : ∀ (es : EL) {d : Dr} {vs : List AV} {d' : Dr}, es.ev cf l d = some (vs, d') → ∀ {s : Shared} {Q : List Value → Shared → Prop} {Er : Value → Shared → Prop},
    Inv F ⟨l, d⟩ adr s.heap → (∀ us s', Dens s'.heap us vs → Good F adr l d' s s' → Q us s') → wpAny (model F.prog F.w) A (spliced (backTo pos (starEach (es.tr F.nm) F.env))) Q Er s
  | .nil, d, v, d', ev, s, Q, Er, I, hQ => by
    simp only [EL.ev] at ev; cases ev
    exact spliced_none (hQ _ _ .nil (Good.refl I))
  | .cons e es, d, v, d', ev, s, Q, Er, I, hQ => by
    simp only [EL.ev] at ev
    split at ev
    · rename_i u d₁ e1
      split at ev
      · rename_i us d₂ e2
        cases ev
        refine spliced_more (E.sound O X hA e e1 I fun a' s₁ ha g₁ => EL.sound O X hA es e2 g₁.1 fun bs s₂ hb g₂ => ?_) (tr_star _ _ _ _)
        exact hQ _ _ (.cons (ha.mono (g₂.tp g₁.1)) hb) (g₁.trans g₂)
      · cases ev
    · cases ev
theorem T.sound (O : F.Ok) {cf : Cfg} (X : Ext F cf) {adr : Nat → Addr} {l : List Slot} {A : Around} (hA : AOk 2 A) : ∀ (t : T) {d : Dr} {b : Bool} {d' : Dr}, t.ev cf l d = some (b, d') → ∀ {s : Shared} {Q : Bool → Shared → Prop} {Er : Value → Shared → Prop},
    Inv F ⟨l, d⟩ adr s.heap → (∀ s', Good F adr l d' s s' → Q b s') → wpAny (model F.prog F.w) A (isTrue (t.tr F.nm) F.env (eval (t.tr F.nm) F.env)) Q Er s
  | .e e, d, b, d', ev, s, Q, Er, I, hQ => by
    simp only [T.ev] at ev
    split at ev
    · cases ev
    · rename_i hni
      split at ev
      · rename_i u d₁ e1
        simp only [Option.map_eq_some_iff] at ev
        obtain ⟨r, e3, e4⟩ := ev
        cases e4
        have key : wpAny (model F.prog F.w) A (eval (e.tr F.nm) F.env) (fun v s₁ => wpAny (model F.prog F.w) A (truthy v) Q Er s₁) Er s :=
          E.sound O X hA e e1 I fun u s₁ hu g₁ => truth_sound hu e3 fun tk => hQ _ (g₁.tok tk)
        cases e with
        | ite t b o p => exact absurd rfl hni
        | cmp op a b p =>
          refine wpAny_isTrue_Compare1 ?_ (tr_mark _ _ _)
          simp only [E.ev] at e1
          split at e1
          · rename_i u' d₁ e1'
            split at e1
            · rename_i u2 d₂ e2'
              simp only [Option.map_eq_some_iff] at e1
              obtain ⟨r, e3', e4⟩ := e1
              cases e4
              cases e3
              refine E.sound O X hA a e1' I fun a' s₁ ha g₁ => E.sound O X hA b e2' g₁.1 fun b' s₂ hb g₂ => ?_
              exact cmp_sound (ha.mono (g₂.tp g₁.1)) hb e3' (wpAny_truthy_bool (hQ _ (g₁.trans g₂)))
            · cases e1
          · cases e1
        | _ => exact isTrue_plain key
      · cases ev
  | .not t p, d, b, d', ev, s, Q, Er, I, hQ => by
    simp only [T.ev] at ev
    split at ev
    · rename_i u d₁ e1
      cases ev
      exact isTrue_not (T.sound O X hA t e1 I fun s₁ g₁ => hQ _ g₁)
    · cases ev
  | .and ts p, d, b, d', ev, s, Q, Er, I, hQ => by
    simp only [T.ev] at ev
    exact wpAny_isTrue_BoolOp (TL.all_sound O X hA ts ev I hQ)
  | .or ts p, d, b, d', ev, s, Q, Er, I, hQ => by
    simp only [T.ev] at ev
    exact wpAny_isTrue_BoolOp (TL.any_sound O X hA ts ev I hQ)
theorem TL.all_sound (O : F.Ok) {cf : Cfg} (X : Ext F cf) {adr : Nat → Addr} {l : List Slot} {A : Around} (hA : AOk 2 A) : ∀ (ts : TL) {d : Dr} {b : Bool} {d' : Dr}, ts.all cf l d = some (b, d') → ∀ {s : Shared} {Q : Bool → Shared → Prop} {Er : Value → Shared → Prop},
    Inv F ⟨l, d⟩ adr s.heap → (∀ s', Good F adr l d' s s' → Q b s') → wpAny (model F.prog F.w) A (allTrue .And (ts.tr F.nm) F.env) Q Er s
  | .nil, d, b, d', ev, s, Q, Er, I, hQ => by
    simp only [TL.all] at ev; cases ev
    exact wpAny_allTrue_And_nil (hQ _ (Good.refl I))
  | .cons t ts, d, b, d', ev, s, Q, Er, I, hQ => by
    simp only [TL.all] at ev
    split at ev
    · rename_i d₁ e1
      refine wpAny_allTrue_And_cons (T.sound O X hA t e1 I fun s₁ g₁ => ?_)
      rw [if_pos rfl]
      exact TL.all_sound O X hA ts ev g₁.1 fun s₂ g₂ => hQ _ (g₁.trans g₂)
    · rename_i d₁ e1
      cases ev
      refine wpAny_allTrue_And_cons (T.sound O X hA t e1 I fun s₁ g₁ => ?_)
      rw [if_neg Bool.false_ne_true]
      exact hQ _ g₁
    · cases ev
theorem TL.any_sound (O : F.Ok) {cf : Cfg} (X : Ext F cf) {adr : Nat → Addr} {l : List Slot} {A : Around} (hA : AOk 2 A) : ∀ (ts : TL) {d : Dr} {b : Bool} {d' : Dr}, ts.any cf l d = some (b, d') → ∀ {s : Shared} {Q : Bool → Shared → Prop} {Er : Value → Shared → Prop},
    Inv F ⟨l, d⟩ adr s.heap → (∀ s', Good F adr l d' s s' → Q b s') → wpAny (model F.prog F.w) A (allTrue .Or (ts.tr F.nm) F.env) Q Er s
  | .nil, d, b, d', ev, s, Q, Er, I, hQ => by
    simp only [TL.any] at ev; cases ev
    exact wpAny_allTrue_Or_nil (hQ _ (Good.refl I))
  | .cons t ts, d, b, d', ev, s, Q, Er, I, hQ => by
    simp only [TL.any] at ev
    split at ev
    · rename_i d₁ e1
      cases ev
      refine wpAny_allTrue_Or_cons (T.sound O X hA t e1 I fun s₁ g₁ => ?_)
      rw [if_pos rfl]
      exact hQ _ g₁
    · rename_i d₁ e1
      refine wpAny_allTrue_Or_cons (T.sound O X hA t e1 I fun s₁ g₁ => ?_)
      rw [if_neg Bool.false_ne_true]
      exact TL.any_sound O X hA ts ev g₁.1 fun s₂ g₂ => hQ _ (g₁.trans g₂)
    · cases ev
end
end
end Mine

namespace Mine
open PySem PySem.W PySem.Calls PyProof.Rows PySem.Spec

inductive Fl where
  | next
  | cont
def Fl.flow : Fl → Flow
  | .next => .next
  | .cont => .cont

mutual
inductive S where
  | asg (x : Nat) (xp : Pos) (e : E) (p : Pos)
  | asg2 (x y : Nat) (xp yp : Pos) (e : E) (p : Pos)
  | asg3 (x y z : Nat) (xp yp zp : Pos) (e : E) (p : Pos)
  | asgN2 (x y : Nat) (xp yp tp : Pos) (tk : Nat) (sx : Nat) (m : Int) (mk : Nat) (mp sp fp np : Pos) (e2 : E) (vk : Nat) (vp p : Pos)
  | aug (x : Nat) (xp : Pos) (op : Operator) (e : E) (p : Pos)
  | app (x : Nat) (xp ap : Pos) (e : E) (cp p : Pos)
  | cat (x : Nat) (xp : Pos) (es : EL) (lp xq bp p : Pos)
  | cat2 (x y : Nat) (xp yp tp : Pos) (tk : Nat) (es : EL) (lp xq bp : Pos) (e2 : E) (vk : Nat) (vp p : Pos)
  | ifs (t : T) (b o : SL) (p : Pos)
  | whl (t : T) (b : SL) (p : Pos)
  | cont (p : Pos)
inductive SL where
  | nil
  | cons (s : S) (r : SL)
end

mutual
def S.tr (nm : List Str) : S → Stmt
  | .asg x xp e p => .Assign [.Name (nmAt nm x) xp] (e.tr nm) p
  | .asg2 x y xp yp e p => .Assign [.Name (nmAt nm x) xp, .Name (nmAt nm y) yp] (e.tr nm) p
  | .asg3 x y z xp yp zp e p => .Assign [.Name (nmAt nm x) xp, .Name (nmAt nm y) yp, .Name (nmAt nm z) zp] (e.tr nm) p
  | .asgN2 x y xp yp tp tk sx m mk mp sp fp np e2 vk vp p => .Assign [.Tuple [.Name (nmAt nm x) xp, .Name (nmAt nm y) yp] tk tp] (.Tuple [(E.next sx m mk mp sp fp np).tr nm, e2.tr nm] vk vp) p
  | .aug x xp op e p => .AugAssign (.Name (nmAt nm x) xp) op (e.tr nm) p
  | .app x xp ap e cp p => .Expr (.Call (.Attribute (.Name (nmAt nm x) xp) "append" ap) [e.tr nm] [] cp) p
  | .cat x xp es lp xq bp p => .Assign [.Name (nmAt nm x) xp] (.BinOp (.Name (nmAt nm x) xq) .Add (.List (es.tr nm) lp) bp) p
  | .cat2 x y xp yp tp tk es lp xq bp e2 vk vp p => .Assign [.Tuple [.Name (nmAt nm x) xp, .Name (nmAt nm y) yp] tk tp] (.Tuple [.BinOp (.Name (nmAt nm x) xq) .Add (.List (es.tr nm) lp) bp, e2.tr nm] vk vp) p
  | .ifs t b o p => .If (t.tr nm) (b.tr nm) (o.tr nm) p
  | .whl t b p => .While (t.tr nm) (b.tr nm) [] p
  | .cont p => .Continue p
def SL.tr (nm : List Str) : SL → List Stmt
  | .nil => []
  | .cons s r => s.tr nm :: r.tr nm
end

def Slot.plain : Slot → Bool
  | .u => true
  | .v _ => true
  | _ => false

/-- may the frame store a plain value in x? -/
def canV (cf : Cfg) (l : List Slot) (x : Nat) : Bool := decide (x < cf.n) && decide (cf.cell ≠ some x) && (match l[x]? with | some sl => sl.plain | none => false)

def St.setV (σ : St) (x : Nat) (d : AV) : St := ⟨σ.loc.set x (.v d), σ.dr⟩
def St.setL (σ : St) (x : Nat) (d : List AV) : St := ⟨σ.loc.set x (.l d), σ.dr⟩

def wloop (t : List Slot → Dr → Option (Bool × Dr)) (b : St → Option (Fl × St)) : Nat → St → Option St
  | 0, _ => none
  | n + 1, σ => match t σ.loc σ.dr with
    | some (false, d) => some ⟨σ.loc, d⟩
    | some (true, d) => match b ⟨σ.loc, d⟩ with
      | some (_, σ') => wloop t b n σ'
      | none => none
    | none => none

mutual
def S.ex (cf : Cfg) : Nat → S → St → Option (Fl × St)
  | 0, _, _ => none
  | _ + 1, .asg x _ e _, σ => match e.ev cf σ.loc σ.dr with
    | some (v, d) => if canV cf σ.loc x = true then some (.next, St.setV ⟨σ.loc, d⟩ x v) else none
    | none => none
  | _ + 1, .asg2 x y _ _ e _, σ => match e.ev cf σ.loc σ.dr with
    | some (v, d) => if (canV cf σ.loc x && canV cf σ.loc y) = true then some (.next, (St.setV ⟨σ.loc, d⟩ x v).setV y v) else none
    | none => none
  | _ + 1, .asg3 x y z _ _ _ e _, σ => match e.ev cf σ.loc σ.dr with
    | some (v, d) => if (canV cf σ.loc x && canV cf σ.loc y && canV cf σ.loc z) = true then some (.next, ((St.setV ⟨σ.loc, d⟩ x v).setV y v).setV z v) else none
    | none => none
  | _ + 1, .asgN2 x y xp yp _ _ sx m mk mp sp fp np e2 _ _ _, σ => match (E.next sx m mk mp sp fp np).ev cf σ.loc σ.dr with
    | some (v, d) => match e2.ev cf σ.loc d with
      | some (v2, d2) => if (canV cf σ.loc x && canV cf σ.loc y && decide (x ≠ y) && xp.line == yp.line) = true then some (.next, (St.setV ⟨σ.loc, d2⟩ y v2).setV x v) else none
      | none => none
    | none => none
  | _ + 1, .aug x _ op e _, σ => match locV σ.loc x with
    | some u => match e.ev cf σ.loc σ.dr with
      | some (v, d) => match op, u, v with
        | .Add, .int a, .int b => if canV cf σ.loc x = true then some (.next, St.setV ⟨σ.loc, d⟩ x (.int (a + b))) else none
        | .Sub, .int a, .int b => if canV cf σ.loc x = true then some (.next, St.setV ⟨σ.loc, d⟩ x (.int (a - b))) else none
        | _, _, _ => none
      | none => none
    | none => none
  | _ + 1, .app x _ ap e cp _, σ => match locL σ.loc x with
    | some vs => match e.ev cf σ.loc σ.dr with
      | some (v, d) => if (cf.wr.contains x && ap.endLine == cp.line && decide (vs.length ≤ 1000000)) = true then some (.next, St.setL ⟨σ.loc, d⟩ x (vs ++ [v])) else none
      | none => none
    | none => none
  | _ + 1, .cat x _ es _ _ _ _, σ => match locL σ.loc x with
    | some vs => match es.ev cf σ.loc σ.dr with
      | some (ws, d) => if (cf.wr.contains x && decide (x < cf.n) && decide (vs.length ≤ 1000000) && decide (ws.length ≤ 1000)) = true then some (.next, St.setL ⟨σ.loc, d⟩ x (vs ++ ws)) else none
      | none => none
    | none => none
  | _ + 1, .cat2 x y xp yp _ _ es _ _ _ e2 _ _ _, σ => match locL σ.loc x with
    | some vs => match es.ev cf σ.loc σ.dr with
      | some (ws, d) => match e2.ev cf σ.loc d with
        | some (v2, d2) => if (cf.wr.contains x && decide (x < cf.n) && decide (cf.cell ≠ some x) && canV cf σ.loc y && decide (x ≠ y) && xp.line == yp.line && decide (vs.length ≤ 1000000) && decide (ws.length ≤ 1000)) = true then some (.next, (St.setV ⟨σ.loc, d2⟩ y v2).setL x (vs ++ ws)) else none
        | none => none
      | none => none
    | none => none
  | n + 1, .ifs t b o _, σ => match t.ev cf σ.loc σ.dr with
    | some (true, d) => b.ex cf n ⟨σ.loc, d⟩
    | some (false, d) => o.ex cf n ⟨σ.loc, d⟩
    | none => none
  | n + 1, .whl t b _, σ => (wloop (t.ev cf) (b.ex cf n) n σ).map fun σ' => (.next, σ')
  | _ + 1, .cont _, σ => some (.cont, σ)
def SL.ex (cf : Cfg) : Nat → SL → St → Option (Fl × St)
  | 0, _, _ => none
  | _ + 1, .nil, σ => some (.next, σ)
  | n + 1, .cons s r, σ => match s.ex cf n σ with
    | some (.next, σ') => r.ex cf n σ'
    | some (.cont, σ') => some (.cont, σ')
    | none => none
end

section
variable {F : FC} {σ : St} {adr : Nat → Addr} {h : Heap}

/-- what a statement may write -/
def FC.W1 (F : FC) (adr : Nat → Addr) (wr : List Nat) (b : Addr) : Prop := b = F.env.locals ∨ (∃ x, F.cell = some (x, b)) ∨ F.W0 b ∨ ∃ x, x ∈ wr ∧ b = adr x

structure GoodS (F : FC) (wr : List Nat) (adr adr' : Nat → Addr) (σ' : St) (s s' : Shared) : Prop where
  inv : Inv F σ' adr' s'.heap
  stp : Stp (F.W1 adr wr) s s'
  adr : ∀ x, adr' x = adr x ∨ (x ∈ wr ∧ s.heap.get? (adr' x) = none)
  tp : TP s.heap s'.heap
  ex : ∀ b o, s.heap.get? b = some o → ∃ o', s'.heap.get? b = some o'

theorem GoodS.refl {wr : List Nat} {adr : Nat → Addr} {σ : St} {s : Shared} (I : Inv F σ adr s.heap) : GoodS F wr adr adr σ s s := ⟨I, .refl _ _, fun _ => .inl rfl, .refl _, fun _ o e => ⟨o, e⟩⟩

theorem GoodS.trans {wr : List Nat} {adr adr' adr'' : Nat → Addr} {σ' σ'' : St} {s s' s'' : Shared} (g : GoodS F wr adr adr' σ' s s') (k : GoodS F wr adr' adr'' σ'' s' s'') : GoodS F wr adr adr'' σ'' s s'' := by
  refine ⟨k.inv, ?_, fun x => ?_, g.tp.trans k.tp, fun b o e => let ⟨o', e'⟩ := g.ex b o e; k.ex b o' e'⟩
  · have ga := g.adr
    obtain ⟨h₁, t₁, rfl, k₁⟩ := g.stp
    obtain ⟨h₂, t₂, rfl, k₂⟩ := k.stp
    refine ⟨h₂, t₂, rfl, fun b o e n => k₂ b o (k₁ b o e n) ?_⟩
    rintro (h | h | h | ⟨x, hx, eb⟩)
    · exact n (.inl h)
    · exact n (.inr (.inl h))
    · exact n (.inr (.inr (.inl h)))
    · rcases ga x with h | ⟨_, h⟩
      · exact n (.inr (.inr (.inr ⟨x, hx, eb.trans h⟩)))
      · rw [← eb, e] at h; cases h
  · rcases k.adr x with h | ⟨hx, h⟩
    · rcases g.adr x with h' | ⟨hx, h'⟩
      · exact .inl (h.trans h')
      · exact .inr ⟨hx, by rw [h]; exact h'⟩
    · refine .inr ⟨hx, ?_⟩
      cases q : s.heap.get? (adr'' x) with
      | none => rfl
      | some o =>
        obtain ⟨o', e'⟩ := g.ex _ o q
        rw [h] at e'; cases e'

theorem Good.S {wr : List Nat} {adr : Nat → Addr} {l : List Slot} {d d' : Dr} {s s' : Shared} (I : Inv F ⟨l, d⟩ adr s.heap) (g : Good F adr l d' s s') : GoodS F wr adr adr ⟨l, d'⟩ s s' :=
  ⟨g.1, g.2.mono fun _ h => .inr (.inr (.inl h)), fun _ => .inl rfl, g.tp I, fun b o e => by
    by_cases h : F.W0 b
    · obtain ⟨t, ht, rfl⟩ := h
      obtain ⟨o', q, _⟩ := (g.1.dr t ht).at_a
      exact ⟨o', q⟩
    · exact ⟨o, g.2.keep b o e h⟩⟩

theorem getElem?_set_cases {l : List Slot} {x y : Nat} {a b : Slot} (h : (l.set x a)[y]? = some b) : (y = x ∧ b = a) ∨ (y ≠ x ∧ l[y]? = some b) := by
  by_cases e : y = x
  · subst e
    left
    refine ⟨rfl, ?_⟩
    rw [List.getElem?_set] at h
    split at h
    · split at h
      · exact (Option.some.inj h).symm
      · cases h
    · rename_i hn; exact absurd rfl hn
  · right
    refine ⟨e, ?_⟩
    rw [List.getElem?_set, if_neg (fun h' => e h'.symm)] at h
    exact h

theorem canV_spec {cf : Cfg} (X : Ext F cf) {l : List Slot} {x : Nat} (h : canV cf l x = true) : ∃ n sl, F.nm[x]? = some n ∧ (∀ y c, F.cell = some (y, c) → x ≠ y) ∧ l[x]? = some sl ∧ (sl = .u ∨ ∃ d, sl = .v d) := by
  unfold canV at h
  simp only [Bool.and_eq_true, decide_eq_true_eq] at h
  obtain ⟨⟨h1, h2⟩, h3⟩ := h
  rw [X.n] at h1
  split at h3
  · rename_i sl e
    refine ⟨_, sl, List.getElem?_eq_getElem h1, fun y c ec exy => h2 (by rw [X.cell, ec, exy]; rfl), e, ?_⟩
    cases sl with
    | u => exact .inl rfl
    | v d => exact .inr ⟨d, rfl⟩
    | _ => cases h3
  · cases h3

theorem storeV (O : F.Ok) {cf : Cfg} (X : Ext F cf) {A : Around} {adr : Nat → Addr} {l : List Slot} {d : Dr} {x : Nat} {s : Shared} {u : Value} {v : AV} {Q : Unit → Shared → Prop} {Er : Value → Shared → Prop}
    (hx : canV cf l x = true) (I : Inv F ⟨l, d⟩ adr s.heap) (hu : Den s.heap u v)
    (hQ : ∀ s', GoodS F cf.wr adr adr ⟨l.set x (.v v), d⟩ s s' → (∀ b o, s.heap.get? b = some o → b ≠ F.env.locals → s'.heap.get? b = some o) → Q () s') : wpAny (model F.prog F.w) A (storeName F.env (nmAt F.nm x) u) Q Er s := by
  obtain ⟨n, sl, en, hne, el, hsl⟩ := canV_spec X hx
  rw [nmAt_of en]
  obtain ⟨m, hn, hs⟩ := I.loc
  refine wpAny_storeName_local (O.loc x n en hne) hn (fun h' hn' hsb => hQ _ ?_ (fun b o e hb => (hsb.2 b hb).trans e)) (by rw [O.kind]; rfl)
  have hL : ∀ b o, s.heap.get? b = some o → b ≠ F.env.locals → h'.get? b = some o := fun b o e hb => (hsb.2 b hb).trans e
  have htp : TP s.heap h' := fun b o e hc ⟨its, k, hd⟩ => hL b o e fun eb => by
    obtain ⟨o', es, ep, ho', hd', _⟩ := hn
    rw [eb, ho'] at e
    cases e
    rw [hd'] at hd
    cases hd
  have hlist : ∀ y vs, l[y]? = some (.l vs) → adr y ≠ F.env.locals := fun y vs e eb => (I.apart y vs e).1 (.inl eb)
  have hvar : ∀ y w', y ≠ x → VarIs F s.heap m y w' → VarIs F h' (fun z => if z = n then some u else m z) y w' := by
    intro y w' hy hv
    unfold VarIs at hv ⊢
    have loc : (∃ n', F.nm[y]? = some n' ∧ m n' = some w') → ∃ n', F.nm[y]? = some n' ∧ (if n' = n then some u else m n') = some w' := by
      rintro ⟨n', e1, e2⟩
      refine ⟨n', e1, ?_⟩
      rw [if_neg ?_]
      · exact e2
      · intro enn
        subst enn
        exact hy ((List.getElem?_inj (List.getElem?_eq_some_iff.mp e1).1 O.len).mp (e1.trans en.symm))
    split
    · rename_i y' c ec
      rw [ec] at hv
      simp only at hv
      split at hv
      · rename_i exy
        rw [if_pos exy]
        obtain ⟨o, ho, hd⟩ := hv
        exact ⟨o, hL c o ho (O.notL _ _ ec), hd⟩
      · rename_i exy
        rw [if_neg exy]
        exact loc hv
    · rename_i ec
      rw [ec] at hv
      exact loc hv
  refine ⟨⟨fun b o e => hL b o (I.base b o e) fun eb => (by rw [eb, O.fresh.1] at e; cases e), ⟨_, hn', fun y sl' e => ?_⟩, fun y c ec => ?_, fun y vs e => ?_, ?_⟩, ⟨h', _, rfl, fun b o e hw => hL b o e fun eb => hw (.inl eb)⟩, fun _ => .inl rfl, htp, fun b o e => ?_⟩
  · rcases getElem?_set_cases e with ⟨rfl, rfl⟩ | ⟨hy, e⟩
    · refine ⟨u, ?_, hu.mono htp⟩
      unfold VarIs
      split
      · rename_i y' c ec
        rw [if_neg (hne y' c ec)]
        exact ⟨n, en, if_pos rfl⟩
      · exact ⟨n, en, if_pos rfl⟩
    · have old := hs y sl' e
      cases sl' with
      | u => trivial
      | v d => obtain ⟨w', h1, h2⟩ := old; exact ⟨w', hvar y w' hy h1, h2.mono htp⟩
      | s => obtain ⟨t, h1, h2⟩ := old; exact ⟨t, h1, hvar y _ hy h2⟩
      | l vs =>
        obtain ⟨h1, ws, ⟨k, h2⟩, h3⟩ := old
        exact ⟨hvar y _ hy h1, ws, ⟨k, hL _ _ h2 (hlist y vs e)⟩, h3.mono htp⟩
  · obtain ⟨v', o, ho, hd⟩ := I.cellIs y c ec
    exact ⟨v', o, hL c o ho (O.notL _ _ ec), hd⟩
  · rcases getElem?_set_cases e with ⟨rfl, e'⟩ | ⟨hy, e⟩
    · cases e'
    · obtain ⟨a1, a2, a3⟩ := I.apart y vs e
      refine ⟨a1, a2, fun z ws e' ea => ?_⟩
      rcases getElem?_set_cases e' with ⟨_, q⟩ | ⟨hz, q⟩
      · cases q
      · exact a3 z ws q ea
  · exact fun t ht => (I.dr t ht).keep (fun o e => hL _ o e (O.stL t ht).1) fun o e => hL _ o e (O.stL t ht).2.1
  · by_cases eb : b = F.env.locals
    · obtain ⟨o', _, _, ho', _⟩ := hn'
      exact ⟨o', by rw [eb]; exact ho'⟩
    · exact ⟨o, hL b o e eb⟩

theorem Inv.own_lt (I : Inv F σ adr h) {b : Addr} (hb : F.own b) : ∃ o, h.get? b = some o := by
  rcases hb with rfl | ⟨x, e⟩ | ⟨t, ht, e⟩
  · obtain ⟨m, ⟨o, _, _, ho, _⟩, _⟩ := I.loc; exact ⟨o, ho⟩
  · obtain ⟨v, o, ho, _⟩ := I.cellIs x b e; exact ⟨o, ho⟩
  · rcases e with rfl | rfl
    · obtain ⟨o, q, _⟩ := (I.dr t ht).at_a; exact ⟨o, q⟩
    · obtain ⟨o, q, _⟩ := (I.dr t ht).at_b; exact ⟨o, q⟩

theorem Inv.list_at (I : Inv F σ adr h) {x : Nat} {vs : List AV} (e : σ.loc[x]? = some (.l vs)) : ∃ ws, h.PlainList (adr x) ws.toArray ∧ Dens h ws vs := by
  obtain ⟨m, _, hs⟩ := I.loc
  obtain ⟨_, ws, h1, h2⟩ := hs x _ e
  exact ⟨ws, h1, h2⟩

theorem Inv.notTup (I : Inv F σ adr h) {b : Addr} {o : Obj} (e : h.get? b = some o) (hc : o.cls = .type "tuple") (hd : ∃ its n, o.data = .seq its n) : ¬ F.own b ∨ ∃ t, F.st = some t ∧ b = t.b := by
  by_cases hb : F.own b
  · right
    rcases hb with rfl | ⟨x, ex⟩ | ⟨t, ht, eb⟩
    · obtain ⟨m, ⟨o', _, _, ho, hd', _⟩, _⟩ := I.loc
      rw [ho] at e; cases e
      obtain ⟨_, _, q⟩ := hd; rw [hd'] at q; cases q
    · obtain ⟨v, o', ho, hd'⟩ := I.cellIs x b ex
      rw [ho] at e; cases e
      obtain ⟨_, _, q⟩ := hd; rw [hd'] at q; cases q
    · rcases eb with rfl | rfl
      · obtain ⟨_, q, q2⟩ := (I.dr t ht).at_a
        rw [q] at e; cases e
        rw [q2] at hc
        exact absurd (Value.type.inj hc) (by decide)
      · exact ⟨t, ht, rfl⟩
  · exact .inl hb

theorem updL (O : F.Ok) {wr : List Nat} {adr : Nat → Addr} {l : List Slot} {d : Dr} {x : Nat} {s : Shared} {h' : Heap} {tk : Nat} {vs vs' : List AV} {ws : List Value}
    (I : Inv F ⟨l, d⟩ adr s.heap) (hl : l[x]? = some (.l vs)) (hw : x ∈ wr) (hs : Heap.SameBut (adr x) s.heap h') (hp : h'.PlainList (adr x) ws.toArray) (hd : Dens s.heap ws vs') :
    GoodS F wr adr adr ⟨l.set x (.l vs'), d⟩ s { s with heap := h', toks := tk } := by
  obtain ⟨a1, a2, a3⟩ := I.apart x vs hl
  have hL : ∀ b o, s.heap.get? b = some o → b ≠ adr x → h'.get? b = some o := fun b o e hb => (hs.2 b hb).trans e
  obtain ⟨ws₀, ⟨k₀, hp₀⟩, _⟩ := I.list_at hl
  have htp : TP s.heap h' := fun b o e hc _ => hL b o e fun eb => by
    rw [eb, hp₀] at e; cases e
    exact absurd (Value.type.inj hc) (by decide)
  obtain ⟨m, ⟨o, es, ep, ho, r⟩, hsl⟩ := I.loc
  have hvar : ∀ y w', VarIs F s.heap m y w' → VarIs F h' m y w' := by
    intro y w' hv
    unfold VarIs at hv ⊢
    split
    · rename_i y' c ec
      rw [ec] at hv
      simp only at hv
      split at hv
      · rename_i exy
        rw [if_pos exy]
        obtain ⟨o, ho, hd⟩ := hv
        exact ⟨o, hL c o ho fun eb => a1 (.inr (.inl ⟨y', by rw [← eb]; exact ec⟩)), hd⟩
      · rename_i exy
        rw [if_neg exy]
        exact hv
    · rename_i ec
      rw [ec] at hv
      exact hv
  have hlen : x < l.length := (List.getElem?_eq_some_iff.mp hl).1
  refine ⟨⟨fun b o e => hL b o (I.base b o e) fun eb => (by rw [eb, a2] at e; cases e), ⟨m, ⟨o, es, ep, hL _ _ ho fun eb => a1 (.inl eb.symm), r⟩, fun y sl' e => ?_⟩, fun y c ec => ?_, fun y vs₂ e => ?_, ?_⟩, ⟨h', _, rfl, fun b o e hw' => hL b o e fun eb => hw' (.inr (.inr (.inr ⟨x, hw, eb⟩)))⟩, fun _ => .inl rfl, htp, fun b o e => ?_⟩
  · rcases getElem?_set_cases e with ⟨rfl, rfl⟩ | ⟨hy, e⟩
    · have old := hsl y _ hl
      exact ⟨hvar _ _ old.1, ws, hp, hd.mono htp⟩
    · have old := hsl y sl' e
      cases sl' with
      | u => trivial
      | v d => obtain ⟨w', h1, h2⟩ := old; exact ⟨w', hvar y w' h1, h2.mono htp⟩
      | s => obtain ⟨t, h1, h2⟩ := old; exact ⟨t, h1, hvar y _ h2⟩
      | l vs₃ =>
        obtain ⟨h1, ws, ⟨k, h2⟩, h3⟩ := old
        exact ⟨hvar y _ h1, ws, ⟨k, hL _ _ h2 fun eb => hy (a3 y vs₃ e eb.symm).symm⟩, h3.mono htp⟩
  · obtain ⟨v', o, ho, hd⟩ := I.cellIs y c ec
    exact ⟨v', o, hL c o ho fun eb => a1 (.inr (.inl ⟨y, by rw [← eb]; exact ec⟩)), hd⟩
  · have key : ∀ (z : Nat) (ws : List AV), (l.set x (Slot.l vs'))[z]? = some (Slot.l ws) → ∃ ws', l[z]? = some (Slot.l ws') := by
      intro z ws e
      rcases getElem?_set_cases e with ⟨rfl, _⟩ | ⟨_, q⟩
      · exact ⟨vs, hl⟩
      · exact ⟨ws, q⟩
    obtain ⟨vs₃, e₃⟩ := key y vs₂ e
    obtain ⟨b1, b2, b3⟩ := I.apart y vs₃ e₃
    refine ⟨b1, b2, fun z ws e' ea => ?_⟩
    obtain ⟨ws', q⟩ := key z ws e'
    exact b3 z ws' q ea
  · exact fun t ht => (I.dr t ht).keep (fun o e => hL _ o e fun eb => a1 (.inr (.inr ⟨t, ht, .inl eb.symm⟩))) fun o e => hL _ o e fun eb => a1 (.inr (.inr ⟨t, ht, .inr eb.symm⟩))
  · by_cases eb : b = adr x
    · obtain ⟨k, q⟩ := hp
      exact ⟨_, by rw [eb]; exact q⟩
    · exact ⟨o, hL b o e eb⟩

theorem storeLk (O : F.Ok) {wr : List Nat} {A : Around} {adr₀ adr : Nat → Addr} {l : List Slot} {d : Dr} {x : Nat} {s₀ s : Shared} {ws : List Value} {vs : List AV} {D : Addr} {Q : Unit → Shared → Prop} {Er : Value → Shared → Prop}
    (hx : x < F.nm.length) (hw : x ∈ wr) (g : GoodS F wr adr₀ adr ⟨l, d⟩ s₀ s) (hp : s.heap.PlainList D ws.toArray) (hd : Dens s.heap ws vs) (dnone : s₀.heap.get? D = none) (downD : ¬ F.own D) (hbD : F.hb.get? D = none)
    (fresh : ∀ y vs, l[y]? = some (.l vs) → adr y ≠ D)
    (hQ : ∀ s', GoodS F wr adr₀ (fun y => if y = x then D else adr y) ⟨l.set x (.l vs), d⟩ s₀ s' → (∀ b o, s.heap.get? b = some o → ¬ F.own b → s'.heap.get? b = some o) → Q () s') :
    wpAny (model F.prog F.w) A (storeName F.env (nmAt F.nm x) (.ref D)) Q Er s := by
  have I := g.inv
  have en : F.nm[x]? = some F.nm[x] := List.getElem?_eq_getElem hx
  generalize hN : F.nm[x] = n at en
  rw [nmAt_of en]
  obtain ⟨kD, hpD⟩ := hp
  obtain ⟨m, hn, hsl⟩ := I.loc
  -- the final step, common to both ways of storing
  have fin : ∀ (Z : Addr) (h' : Heap) (m' : Str → Option Value), (Z = F.env.locals ∨ ∃ y, F.cell = some (y, Z)) → Heap.SameBut Z s.heap h' →
      h'.Ns F.env.locals m' → VarIs F h' m' x (.ref D) → (∀ y c, F.cell = some (y, c) → ∃ v, h'.IsCell c v) → (∀ y w', y ≠ x → VarIs F s.heap m y w' → VarIs F h' m' y w') → ∀ tk,
      GoodS F wr adr₀ (fun y => if y = x then D else adr y) ⟨l.set x (.l vs), d⟩ s₀ { s with heap := h', toks := tk } := by
    intro Z h' m' hZ hs hn' hvx hcell hvar tk
    have hL : ∀ b o, s.heap.get? b = some o → b ≠ Z → h'.get? b = some o := fun b o e hb => (hs.2 b hb).trans e
    have ownZ : F.own Z := by
      rcases hZ with h | h
      · exact .inl h
      · exact .inr (.inl h)
    have htp : TP s.heap h' := fun b o e hc hd' => hL b o e fun eb => by
      subst eb
      rcases I.notTup e hc hd' with h | ⟨t, ht, h⟩
      · exact h ownZ
      · have q := O.stL t ht
        rcases hZ with h' | ⟨y, h'⟩
        · exact q.2.1 (h.symm.trans h')
        · exact (q.2.2.2 y _ h').2 h
    have hDl : h'.get? D = some { cls := .type "list", data := .seq ws.toArray kD } := (hs.2 D fun e => downD (e ▸ ownZ)).trans hpD
    have stp' : Stp (F.W1 adr₀ wr) s₀ { s with heap := h', toks := tk } := by
      obtain ⟨h₁, t₁, e₁, k₁⟩ := g.stp
      refine ⟨h', tk, by rw [e₁], fun b o e hw' => ?_⟩
      have q := k₁ b o e hw'
      have e₂ : s.heap = h₁ := by rw [e₁]
      rw [← e₂] at q
      refine hL b o q fun eb => hw' ?_
      rcases hZ with h | ⟨y, h⟩
      · exact .inl (eb.trans h)
      · exact .inr (.inl ⟨y, by rw [eb]; exact h⟩)
    refine ⟨⟨fun b o e => hL b o (I.base b o e) fun eb => ?_, ⟨m', hn', fun y sl' e => ?_⟩, hcell, fun y vs₂ e => ?_, ?_⟩, stp', fun y => ?_, g.tp.trans htp, fun b o e => ?_⟩
    · rcases hZ with h | ⟨y, h⟩
      · rw [eb, h, O.fresh.1] at e; cases e
      · rw [eb, O.fresh.2.1 y Z h] at e; cases e
    · rcases getElem?_set_cases e with ⟨rfl, rfl⟩ | ⟨hy, e⟩
      · refine ⟨by simp only [if_pos]; exact hvx, ws, by simp only [if_pos]; exact ⟨_, hDl⟩, hd.mono htp⟩
      · have old := hsl y sl' e
        cases sl' with
        | u => trivial
        | v d => obtain ⟨w', h1, h2⟩ := old; exact ⟨w', hvar y w' hy h1, h2.mono htp⟩
        | s => obtain ⟨t, h1, h2⟩ := old; exact ⟨t, h1, hvar y _ hy h2⟩
        | l vs₃ =>
          obtain ⟨h1, ws, ⟨k, h2⟩, h3⟩ := old
          simp only [SlotOk]
          rw [if_neg hy]
          refine ⟨hvar y _ hy h1, ws, ⟨k, hL _ _ h2 fun eb => (I.apart y vs₃ e).1 (eb ▸ ownZ)⟩, h3.mono htp⟩
    · by_cases hy : y = x
      · subst hy
        simp only [if_pos]
        refine ⟨downD, hbD, fun z ws' e' ea => ?_⟩
        by_cases hz : z = y
        · exact hz.symm
        · rw [if_neg hz] at ea
          rcases getElem?_set_cases e' with ⟨q, _⟩ | ⟨_, q⟩
          · exact q.symm
          · exact absurd ea.symm (fresh z ws' q)
      · rcases getElem?_set_cases e with ⟨q, _⟩ | ⟨_, e⟩
        · exact absurd q hy
        · simp only [if_neg hy]
          obtain ⟨b1, b2, b3⟩ := I.apart y vs₂ e
          refine ⟨b1, b2, fun z ws' e' ea => ?_⟩
          by_cases hz : z = x
          · rw [if_pos hz] at ea
            exact absurd ea (fresh y vs₂ e)
          · rw [if_neg hz] at ea
            rcases getElem?_set_cases e' with ⟨q, _⟩ | ⟨_, q⟩
            · exact absurd q hz
            · exact b3 z ws' q ea
    · intro t ht
      have q := O.stL t ht
      refine (I.dr t ht).keep (fun o e => hL _ o e fun eb => ?_) fun o e => hL _ o e fun eb => ?_
      · rcases hZ with h | ⟨y, h⟩
        · exact q.1 (eb.trans h)
        · exact (q.2.2.2 y _ h).1 eb.symm
      · rcases hZ with h | ⟨y, h⟩
        · exact q.2.1 (eb.trans h)
        · exact (q.2.2.2 y _ h).2 eb.symm
    · by_cases hy : y = x
      · right
        simp only [if_pos hy]
        exact ⟨by rw [hy]; exact hw, dnone⟩
      · simp only [if_neg hy]
        exact g.adr y
    · obtain ⟨o₁, e₁⟩ := g.ex b o e
      by_cases eb : b = Z
      · rcases hZ with h | ⟨y, h⟩
        · obtain ⟨o', _, _, ho', _⟩ := hn'
          exact ⟨o', by rw [eb, h]; exact ho'⟩
        · obtain ⟨v, o', ho', _⟩ := hcell y Z h
          exact ⟨o', by rw [eb]; exact ho'⟩
      · exact ⟨o₁, hL b o₁ e₁ eb⟩
  by_cases hc : ∃ c, F.cell = some (x, c)
  · obtain ⟨c, ec⟩ := hc
    obtain ⟨n', e1, e2, e3⟩ := O.cell x c ec
    rw [en] at e1; cases e1
    obtain ⟨v₀, hc₀⟩ := I.cellIs x c ec
    refine wpAny_storeName_cell O.kind e2 e3 (v₀ := v₀) hc₀ fun h' hc' hs => hQ _ ?_ (fun b o e hb => (hs.2 b fun eb => hb (.inr (.inl ⟨x, by rw [ec, eb]⟩))).trans e)
    have hloc : F.env.locals ≠ c := fun e => O.notL x c ec e.symm
    refine fin c h' m (.inr ⟨x, ec⟩) hs (hn.sameBut hs hloc) ?_ ?_ ?_ _
    · unfold VarIs; rw [ec]; simp only [if_true]; exact hc'
    · intro y c' ec'
      rw [ec] at ec'; cases ec'
      exact ⟨_, hc'⟩
    · intro y w' hy hv
      unfold VarIs at hv ⊢
      rw [ec] at hv ⊢
      simp only at hv ⊢
      rw [if_neg hy] at hv ⊢
      exact hv
  · have hne : ∀ y c, F.cell = some (y, c) → x ≠ y := fun y c e exy => hc ⟨c, by rw [exy]; exact e⟩
    refine wpAny_storeName_local (O.loc x n en hne) hn (fun h' hn' hs => hQ _ ?_ (fun b o e hb => (hs.2 b fun eb => hb (.inl eb)).trans e)) (by rw [O.kind]; rfl)
    refine fin F.env.locals h' _ (.inl rfl) hs hn' ?_ ?_ ?_ _
    · unfold VarIs
      split
      · rename_i y' c ec
        rw [if_neg (hne y' c ec)]
        exact ⟨n, en, if_pos rfl⟩
      · exact ⟨n, en, if_pos rfl⟩
    · intro y c ec
      obtain ⟨v', o, ho, hd⟩ := I.cellIs y c ec
      exact ⟨v', o, (hs.2 c (O.notL _ _ ec)).trans ho, hd⟩
    · intro y w' hy hv
      unfold VarIs at hv ⊢
      have loc : (∃ n', F.nm[y]? = some n' ∧ m n' = some w') → ∃ n', F.nm[y]? = some n' ∧ (if n' = n then some (.ref D) else m n') = some w' := by
        rintro ⟨n', e1, e2⟩
        refine ⟨n', e1, ?_⟩
        rw [if_neg ?_]
        · exact e2
        · intro enn
          subst enn
          exact hy ((List.getElem?_inj (List.getElem?_eq_some_iff.mp e1).1 O.len).mp (e1.trans en.symm))
      split
      · rename_i y' c ec
        rw [ec] at hv
        simp only at hv
        split at hv
        · rename_i exy
          rw [if_pos exy]
          obtain ⟨o, ho, hd⟩ := hv
          exact ⟨o, (hs.2 c (O.notL _ _ ec)).trans ho, hd⟩
        · rename_i exy
          rw [if_neg exy]
          exact loc hv
      · rename_i ec
        rw [ec] at hv
        exact loc hv

theorem storeL (O : F.Ok) {wr : List Nat} {A : Around} {adr₀ adr : Nat → Addr} {l : List Slot} {d : Dr} {x : Nat} {s₀ s : Shared} {ws : List Value} {vs : List AV} {D : Addr} {Q : Unit → Shared → Prop} {Er : Value → Shared → Prop}
    (hx : x < F.nm.length) (hw : x ∈ wr) (g : GoodS F wr adr₀ adr ⟨l, d⟩ s₀ s) (hp : s.heap.PlainList D ws.toArray) (hd : Dens s.heap ws vs) (dnone : s₀.heap.get? D = none) (downD : ¬ F.own D) (hbD : F.hb.get? D = none)
    (fresh : ∀ y vs, l[y]? = some (.l vs) → adr y ≠ D)
    (hQ : ∀ s', GoodS F wr adr₀ (fun y => if y = x then D else adr y) ⟨l.set x (.l vs), d⟩ s₀ s' → Q () s') :
    wpAny (model F.prog F.w) A (storeName F.env (nmAt F.nm x) (.ref D)) Q Er s := storeLk O hx hw g hp hd dnone downD hbD fresh fun s' g _ => hQ s' g

/-- a new object -/
theorem GoodS.grow (O : F.Ok) {wr : List Nat} {adr' : Nat → Addr} {s s' : Shared} {h' : Heap} {tk : Nat} (g : GoodS F wr adr adr' σ s s') (hk : ∀ b o, s'.heap.get? b = some o → h'.get? b = some o) :
    GoodS F wr adr adr' σ s { s' with heap := h', toks := tk } := by
  refine ⟨g.inv.grow O hk, ?_, g.adr, g.tp.trans (.of_keeps hk), fun b o e => let ⟨o', e'⟩ := g.ex b o e; ⟨o', hk _ _ e'⟩⟩
  obtain ⟨h₁, t₁, rfl, k₁⟩ := g.stp
  exact ⟨h', tk, rfl, fun b o e n => hk b o (k₁ b o e n)⟩

/-- nothing that the state knows lies at the heap's end -/
theorem Inv.fresh (I : Inv F σ adr h) : h.get? h.objs.size = none ∧ ¬ F.own h.objs.size ∧ F.hb.get? h.objs.size = none ∧ ∀ y vs, σ.loc[y]? = some (.l vs) → adr y ≠ h.objs.size := by
  have no : ∀ b o, h.get? b = some o → b ≠ h.objs.size := fun b o e eb => absurd (Heap.lt_size e) (by rw [eb]; exact Nat.lt_irrefl _)
  refine ⟨?_, fun hb => ?_, ?_, fun y vs e => ?_⟩
  · cases q : h.get? h.objs.size with
    | none => rfl
    | some o => exact absurd rfl (no _ o q)
  · obtain ⟨o, ho⟩ := I.own_lt hb
    exact no _ _ ho rfl
  · cases q : F.hb.get? h.objs.size with
    | none => rfl
    | some o => exact absurd rfl (no _ o (I.base _ _ q))
  · obtain ⟨_, ⟨_, p⟩, _⟩ := I.list_at e
    exact no _ _ p
end
end Mine

namespace Mine
open PySem PySem.W PySem.Calls PyProof.Rows PySem.Spec

section
variable {F : FC}

theorem tr_swap (nm : List Str) (e : E) (tgt : Option Expr) (ln : Nat) (env : Env) : swapsWith (e.tr nm) tgt ln env = pure false := by cases e <;> rfl
theorem inter (O : F.Ok) : interactive F.env = false := by unfold interactive; rw [O.kind]; rfl
theorem tr_assign1 (O : F.Ok) {cf : Cfg} (X : Ext F cf) {A : Around} {adr : Nat → Addr} {l : List Slot} {d : Dr} {x : Nat} {xp : Pos} {s : Shared} {u : Value} {v : AV} {Q : Unit → Shared → Prop} {Er : Value → Shared → Prop}
    (hx : canV cf l x = true) (I : Inv F ⟨l, d⟩ adr s.heap) (hu : Den s.heap u v)
    (hQ : ∀ s', GoodS F cf.wr adr adr ⟨l.set x (.v v), d⟩ s s' → (∀ b o, s.heap.get? b = some o → b ≠ F.env.locals → s'.heap.get? b = some o) → Q () s') : wpAny (model F.prog F.w) A (assign (.Name (nmAt F.nm x) xp) F.env u) Q Er s :=
  wpAny_assign_Name (storeV O X hx I hu hQ)
theorem tr_bind1 (O : F.Ok) {cf : Cfg} (X : Ext F cf) {A : Around} {adr : Nat → Addr} {l : List Slot} {d : Dr} {x : Nat} {s : Shared} {u : Value} {v : AV} {Q : Unit → Shared → Prop} {Er : Value → Shared → Prop}
    (hx : canV cf l x = true) (I : Inv F ⟨l, d⟩ adr s.heap) (hu : Den s.heap u v)
    (hQ : ∀ s', GoodS F cf.wr adr adr ⟨l.set x (.v v), d⟩ s s' → (∀ b o, s.heap.get? b = some o → b ≠ F.env.locals → s'.heap.get? b = some o) → Q () s') : wpAny (model F.prog F.w) A (bindName F.env (nmAt F.nm x) u) Q Er s :=
  wpAny_bindName (storeV O X hx I hu hQ)

theorem canV_set {cf : Cfg} {l : List Slot} {x y : Nat} {v : AV} (h : canV cf l x = true) : canV cf (l.set y (.v v)) x = true := by
  unfold canV at h ⊢
  simp only [Bool.and_eq_true] at h ⊢
  refine ⟨h.1, ?_⟩
  rw [List.getElem?_set]
  by_cases e : y = x
  · subst e
    have : y < l.length := by
      have h2 := h.2
      cases q : l[y]? with
      | none => rw [q] at h2; cases h2
      | some sl => exact (List.getElem?_eq_some_iff.mp q).1
    rw [if_pos rfl, if_pos this]; rfl
  · rw [if_neg e]; exact h.2

theorem locL_some {l : List Slot} {x : Nat} {vs : List AV} (h : locL l x = some vs) : l[x]? = some (.l vs) := by
  unfold locL at h
  split at h
  · cases h; assumption
  · cases h
theorem locV_some {l : List Slot} {x : Nat} {v : AV} (h : locV l x = some v) : l[x]? = some (.v v) := by
  unfold locV at h
  split at h
  · cases h; assumption
  · cases h

theorem next_star (nm : List Str) (env : Env) (e : E) : starEach [e.tr nm] env = [(false, eval (e.tr nm) env)] := tr_star nm env e []

/-- the tree of a pair of stores that the compiler swaps -/
theorem swapped_two (O : F.Ok) {x y : Nat} {xp yp tp : Pos} {tk : Nat} {e1 e2 : Expr} {vk : Nat} {vp : Pos} {n1 n2 : Str} (h1 : F.nm[x]? = some n1) (h2 : F.nm[y]? = some n2) (hx : ∀ z c, F.cell = some (z, c) → x ≠ z) (hy : ∀ z c, F.cell = some (z, c) → y ≠ z)
    (hxy : x ≠ y) (hl : (xp.line == yp.line) = true) (hs1 : (∀ a p, e1 ≠ .Starred a p)) (hs2 : (∀ a p, e2 ≠ .Starred a p)) (hf : foldedForSure 8 e1 = false) (hc : constantsAlone 8 e1 = false) :
    swappedStores [.Tuple [.Name (nmAt F.nm x) xp, .Name (nmAt F.nm y) yp] tk tp] (.Tuple [e1, e2] vk vp) F.env = pure (some [nmAt F.nm x, nmAt F.nm y]) := by
  rw [nmAt_of h1, nmAt_of h2]
  have k1 := O.loc x n1 h1 hx
  have k2 := O.loc y n2 h2 hy
  have bk : (F.env.blockKind != .function) = false := by
    simp only [Env.blockKind, O.kind, ScopeKind.isAnnotationScope]; rfl
  have hne : n1 ≠ n2 := fun e => hxy ((List.getElem?_inj (List.getElem?_eq_some_iff.mp h1).1 O.len).mp (h1.trans (e ▸ h2.symm)))
  have hdup : ([n1, n2] : List Str).eraseDups.length = 2 := by
    have h' : (n2 == n1) = false := beq_eq_false_iff_ne.mpr (Ne.symm hne)
    simp [List.eraseDups_cons, h']
  have hl2 : (yp.line == xp.line) = true := by rw [beq_iff_eq] at hl ⊢; exact hl.symm
  unfold swappedStores
  simp only [List.length_cons, List.length_nil, bk, Bool.or_false]
  simp only [List.head?_cons, Option.map_some, Option.getD_some, List.filterMap_cons, List.filterMap_nil, Expr.pos, k1, k2, hl2, beq_self_eq_true, Bool.and_self, if_true, List.length_cons, List.length_nil, hdup, bne_self_eq_false, Bool.or_false, List.all_cons, hf, hc, Bool.false_and, Bool.false_eq_true, if_false]
  first | rfl | simp

theorem next_sound (O : F.Ok) {cf : Cfg} (X : Ext F cf) {adr : Nat → Addr} {l : List Slot} {A : Around} (hA : AOk 2 A) {e : E} {d : Dr} {v : AV} {d' : Dr} (ev : e.ev cf l d = some (v, d')) {s : Shared} {Q : Value → Shared → Prop} {Er : Value → Shared → Prop}
    (I : Inv F ⟨l, d⟩ adr s.heap) (hQ : ∀ u s', Den s'.heap u v → GoodS F cf.wr adr adr ⟨l, d'⟩ s s' → Q u s') : wpAny (model F.prog F.w) A (eval (e.tr F.nm) F.env) Q Er s :=
  E.sound O X hA e ev I fun u s' hu g => hQ u s' hu (g.S I)

theorem loadn_v (O : F.Ok) {A : Around} {adr : Nat → Addr} {l : List Slot} {d : Dr} {x : Nat} {v : AV} {s : Shared} {Q : Value → Shared → Prop} {Er : Value → Shared → Prop} (I : Inv F ⟨l, d⟩ adr s.heap) (hl : locV l x = some v) (hQ : ∀ u, Den s.heap u v → Q u s) :
    wpAny (model F.prog F.w) A (loadName F.env (nmAt F.nm x)) Q Er s := by
  obtain ⟨m, hn, hs⟩ := I.loc
  obtain ⟨u, h1, h2⟩ := hs x _ (locV_some hl)
  unfold VarIs at h1
  have loc : (∃ n, F.nm[x]? = some n ∧ m n = some u) → (∀ y c, F.cell = some (y, c) → x ≠ y) → wpAny (model F.prog F.w) A (loadName F.env (nmAt F.nm x)) Q Er s := by
    rintro ⟨n, e1, e2⟩ hne
    rw [nmAt_of e1]
    exact wpAny_loadName_local O.kind (O.loc x n e1 hne) hn e2 (hQ u h2)
  split at h1
  · rename_i y c ec
    split at h1
    · rename_i exy
      subst exy
      obtain ⟨n, e1, e2, e3⟩ := O.cell x c ec
      rw [nmAt_of e1]
      exact wpAny_loadName_cell O.kind e2 e3 h1 (hQ u h2)
    · rename_i exy
      exact loc h1 fun y' c' e => by rw [ec] at e; cases e; exact exy
  · rename_i ec
    exact loc h1 fun y c e => by rw [ec] at e; cases e

theorem cat_sound (O : F.Ok) {cf : Cfg} (X : Ext F cf) {adr : Nat → Addr} {l : List Slot} {A : Around} (hA : AOk 2 A) {x : Nat} {es : EL} {d : Dr} {vs ws : List AV} {d' : Dr} {xq lp bp : Pos} (el : locL l x = some vs) (ev : es.ev cf l d = some (ws, d'))
    (hle : vs.length ≤ 1000000) (hle2 : ws.length ≤ 1000) {s : Shared} {Q : Value → Shared → Prop} {Er : Value → Shared → Prop} (I : Inv F ⟨l, d⟩ adr s.heap)
    (hQ : ∀ D us s', GoodS F cf.wr adr adr ⟨l, d'⟩ s s' → s'.heap.PlainList D us.toArray → Dens s'.heap us (vs ++ ws) → (s.heap.get? D = none ∧ ¬ F.own D ∧ F.hb.get? D = none ∧ ∀ y vs, l[y]? = some (.l vs) → adr y ≠ D) → Q (.ref D) s') :
    wpAny (model F.prog F.w) A (eval (.BinOp (.Name (nmAt F.nm x) xq) .Add (.List (es.tr F.nm) lp) bp) F.env) Q Er s := by
  refine wpAny_BinOp (load_l O I el fun us₀ hp₀ hd₀ => wpAny_List (EL.sound O X hA es ev I fun us₁ s₁ hus g₁ => ?_))
  have hl := hus.length
  refine ⟨by rw [hl]; exact Nat.le_trans hle2 (by decide), ?_⟩
  have G := g₁.S (wr := cf.wr) I
  have g₂ : GoodS F cf.wr adr adr ⟨l, d'⟩ s { s₁ with heap := s₁.heap.push { cls := .type "list", data := .seq us₁.toArray } } := G.grow O fun _ _ e => Heap.get?_push_of_some _ e
  obtain ⟨ws', ⟨k, hp'⟩, hd'⟩ := g₁.1.list_at (locL_some el)
  have hp2 : (s₁.heap.push { cls := .type "list", data := .seq us₁.toArray }).get? (adr x) = some { cls := .type "list", data := .seq ws'.toArray k } := Heap.get?_push_of_some _ hp'
  have hn2 : (s₁.heap.push { cls := .type "list", data := .seq us₁.toArray }).get? s₁.heap.objs.size = some { cls := .type "list", data := .seq us₁.toArray } := Heap.get?_push_size _ rfl
  have hsz : ws'.toArray.size + us₁.toArray.size ≤ sizeLine := by
    simp only [List.size_toArray]
    rw [hd'.length, hl]
    exact Nat.le_trans (Nat.add_le_add hle hle2) (by decide)
  refine concat_meets (s := { s₁ with heap := s₁.heap.push { cls := .type "list", data := .seq us₁.toArray } }) ⟨_, hp2, rfl⟩ ⟨_, hn2, rfl⟩ noFill_list_add seq_list_add PySem.F.slot_list_add PySem.F.entry_list_add (PySem.F.args_list_add_2 _ _)
    (list_addW (adr x) s₁.heap.objs.size ws'.toArray us₁.toArray k 0 none none #[] #[] hsz) ⟨hp2, hn2, ?_⟩
  have e : ws'.toArray ++ us₁.toArray = (ws' ++ us₁).toArray := by simp
  rw [e]
  have g₃ : GoodS F cf.wr adr adr ⟨l, d'⟩ s { s₁ with heap := (s₁.heap.push { cls := .type "list", data := .seq us₁.toArray }).push { cls := .type "list", data := .seq (ws' ++ us₁).toArray } } := g₂.grow O fun _ _ e => Heap.get?_push_of_some _ e
  have fr := Inv.fresh g₂.inv
  refine hQ _ _ _ g₃ ⟨_, Heap.get?_push_size _ rfl⟩ ((hd'.append hus).mono (.of_keeps fun _ _ e => Heap.get?_push_of_some _ (Heap.get?_push_of_some _ e))) ⟨?_, fr.2.1, fr.2.2.1, fr.2.2.2⟩
  cases q : s.heap.get? (s₁.heap.push { cls := .type "list", data := .seq us₁.toArray }).objs.size with
  | none => rfl
  | some o =>
    obtain ⟨o', e'⟩ := g₂.ex _ o q
    exact absurd (fr.1.symm.trans e') (by simp)

theorem contains_mem {l : List Nat} {x : Nat} (h : l.contains x = true) : x ∈ l := by simpa using h

theorem asgN2_sound (O : F.Ok) {cf : Cfg} (X : Ext F cf) {adr : Nat → Addr} {l : List Slot} {A : Around} (hA : AOk 2 A) {x y : Nat} {e2 : E} {d : Dr} {v v2 : AV} {d' d2 : Dr} {xp yp tp vp p : Pos} {tk vk : Nat} {sx : Nat} {m : Int} {mk : Nat} {mp sp fp np : Pos}
    (ev : (E.next sx m mk mp sp fp np).ev cf l d = some (v, d')) (ev2 : e2.ev cf l d' = some (v2, d2)) (hx : canV cf l x = true) (hy : canV cf l y = true) (hxy : x ≠ y) (hln : (xp.line == yp.line) = true)
    {s : Shared} {Q : Flow → Shared → Prop} {Er : Value → Shared → Prop} (I : Inv F ⟨l, d⟩ adr s.heap) (hQ : ∀ s', GoodS F cf.wr adr adr ((St.setV ⟨l, d2⟩ y v2).setV x v) s s' → Q .next s') :
    wpAny (model F.prog F.w) A (exec (.Assign [.Tuple [.Name (nmAt F.nm x) xp, .Name (nmAt F.nm y) yp] tk tp] (.Tuple [(E.next sx m mk mp sp fp np).tr F.nm, e2.tr F.nm] vk vp) p) F.env) Q Er s := by
  obtain ⟨n1, _, e1, c1, _⟩ := canV_spec X hx
  obtain ⟨n2, _, e2', c2, _⟩ := canV_spec X hy
  refine Assign_Tuple_swapped ?_ (by rfl) (swapped_two O e1 e2' c1 c2 hxy hln (by intro a p h; cases h) (by intro a p h; cases e2 <;> cases h) (by rfl) (by rfl))
  refine wpAny_Tuple (spliced_more (next_sound O X hA ev I fun u s₁ hu g₁ => spliced_more (next_sound O X hA ev2 g₁.inv fun u2 s₂ hu2 g₂ => spliced_none ?_) (tr_star _ _ _ _)) rfl)
  refine ⟨show 2 ≤ sizeLine by decide, ?_⟩
  show wpAny _ A (unpackItems (.ref s₂.heap.objs.size) (#[u, u2] : Array Value).size none) _ _ _
  refine unpackItems_tuple hA.1 (IsTup.new _ _) fun h' he => ?_
  have keep : ∀ b o, s₂.heap.get? b = some o → h'.get? b = some o := fun b o e => he b o (Nat.ne_of_lt (Nat.lt_of_lt_of_le (Heap.lt_size e) (by rw [Heap.size_push]; exact Nat.le_succ _))) (Heap.get?_push_of_some _ e)
  have g₃ : GoodS F cf.wr adr adr ⟨l, d2⟩ s { s₂ with heap := h' } := (g₁.trans g₂).grow O keep
  show wpAny _ A (do holding [u] (bindName F.env (nmAt F.nm y) u2); do holding [] (bindName F.env (nmAt F.nm x) u); pure ()) _ _ { s₂ with heap := h' }
  refine wpAny_bind (wpAny_holding (tr_bind1 O X hy g₃.inv (hu2.mono (.of_keeps keep)) fun s₄ g₄ _ => ?_))
  refine wpAny_bind (wpAny_holding (tr_bind1 O X (canV_set hx) g₄.inv (((hu.mono g₂.tp).mono (.of_keeps keep)).mono g₄.tp) fun s₅ g₅ _ => wpAny_pure ?_))
  exact hQ _ ((g₃.trans g₄).trans g₅)

theorem cat2_sound (O : F.Ok) {cf : Cfg} (X : Ext F cf) {adr : Nat → Addr} {l : List Slot} {A : Around} (hA : AOk 2 A) {x y : Nat} {es : EL} {e2 : E} {d : Dr} {vs ws : List AV} {v2 : AV} {d' d2 : Dr} {xp yp tp xq lp bp vp p : Pos} {tk vk : Nat}
    (el : locL l x = some vs) (ev : es.ev cf l d = some (ws, d')) (ev2 : e2.ev cf l d' = some (v2, d2)) (hle : vs.length ≤ 1000000) (hle2 : ws.length ≤ 1000) (hn' : x < F.nm.length) (hw : x ∈ cf.wr) (c1 : ∀ z c, F.cell = some (z, c) → x ≠ z)
    (hy : canV cf l y = true) (hxy : x ≠ y) (hln : (xp.line == yp.line) = true)
    {s : Shared} {Q : Flow → Shared → Prop} {Er : Value → Shared → Prop} (I : Inv F ⟨l, d⟩ adr s.heap) (hQ : ∀ adr' s', GoodS F cf.wr adr adr' ((St.setV ⟨l, d2⟩ y v2).setL x (vs ++ ws)) s s' → Q .next s') :
    wpAny (model F.prog F.w) A (exec (.Assign [.Tuple [.Name (nmAt F.nm x) xp, .Name (nmAt F.nm y) yp] tk tp] (.Tuple [.BinOp (.Name (nmAt F.nm x) xq) .Add (.List (es.tr F.nm) lp) bp, e2.tr F.nm] vk vp) p) F.env) Q Er s := by
  obtain ⟨n2, _, e2', c2, _⟩ := canV_spec X hy
  have e1 : F.nm[x]? = some F.nm[x] := List.getElem?_eq_getElem hn'
  refine Assign_Tuple_swapped ?_ (by rfl) (swapped_two O e1 e2' c1 c2 hxy hln (by intro a p h; cases h) (by intro a p h; cases e2 <;> cases h) (by rfl) ?_)
  · refine wpAny_Tuple (spliced_more (cat_sound O X hA el ev hle hle2 I fun D us s₁ g₁ hp hd hfr => ?_) rfl)
    refine spliced_more (E.sound O X hA e2 ev2 g₁.inv fun u2 s₂ hu2 g₂' => spliced_none ?_) (tr_star _ _ _ _)
    have g₂ := g₂'.S (wr := cf.wr) g₁.inv
    refine ⟨show 2 ≤ sizeLine by decide, ?_⟩
    show wpAny _ A (unpackItems (.ref s₂.heap.objs.size) (#[.ref D, u2] : Array Value).size none) _ _ _
    refine unpackItems_tuple hA.1 (IsTup.new _ _) fun h' he => ?_
    have keep : ∀ b o, s₂.heap.get? b = some o → h'.get? b = some o := fun b o e => he b o (Nat.ne_of_lt (Nat.lt_of_lt_of_le (Heap.lt_size e) (by rw [Heap.size_push]; exact Nat.le_succ _))) (Heap.get?_push_of_some _ e)
    have g₃ : GoodS F cf.wr adr adr ⟨l, d2⟩ s { s₂ with heap := h' } := (g₁.trans g₂).grow O keep
    show wpAny _ A (do holding [.ref D] (bindName F.env (nmAt F.nm y) u2); do holding [] (bindName F.env (nmAt F.nm x) (.ref D)); pure ()) _ _ { s₂ with heap := h' }
    refine wpAny_bind (wpAny_holding (tr_bind1 O X hy g₃.inv (hu2.mono (.of_keeps keep)) fun s₄ g₄ hk => ?_))
    have hk₂ : ∀ o, s₁.heap.get? D = some o → s₂.heap.get? D = some o := fun o e => g₂'.2.keep D o e fun ⟨t, ht, eb⟩ => hfr.2.1 (.inr (.inr ⟨t, ht, .inl eb⟩))
    have hk₄ : ∀ o, h'.get? D = some o → s₄.heap.get? D = some o := fun o e => hk D o e fun eb => hfr.2.1 (.inl eb)
    refine wpAny_bind (wpAny_holding (wpAny_bindName (storeL O hn' hw (g₃.trans g₄) (hp.at fun o e => hk₄ o (keep _ _ (hk₂ o e))) (((hd.mono g₂.tp).mono (.of_keeps keep)).mono g₄.tp) hfr.1 hfr.2.1 hfr.2.2.1 ?_ fun s₅ g₅ => wpAny_pure ?_)))
    · intro z vs' ez
      rcases getElem?_set_cases ez with ⟨_, q⟩ | ⟨_, q⟩
      · cases q
      · exact hfr.2.2.2 z vs' q
    · exact hQ _ _ g₅
  · show (constantsAlone 6 (.Name (nmAt F.nm x) xq) && _) = false
    rw [nmAt_of e1]
    show ((F.nm[x] == ("__debug__" : Str)) && _) = false
    rw [O.dbg _ (List.mem_of_getElem? e1)]
    rfl

set_option maxHeartbeats 1000000 in
theorem ex_sound (O : F.Ok) {cf : Cfg} (X : Ext F cf) {A : Around} (hA : AOk 2 A) : ∀ n : Nat,
    (∀ (st : S) (σ σ' : St) (fl : Fl), st.ex cf n σ = some (fl, σ') → ∀ (adr : Nat → Addr) (s : Shared) (Q : Flow → Shared → Prop) (Er : Value → Shared → Prop), Inv F σ adr s.heap →
      (∀ adr' s', GoodS F cf.wr adr adr' σ' s s' → Q fl.flow s') → wpAny (model F.prog F.w) A (exec (st.tr F.nm) F.env) Q Er s) ∧
    (∀ (sl : SL) (σ σ' : St) (fl : Fl), sl.ex cf n σ = some (fl, σ') → ∀ (adr : Nat → Addr) (s : Shared) (Q : Flow → Shared → Prop) (Er : Value → Shared → Prop), Inv F σ adr s.heap →
      (∀ adr' s', GoodS F cf.wr adr adr' σ' s s' → Q fl.flow s') → wpAny (model F.prog F.w) A (execs (sl.tr F.nm) F.env) Q Er s) := by
  intro n
  induction n with
  | zero => exact ⟨fun _ _ _ _ h => by simp [S.ex] at h, fun _ _ _ _ h => by simp [SL.ex] at h⟩
  | succ n ih =>
    obtain ⟨ihS, ihL⟩ := ih
    constructor
    · intro st σ σ' fl h adr s Q Er I hQ
      obtain ⟨l, d⟩ := σ
      cases st with
      | asg x xp e p =>
        simp only [S.ex] at h
        split at h
        · rename_i v d' ev
          split at h
          · rename_i hx
            cases h
            refine wpAny_Assign_Name (next_sound O X hA ev I fun u s₁ hu g₁ => storeV O X hx g₁.inv hu fun s₂ g₂ _ => hQ _ _ (g₁.trans g₂)) (tr_swap _ _ _ _ _)
          · cases h
        · cases h
      | asg2 x y xp yp e p =>
        simp only [S.ex] at h
        split at h
        · rename_i v d' ev
          split at h
          · rename_i hx
            simp only [Bool.and_eq_true] at hx
            cases h
            refine wpAny_Assign_two (next_sound O X hA ev I fun u s₁ hu g₁ => tr_assign1 O X hx.1 g₁.inv hu fun s₂ g₂ _ => tr_assign1 O X (canV_set hx.2) g₂.inv (hu.mono g₂.tp) fun s₃ g₃ _ => hQ _ _ ((g₁.trans g₂).trans g₃)) rfl ?_
            cases e <;> rfl
          · cases h
        · cases h
      | asg3 x y z xp yp zp e p =>
        simp only [S.ex] at h
        split at h
        · rename_i v d' ev
          split at h
          · rename_i hx
            simp only [Bool.and_eq_true] at hx
            cases h
            refine wpAny_Assign_three (next_sound O X hA ev I fun u s₁ hu g₁ => tr_assign1 O X hx.1.1 g₁.inv hu fun s₂ g₂ _ => tr_assign1 O X (canV_set hx.1.2) g₂.inv (hu.mono g₂.tp) fun s₃ g₃ _ =>
              tr_assign1 O X (canV_set (canV_set hx.2)) g₃.inv (hu.mono (g₂.tp.trans g₃.tp)) fun s₄ g₄ _ => hQ _ _ (((g₁.trans g₂).trans g₃).trans g₄)) rfl ?_
            cases e <;> rfl
          · cases h
        · cases h
      | asgN2 x y xp yp tp tk sx m mk mp sp fp np e2 vk vp p =>
        simp only [S.ex] at h
        split at h
        · rename_i v d' ev
          split at h
          · rename_i v2 d2 ev2
            split at h
            · rename_i hx
              simp only [Bool.and_eq_true, decide_eq_true_eq] at hx
              obtain ⟨⟨⟨hx, hy⟩, hxy⟩, hln⟩ := hx
              cases h
              exact asgN2_sound O X hA ev ev2 hx hy hxy hln I (hQ _)
            · cases h
          · cases h
        · cases h
      | aug x xp op e p =>
        simp only [S.ex] at h
        split at h
        · rename_i u el
          split at h
          · rename_i v d' ev
            split at h
            · split at h
              · rename_i hx
                cases h
                refine wpAny_AugAssign_Name (loadn_v O I el fun u₁ hu₁ => next_sound O X hA ev I fun v₁ s₁ hv₁ g₁ => ?_)
                cases hu₁; cases hv₁
                refine PySem.P.iadd_int (storeV O X hx (g₁.inv.grow O fun _ _ e => e) (.int _ _) fun s₂ g₂ _ => hQ _ _ ((g₁.grow O fun _ _ e => e).trans g₂))
              · cases h
            · split at h
              · rename_i hx
                cases h
                refine wpAny_AugAssign_Name (loadn_v O I el fun u₁ hu₁ => next_sound O X hA ev I fun v₁ s₁ hv₁ g₁ => ?_)
                cases hu₁; cases hv₁
                refine PySem.P.isub_int (storeV O X hx (g₁.inv.grow O fun _ _ e => e) (.int _ _) fun s₂ g₂ _ => hQ _ _ ((g₁.grow O fun _ _ e => e).trans g₂))
              · cases h
            · cases h
          · cases h
        · cases h
      | app x xp ap e cp p =>
        simp only [S.ex] at h
        split at h
        · rename_i vs el
          split at h
          · rename_i v d' ev
            split at h
            · rename_i hx
              simp only [Bool.and_eq_true, decide_eq_true_eq] at hx
              obtain ⟨⟨hw, hln⟩, hle⟩ := hx
              cases h
              refine wpAny_Expr ?_ (inter O) (by rfl)
              refine wpAny_Call_append (by rfl) (by rw [next_star]; rfl) hln (by rw [next_star]; rfl) ?_
              refine load_l O I el fun ws hp hd => ⟨_, _, rfl, (let ⟨n, q⟩ := hp; ⟨_, n, q, rfl, rfl, rfl⟩), ?_⟩
              refine next_sound O X hA ev I fun u s₁ hu g₁ => ?_
              obtain ⟨ws₁, hp₁, hd₁⟩ := g₁.inv.list_at (locL_some el)
              refine wpAny_list_append_plain hp₁ (fun h' hp' hs' => ?_) (by rw [List.size_toArray, hd₁.length]; exact Nat.le_trans hle (by decide))
              have hp'' : h'.PlainList (adr x) (ws₁ ++ [u]).toArray := by simpa using hp'
              exact hQ _ _ (g₁.trans (updL O g₁.inv (locL_some el) (contains_mem hw) hs' hp'' (hd₁.append (.one hu))))
            · cases h
          · cases h
        · cases h
      | cat x xp es lp xq bp p =>
        simp only [S.ex] at h
        split at h
        · rename_i vs el
          split at h
          · rename_i ws d' ev
            split at h
            · rename_i hx
              simp only [Bool.and_eq_true, decide_eq_true_eq] at hx
              obtain ⟨⟨⟨hw, hn⟩, hle⟩, hle2⟩ := hx
              cases h
              refine wpAny_Assign_Name (cat_sound O X hA el ev hle hle2 I fun D us s₁ g₁ hp hd hfr => ?_) (by rfl)
              exact storeL O (by rw [← X.n]; exact hn) (contains_mem hw) g₁ hp hd hfr.1 hfr.2.1 hfr.2.2.1 hfr.2.2.2 fun s₂ g₂ => hQ _ _ g₂
            · cases h
          · cases h
        · cases h
      | cat2 x y xp yp tp tk es lp xq bp e2 vk vp p =>
        simp only [S.ex] at h
        split at h
        · rename_i vs el
          split at h
          · rename_i ws d' ev
            split at h
            · rename_i v2 d2 ev2
              split at h
              · rename_i hx
                simp only [Bool.and_eq_true, decide_eq_true_eq] at hx
                obtain ⟨⟨⟨⟨⟨⟨⟨hw, hn⟩, hcl⟩, hy⟩, hxy⟩, hln⟩, hle⟩, hle2⟩ := hx
                cases h
                exact cat2_sound O X hA el ev ev2 hle hle2 (by rw [← X.n]; exact hn) (contains_mem hw) (fun z c e exz => hcl (by rw [X.cell, e, exz]; rfl)) hy hxy hln I hQ
              · cases h
            · cases h
          · cases h
        · cases h
      | ifs t b o p =>
        simp only [S.ex] at h
        split at h
        · rename_i d' ev
          refine wpAny_If (T.sound O X hA t ev I fun s₁ g₁ => ?_)
          rw [if_pos rfl]
          exact ihL b _ _ _ h adr s₁ Q Er g₁.1 fun adr' s₂ g₂ => hQ _ _ ((g₁.S I).trans g₂)
        · rename_i d' ev
          refine wpAny_If (T.sound O X hA t ev I fun s₁ g₁ => ?_)
          rw [if_neg Bool.false_ne_true]
          exact ihL o _ _ _ h adr s₁ Q Er g₁.1 fun adr' s₂ g₂ => hQ _ _ ((g₁.S I).trans g₂)
        · cases h
      | whl t b p =>
        simp only [S.ex, Option.map_eq_some_iff] at h
        obtain ⟨σ₁, hw, e⟩ := h
        cases e
        refine wpAny_While (codeAny_whileLoop (fun k s₁ => ∃ σ₁ adr₁, wloop (t.ev cf) (b.ex cf n) k σ₁ = some σ' ∧ GoodS F cf.wr adr adr₁ σ₁ s s₁) ?_ n ⟨_, _, hw, GoodS.refl I⟩)
        rintro k s₁ ⟨⟨l₁, d₁⟩, adr₁, hk, g₁⟩
        cases k with
        | zero => simp [wloop] at hk
        | succ k =>
          simp only [wloop] at hk
          split at hk
          · rename_i d₂ ev
            cases hk
            refine T.sound O X hA t ev g₁.inv fun s₂ g₂ => ?_
            rw [if_neg Bool.false_ne_true]
            exact wpAny_execs_nil (hQ _ _ (g₁.trans (g₂.S g₁.inv)))
          · rename_i d₂ ev
            split at hk
            · rename_i fl₂ σ₂ eb
              refine T.sound O X hA t ev g₁.inv fun s₂ g₂ => ?_
              rw [if_pos rfl]
              refine ihL b _ _ _ eb adr₁ s₂ _ _ g₂.1 fun adr₃ s₃ g₃ => ?_
              have : ∃ m, m < k + 1 ∧ ∃ σ₁ adr₁, wloop (t.ev cf) (b.ex cf n) m σ₁ = some σ' ∧ GoodS F cf.wr adr adr₁ σ₁ s s₃ := ⟨k, Nat.lt_succ_self _, _, _, hk, (g₁.trans (g₂.S g₁.inv)).trans g₃⟩
              cases fl₂ <;> exact this
            · cases hk
          · cases hk
      | cont p =>
        simp only [S.ex] at h
        cases h
        exact wpAny_Continue (hQ _ _ (GoodS.refl I))
    · intro sl σ σ' fl h adr s Q Er I hQ
      cases sl with
      | nil =>
        simp only [SL.ex] at h
        cases h
        exact wpAny_execs_nil (hQ _ _ (GoodS.refl I))
      | cons st r =>
        simp only [SL.ex] at h
        split at h
        · rename_i σ₁ es
          refine wpAny_execs_cons (ihS st _ _ _ es adr s _ _ I fun adr₁ s₁ g₁ => ?_)
          exact ihL r _ _ _ h adr₁ s₁ Q Er g₁.inv fun adr₂ s₂ g₂ => hQ _ _ (g₁.trans g₂)
        · rename_i σ₁ es
          cases h
          exact wpAny_execs_cons (ihS st _ _ _ es adr s _ _ I fun adr₁ s₁ g₁ => hQ _ _ g₁)
        · cases h
end
end Mine

namespace Mine
open PySem PySem.W PySem.Calls PyProof.Rows PySem.Spec

abbrev theProg : Program := PySem.Challenge.pw_co0043_01

def defOf (n : Str) : Arguments × List Stmt × Scope := match theProg.main.body.find? (fun s => match s with | .FunctionDef m .. => m == n | _ => false) with
  | some (.FunctionDef _ a b _ _ _ sc _ _ _) => (a, b, sc)
  | _ => (⟨[], [], none, [], [], none, []⟩, [], default)

def FnAt (hb : Heap) (mg : Str → Option Value) (n : Str) (a : Addr) : Prop :=
  ∃ o pm cd doc, mg n = some (.ref a) ∧ hb.get? a = some o ∧ o.data = .func (docDef n (defOf n).1 (defOf n).2.1 (defOf n).2.2 pm cd doc) ∧ hb.CodeRec cd n

/-- what the top has laid -/
structure WF (prog : Program) (w : World) (hb : Heap) (mg mb : Str → Option Value) : Prop where
  g : hb.Ns mainGlobals mg
  b : hb.Ns builtinsNs mb
  lim : hb.NoLimit
  len : mg "len" = none ∧ mb "len" = some (.builtin "len")
  abs : mg "abs" = none ∧ mb "abs" = some (.builtin "abs")
  range : mg "range" = none ∧ mb "range" = some (.type "range")
  enum : mg "enumerate" = none ∧ mb "enumerate" = some (.type "enumerate")
  list : mg "list" = none ∧ mb "list" = some (.type "list")
  fnNext : ∃ a, FnAt hb mg "_law_next" a
  fnPieces : ∃ a, FnAt hb mg "_law_pieces" a
  fnBin : ∃ a, FnAt hb mg "_is_binary_operator" a
  fnAround : ∃ a, FnAt hb mg "_break_around_binary_operators" a
  fnBefore : ∃ a, FnAt hb mg "break_before_binary_operator" a
  fnAfter : ∃ a, FnAt hb mg "break_after_binary_operator" a
  fnJoin : ∃ a, FnAt hb mg "explicit_line_join" a
  sym : ∃ a vs, mg "_SYMBOLIC_OPS" = some (.ref a) ∧ IsTup hb a vs.toArray ∧ StrsAre vs symOps
  tok : ∀ (k : Nat) (A : Around) (s : Shared) (Q : Value → Shared → Prop) (Er : Value → Shared → Prop) (env : Env) (np p : Pos), env.scope.kind = .function → env.globals = mainGlobals → env.kindOf "tokenize" = some .globalImplicit →
    (∀ b o, hb.get? b = some o → s.heap.get? b = some o) → (∀ t tk, Q (.int (tokNum k) t) { s with toks := tk }) → wpAny (model prog w) A (eval (.Attribute (.Name "tokenize" np) (tokName k) p) env) Q Er s

section
variable {prog : Program} {w : World} {hb : Heap} {mg mb : Str → Option Value}

theorem ld_glob {A : Around} {s : Shared} {env : Env} {x : Str} {v : Value} {pos : Pos} {Q : Value → Shared → Prop} {Er : Value → Shared → Prop} (g : hb.Ns mainGlobals mg) (hv : mg x = some v) (hk : ∀ b o, hb.get? b = some o → s.heap.get? b = some o)
    (h1 : env.scope.kind = .function) (h2 : env.globals = mainGlobals) (h3 : env.kindOf x = some .globalImplicit) (hd : (x == ("__debug__" : Str)) = false) (h : Q v s) : wpAny (model prog w) A (eval (.Name x pos) env) Q Er s :=
  Name_function_global h1 h3 (loadGlobal_global (h2 ▸ g.keeps hk) hv h) hd
theorem ld_blt {A : Around} {s : Shared} {env : Env} {x : Str} {v : Value} {pos : Pos} {Q : Value → Shared → Prop} {Er : Value → Shared → Prop} (g : hb.Ns mainGlobals mg) (b : hb.Ns builtinsNs mb) (hv : mg x = none ∧ mb x = some v) (hk : ∀ b o, hb.get? b = some o → s.heap.get? b = some o)
    (h1 : env.scope.kind = .function) (h2 : env.globals = mainGlobals) (h2' : env.builtins = builtinsNs) (h3 : env.kindOf x = some .globalImplicit) (hd : (x == ("__debug__" : Str)) = false) (h : Q v s) : wpAny (model prog w) A (eval (.Name x pos) env) Q Er s :=
  Name_function_global h1 h3 (loadGlobal_builtin (h2 ▸ g.keeps hk) hv.1 (h2' ▸ b.keeps hk) hv.2 h) hd

theorem ldn {A : Around} {s : Shared} {env : Env} {m : Str → Option Value} {x : Str} {v : Value} {pos : Pos} {Q : Value → Shared → Prop} {Er : Value → Shared → Prop} (hn : s.heap.Ns env.locals m) (hx : m x = some v) (h : Q v s)
    (hk : env.scope.kind = .function) (hc : env.kindOf x = some .local) (hd : (x == ("__debug__" : Str)) = false) : wpAny (model prog w) A (eval (.Name x pos) env) Q Er s :=
  wpAny_Name (wpAny_loadName_local hk hc hn hx h) hd

/-- an item of a list that is held by a local name -/
theorem ld_item {A : Around} {s : Shared} {env : Env} {m : Str → Option Value} {x : Str} {l : Addr} {items : Array Value} {k : Int} {ck : Nat} {v : Value} {p1 p2 p3 : Pos} {Q : Value → Shared → Prop} {Er : Value → Shared → Prop}
    (hn : s.heap.Ns env.locals m) (hx : m x = some (.ref l)) (hl : s.heap.IsList l items) (h0 : 0 ≤ k) (h63 : k < 2 ^ 63) (hv : items[k.toNat]? = some v) (h : ∀ tk, Q v { s with toks := tk })
    (hk : env.scope.kind = .function) (hc : env.kindOf x = some .local) (hd : (x == ("__debug__" : Str)) = false) :
    wpAny (model prog w) A (eval (.Subscript (.Name x p1) (.Constant (.int k) ck p2) p3) env) Q Er s :=
  Subscript_ (ldn hn hx (wpAny_Constant_int (tail_any (s := { s with toks := s.toks + 1 }) hl.typeIs slot_list_getitem.lookup (wpAny_getItem_list hl h0 h63 hv (h _)) (sub_any _ _ _ (by intro l u' s' p h; cases h)))) hk hc hd)

/-- one store into a list that is held by a local name -/
theorem st_item {A : Around} {s : Shared} {env : Env} {m : Str → Option Value} {x : Str} {l : Addr} {items : Array Value} {k : Int} {ck : Nat} {p1 p2 p3 p4 : Pos} {ve : Expr} {Q : Flow → Shared → Prop} {Er : Value → Shared → Prop}
    (hk : env.scope.kind = .function) (hc : env.kindOf x = some .local) (hd : (x == ("__debug__" : Str)) = false) (h0 : 0 ≤ k) (h63 : k < 2 ^ 63) (hn : k < items.size) (hsw : swapsWith ve (some (.Subscript (.Name x p1) (.Constant (.int k) ck p2) p3)) p4.line env = pure false)
    (hve : wpAny (model prog w) A (eval ve env) (fun v s₁ => s₁.heap.Ns env.locals m ∧ m x = some (.ref l) ∧ s₁.heap.IsList l items ∧ ∀ h' tk, h'.IsList l (items.setIfInBounds k.toNat v) → Heap.SameBut l s₁.heap h' → Q .next { s₁ with heap := h', toks := tk }) Er s) :
    wpAny (model prog w) A (exec (.Assign [.Subscript (.Name x p1) (.Constant (.int k) ck p2) p3] ve p4) env) Q Er s :=
  wpAny_Assign_Subscript (wpAny_mono hve (fun v s₁ ⟨hn', hx, hl, hQ⟩ => ldn hn' hx (wpAny_Constant_int (wpAny_setItem_list (s := { s₁ with toks := s₁.toks + 1 }) hl h0 h63 hn fun h' hl' hs => hQ h' _ hl' hs)) hk hc hd) fun _ _ e => e) hsw

theorem kind_of {name : Str} {scope : Scope} {L a : Addr} {cd : Value} {x : Str} {k : NameKind} (h : (scope.names.lookup x == some k) = true) : (envOf name scope L a cd).kindOf x = some k := eq_of_beq h


theorem next_walk {nx_q0 nx_q1 nx_q2 nx_q3 nx_q4 nx_q5 nx_q6 nx_q7 nx_q8 nx_q9 nx_q10 nx_q11 nx_q12 nx_q13 nx_q14 nx_q15 nx_q16 nx_q17 nx_q18 nx_q19 nx_q20 nx_q21 nx_q22 nx_q23 nx_q24 nx_q25 nx_q26 nx_q27 nx_q28 nx_q29 nx_q30 nx_q31 nx_q32 nx_q33 nx_q34 nx_q35 nx_q36 nx_q37 nx_q38 nx_q39 nx_q40 nx_q41 nx_q42 nx_q43 nx_q44 nx_q45 nx_q46 nx_q47 nx_q48 nx_q49 nx_q50 nx_q51 nx_q52 nx_q53 nx_q54 nx_q55 nx_q56 nx_q57 nx_q58 nx_q59 nx_q60 nx_q61 nx_q62 nx_q63 nx_q64 nx_q65 nx_q66 nx_q67 : Pos} {nx_c0 nx_c1 nx_c2 nx_c3 nx_c4 nx_c5 nx_c6 nx_c7 nx_c8 nx_c9 nx_c10 nx_c11 nx_c12 nx_c13 nx_c14 nx_c15 nx_c16 nx_c17 : Nat} (W : WF prog w hb mg mb) {A : Around} {s : Shared} {env : Env} {t : DrI} {d : Dr} {m : Int} {u : Tok} {Q : Flow → Shared → Prop} {Er : Value → Shared → Prop}
    {mm : Str → Option Value} (hk : env.scope.kind = .function) (hgl : env.globals = mainGlobals) (hbl : env.builtins = builtinsNs) (ks : env.kindOf "state" = some .local) (km : env.kindOf "many" = some .local) (kf : env.kindOf "found" = some .local)
    (kl : env.kindOf "len" = some .globalImplicit) (ka : env.kindOf "abs" = some .globalImplicit)
    (hxs : t.xs.length ≤ 1000000)
    (hn : s.heap.Ns env.locals mm) (hbk : ∀ b o, hb.get? b = some o → s.heap.get? b = some o) (hab : t.a ≠ t.b) (haL : t.a ≠ env.locals) (hbL : t.b ≠ env.locals) (hs : mm "state" = some (.ref t.a)) (hm : mm "many" = some (.int m u)) (hd : DrAt t d s.heap) (hm0 : 0 < m)
    (hba : hb.get? t.a = none) (hbLo : hb.get? env.locals = none)
    (hQ : ∀ tk s', DrAt t (lawNext t.xs d m).2 s'.heap → Stp (fun b => b = t.a ∨ b = env.locals) s s' → Q (.ret (.int (lawNext t.xs d m).1 tk)) s') :
    wpAny (model prog w) A (execs ([
    .If (.Compare (.Subscript (.Name "state" nx_q0) (.Constant (.int 1) nx_c0 nx_q1) nx_q2) [.Lt] [.Call (.Name "len" nx_q3) [.Subscript (.Name "state" nx_q4) (.Constant (.int 0) nx_c1 nx_q5) nx_q6] [] nx_q7] nx_q8)
      [.Assign [.Name "found" nx_q9] (.Call (.Name "abs" nx_q10) [.Subscript (.Subscript (.Name "state" nx_q11) (.Constant (.int 0) nx_c2 nx_q12) nx_q13) (.Subscript (.Name "state" nx_q14) (.Constant (.int 1) nx_c3 nx_q15) nx_q16) nx_q17] [] nx_q18) nx_q19,
       .Assign [.Subscript (.Name "state" nx_q20) (.Constant (.int 1) nx_c4 nx_q21) nx_q22] (.BinOp (.Subscript (.Name "state" nx_q23) (.Constant (.int 1) nx_c5 nx_q24) nx_q25) .Add (.Constant (.int 1) nx_c6 nx_q26) nx_q27) nx_q28,
       .Assign [.Subscript (.Name "state" nx_q29) (.Constant (.int 2) nx_c7 nx_q30) nx_q31] (.BinOp (.BinOp (.BinOp (.Subscript (.Name "state" nx_q32) (.Constant (.int 2) nx_c8 nx_q33) nx_q34) .Mult (.Constant (.int 31) nx_c9 nx_q35) nx_q36) .Add (.Name "found" nx_q37) nx_q38) .Mod (.Constant (.int 2147483647) nx_c10 nx_q39) nx_q40) nx_q41,
       .Return (some (.BinOp (.Name "found" nx_q42) .Mod (.Name "many" nx_q43) nx_q44)) nx_q45] [] nx_q46,
    .Assign [.Subscript (.Name "state" nx_q47) (.Constant (.int 2) nx_c11 nx_q48) nx_q49] (.BinOp (.BinOp (.BinOp (.Subscript (.Name "state" nx_q50) (.Constant (.int 2) nx_c12 nx_q51) nx_q52) .Mult (.Constant (.int 48271) nx_c13 nx_q53) nx_q54) .Add (.Constant (.int 11) nx_c14 nx_q55) nx_q56) .Mod (.Constant (.int 2147483647) nx_c15 nx_q57) nx_q58) nx_q59,
    .Return (some (.BinOp (.BinOp (.Subscript (.Name "state" nx_q60) (.Constant (.int 2) nx_c16 nx_q61) nx_q62) .FloorDiv (.Constant (.int 7) nx_c17 nx_q63) nx_q64) .Mod (.Name "many" nx_q65) nx_q66)) nx_q67]) env) Q Er s := by
  have dg : ∀ x : Str, x ∈ ([("state" : Str), "many", "found"] : List Str) → (x == ("__debug__" : Str)) = false := by decide +kernel
  have d1 := dg "state" (by decide +kernel)
  have d2 := dg "many" (by decide +kernel)
  have d3 := dg "found" (by decide +kernel)
  obtain ⟨ti, td, hl⟩ := hd.st
  obtain ⟨vs, hlb, hi⟩ := hd.sc
  have hlen : vs.length = t.xs.length := hi.length
  have hp := hd.pos
  refine wpAny_execs_cons (wpAny_If (wpAny_isTrue_Compare1 ?_ (by rfl)))
  refine ld_item hn hs hl (by decide) (by decide) (v := .int d.1 ti) rfl (fun tk1 => ?_) hk ks d1
  refine Call_ (ld_blt W.g W.b W.len hbk hk hgl hbl kl (by decide +kernel) ?_)
  refine PyProof.Rows.callWith_builtin1 (spliced_more (ld_item (s := { s with toks := tk1 }) hn hs hl (by decide) (by decide) (v := .ref t.b) rfl (fun tk2 => spliced_none ?_) hk ks d1) rfl) rfl
  refine PyProof.Rows.len_list (s := { s with toks := tk2 }) hlb (by rw [List.size_toArray, hlen]; omega) ?_
  refine PySem.P.lt_int (wpAny_truthy_bool ?_)
  rw [show (vs.toArray.size : Int) = (t.xs.length : Int) by rw [List.size_toArray, hlen]]
  by_cases hlt : d.1 < (t.xs.length : Int)
  · rw [decide_eq_true hlt, if_pos rfl]
    obtain ⟨ui, hui⟩ : ∃ ui, vs[d.1.toNat]? = some (.int (t.xs.getD d.1.toNat 0) ui) := by
      have hlt' : d.1.toNat < t.xs.length := by omega
      have := hi.get (i := d.1.toNat) (n := t.xs.getD d.1.toNat 0) (by rw [List.getD_eq_getElem?_getD, List.getElem?_eq_getElem hlt']; rfl)
      exact this
    have ln : lawNext t.xs d m = (((t.xs.getD d.1.toNat 0).natAbs : Int).fmod m, (d.1 + 1, (d.2 * 31 + ((t.xs.getD d.1.toNat 0).natAbs : Int)).fmod 2147483647)) := by
      unfold lawNext; rw [if_pos hlt]
    rw [ln] at hQ
    generalize t.xs.getD d.1.toNat 0 = z at hQ hui
    -- found = abs(state[0][state[1]])
    refine wpAny_execs_cons (wpAny_Assign_Name ?_ (by rfl))
    refine Call_ (ld_blt W.g W.b W.abs hbk hk hgl hbl ka (by decide +kernel) ?_)
    refine PyProof.Rows.callWith_builtin1 (spliced_more (Subscript_ ?_) rfl) rfl
    refine ld_item (s := { s with toks := tk2 + 1 + 1 }) hn hs hl (by decide) (by decide) (v := .ref t.b) rfl (fun tk3 => ?_) hk ks d1
    refine ld_item (s := { s with toks := tk3 }) hn hs hl (by decide) (by decide) (v := .int d.1 ti) rfl (fun tk4 => ?_) hk ks d1
    refine tail_any (s := { s with toks := tk4 }) hlb.typeIs slot_list_getitem.lookup (wpAny_getItem_list hlb hp (by omega) (by simpa using hui) (spliced_none ?_)) (sub_any _ _ _ (by intro l u' s' p h; cases h))
    refine call_abs_int fun u2 tk5 => ?_
    rw [show (if z < 0 then -z else z) = (z.natAbs : Int) by split <;> omega]
    generalize hf : (z.natAbs : Int) = f at hQ ⊢
    refine wpAny_storeName_local kf hn (fun h1 hn1 hs1 => ?_) (by rw [hk]; rfl)
    have keep1 : ∀ b o, s.heap.get? b = some o → b ≠ env.locals → h1.get? b = some o := fun b o e hb' => (hs1.2 b hb').trans e
    have hl1 : h1.IsList t.a #[.ref t.b, .int d.1 ti, .int d.2 td] := let ⟨o, ho, r⟩ := hl; ⟨o, keep1 _ _ ho haL, r⟩
    have hlb1 : h1.IsList t.b vs.toArray := let ⟨o, ho, r⟩ := hlb; ⟨o, keep1 _ _ ho hbL, r⟩
    have eSt : ("state" : Str) ≠ "found" := by decide +kernel
    have eMn : ("many" : Str) ≠ "found" := by decide +kernel
    -- state[1] = state[1] + 1
    refine wpAny_execs_cons (st_item hk ks d1 (by decide) (by decide) (items := #[.ref t.b, .int d.1 ti, .int d.2 td]) (l := t.a) (m := fun x => if x = ("found" : Str) then some (Value.int f u2) else mm x) (by show _ < ((3 : Nat) : Int); decide) (by rfl) ?_)
    refine wpAny_BinOp (ld_item hn1 ((if_neg eSt).trans hs) hl1 (by decide) (by decide) (v := .int d.1 ti) rfl (fun tk6 => wpAny_Constant_int ?_) hk ks d1)
    refine add_int ⟨hn1, (if_neg eSt).trans hs, hl1, fun h2 tk7 hl2 hs2 => ?_⟩
    have hn2 := hn1.sameBut hs2 (Ne.symm haL)
    obtain ⟨ti2, hl2⟩ : ∃ ti2, h2.IsList t.a #[.ref t.b, .int (d.1 + 1) ti2, .int d.2 td] := ⟨_, hl2⟩
    -- state[2] = (state[2] * 31 + found) % 2147483647
    refine wpAny_execs_cons (st_item hk ks d1 (by decide) (by decide) (items := #[.ref t.b, .int (d.1 + 1) ti2, .int d.2 td]) (l := t.a) (m := fun x => if x = ("found" : Str) then some (Value.int f u2) else mm x) (by show _ < ((3 : Nat) : Int); decide) (by rfl) ?_)
    refine wpAny_BinOp (wpAny_BinOp (wpAny_BinOp (ld_item hn2 ((if_neg eSt).trans hs) hl2 (by decide) (by decide) (v := .int d.2 td) rfl (fun tk8 => wpAny_Constant_int ?_) hk ks d1)))
    refine PySem.P.mul_int ?_ (IntMulOk.of_right (intBits_le_64 (by decide) (by decide)))
    refine ldn hn2 (if_pos rfl) ?_ hk kf d3
    refine add_int (wpAny_Constant_int (mod_int (by decide) ⟨hn2, (if_neg eSt).trans hs, hl2, fun h3 tk9 hl3 hs3 => ?_⟩))
    have hn3 := hn2.sameBut hs3 (Ne.symm haL)
    have keep3 : ∀ b o, s.heap.get? b = some o → b ≠ env.locals → b ≠ t.a → h3.get? b = some o := fun b o e h1' h2' => (hs3.2 b h2').trans ((hs2.2 b h2').trans (keep1 b o e h1'))
    -- return found % many
    refine wpAny_execs_cons (wpAny_Return_some (wpAny_BinOp (ldn hn3 (if_pos rfl) (ldn hn3 ((if_neg eMn).trans hm) (mod_int (by omega) ?_) hk km d2) hk kf d3)))
    exact hQ _ _ ⟨by show 0 ≤ d.1 + 1; omega, ⟨_, _, hl3⟩, vs, (let ⟨o, ho, r⟩ := hlb; ⟨o, keep3 _ _ ho hbL (Ne.symm hab), r⟩), hi⟩ ⟨_, _, rfl, fun b o e hw => keep3 b o e (fun h => hw (.inr h)) fun h => hw (.inl h)⟩
  · rw [decide_eq_false hlt, if_neg Bool.false_ne_true]
    have ln : lawNext t.xs d m = ((((d.2 * 48271 + 11).fmod 2147483647).fdiv 7).fmod m, (d.1, (d.2 * 48271 + 11).fmod 2147483647)) := by
      unfold lawNext; rw [if_neg hlt]
    rw [ln] at hQ
    refine wpAny_execs_nil ?_
    refine wpAny_execs_cons (st_item hk ks d1 (by decide) (by decide) (items := #[.ref t.b, .int d.1 ti, .int d.2 td]) (l := t.a) (m := mm) (by show _ < ((3 : Nat) : Int); decide) (by rfl) ?_)
    refine wpAny_BinOp (wpAny_BinOp (wpAny_BinOp (ld_item (s := { s with toks := tk2 + 1 + 1 }) hn hs hl (by decide) (by decide) (v := .int d.2 td) rfl (fun tk3 => wpAny_Constant_int ?_) hk ks d1)))
    refine PySem.P.mul_int ?_ (IntMulOk.of_right (intBits_le_64 (by decide) (by decide)))
    refine wpAny_Constant_int (add_int (wpAny_Constant_int (mod_int (by decide) ⟨hn, hs, hl, fun h2 tk4 hl2 hs2 => ?_⟩)))
    have hn2 := hn.sameBut hs2 (Ne.symm haL)
    refine wpAny_execs_cons (wpAny_Return_some (wpAny_BinOp (wpAny_BinOp (ld_item hn2 hs hl2 (by decide) (by decide) rfl (fun tk5 => wpAny_Constant_int ?_) hk ks d1))))
    refine floordiv_int (by decide) (ldn hn2 hm (mod_int (by omega) ?_) hk km d2) (Or.inl (PyProof.noPylong_small (by omega)))
    exact hQ _ _ ⟨hp, ⟨_, _, hl2⟩, vs, (let ⟨o, ho, r⟩ := hlb; ⟨o, (hs2.2 _ (Ne.symm hab)).trans ho, r⟩), hi⟩ ⟨_, _, rfl, fun b o e hw => (hs2.2 b fun h => hw (.inl h)).trans e⟩

theorem lt_none {h : Heap} {b : Addr} {o : Obj} (e : h.get? b = some o) : b ≠ h.objs.size := Nat.ne_of_lt (Heap.lt_size e)

theorem next_ok (W : WF prog w hb mg mb) {t : DrI} (hxs : t.xs.length ≤ 1000000) (hta : hb.get? t.a = none) (hab : t.a ≠ t.b) :
    ∃ f o fd, mg "_law_next" = some (.ref f) ∧ hb.get? f = some o ∧ o.data = .func fd ∧ NextOk prog w hb t f := by
  obtain ⟨f, o, pm, cd, doc, hf, ho, hd, hcd⟩ := W.fnNext
  refine ⟨f, o, _, hf, ho, hd, ?_⟩
  intro A s d m u Q E hA hbk hdr hm hQ
  obtain ⟨oa, ha, _⟩ := hdr.at_a
  obtain ⟨ob, hb', _⟩ := hdr.at_b
  have hLo : hb.get? s.heap.objs.size = none := by
    cases q : hb.get? s.heap.objs.size with
    | none => rfl
    | some o => exact absurd rfl (lt_none (hbk _ _ q))
  refine wpAny_call ?_
  refine call_pos_ret (by have := hA.2.1; omega) (hbk _ _ ho) hd (W.lim.keeps hbk) (hcd.keeps hbk) (by rfl) (locs (by rfl)) (fun h₁ F => ?_) (by rfl) (by rfl) (by rfl) (by decide +kernel)
  have kd : ∀ {x : Str} {k : NameKind}, ((defOf "_law_next").2.2.names.lookup x == some k) = true → (envOf "_law_next" (defOf "_law_next").2.2 s.heap.objs.size f cd).kindOf x = some k := fun h => kind_of h
  refine next_walk W (t := t) (d := d) (m := m) (u := u) (by rfl) rfl rfl (kd (by decide +kernel)) (kd (by decide +kernel)) (kd (by decide +kernel)) (kd (by decide +kernel)) (kd (by decide +kernel)) hxs F.ns (fun b o e => F.keep b o (hbk b o e)) hab (lt_none ha) (lt_none hb') (by rfl) (by rfl) (hdr.keep (fun o => F.keep _ o) (fun o => F.keep _ o)) hm hta hLo ?_
  intro tk s' hd' hs'
  obtain ⟨h', tk', rfl, hk'⟩ := hs'
  exact hQ _ _ hd' ⟨h', tk', rfl, fun b o e hw => hk' b o (F.keep b o e) fun h => h.elim hw (lt_none e)⟩
end
end Mine

namespace Mine
open PySem PySem.W PySem.Calls PyProof.Rows PySem.Spec

section
variable {M : Model} {A : Around} {R : GenEnd} {Y : Protocol} {n : Nat} {s₀ : Shared} {c : Code} {fs : List Frame} {s : Shared} {env : Env}
  {K : Flow → Sem Fin} {H : Value → Sem Fin} {gd : Bool → Bool} {lv : List Value → List Value}

/-- a statement that does not yield -/
theorem seg_plain {α : Type} {m : Sem α} {K : α → Sem Fin} (h : wpAny M (A.over c fs) m (fun a s' => Seg M A R Y n s₀ c (K a) fs s') (fun _ _ => False) s) : Seg M A R Y n s₀ c (m.wrap K H gd lv) fs s :=
  seg_wrap (wpAny_mono h (fun _ _ x => x) fun _ _ x => x.elim)

theorem seg_bindw {α β : Type} {m : Sem α} {f : α → Sem β} {K : β → Sem Fin} (h : wpAny M (A.over c fs) m (fun a s' => Seg M A R Y n s₀ c ((f a).wrap K H gd lv) fs s') (fun _ _ => False) s) : Seg M A R Y n s₀ c ((m >>= f).wrap K H gd lv) fs s := by
  rw [Sem.bind_eq_wrap', Sem.wrap_wrap]
  exact seg_plain h

theorem seg_If {test : Expr} {body orelse : List Stmt} {pos : Pos}
    (h : wpAny M (A.over c fs) (isTrue test env (eval test env)) (fun b s' => Seg M A R Y n s₀ c ((execs (if b = true then body else orelse) env).wrap K H gd lv) fs s') (fun _ _ => False) s) :
    Seg M A R Y n s₀ c ((exec (.If test body orelse pos) env).wrap K H gd lv) fs s := by
  show Seg M A R Y n s₀ c ((standAt pos >>= fun _ => isTrue test env (eval test env) >>= fun b => if b = true then execs body env else execs orelse env).wrap K H gd lv) fs s
  refine seg_bindw (wpAny_standAt (seg_bindw (wpAny_mono h (fun b s' hb => ?_) fun _ _ x => x)))
  cases b <;> exact hb

def forK (env : Env) (K : Flow → Sem Fin) (H : Value → Sem Fin) (gd : Bool → Bool) (lv : List Value → List Value) (r : Result) : Sem Fin :=
  ((match r with | .ok f => (.pure f : Sem Flow) | .error e => .raise e).onRaise fun (x : Value) => do
        if (← field x 1) == Value.none then unsupported "frame.own-activation:exception-without-traceback"
        setFlight x env.frame).wrap K H gd lv

theorem seg_For {target iter : Expr} {body orelse : List Stmt} {pos : Pos} (hf : ∀ x, foldedSetIterable iter env x = pure x)
    (h : wpAny M (A.over c fs) (eval iter env) (fun x s₁ => wpAny M (A.over c fs) (pyIter x) (fun it s₂ => ∀ p, Seg M A R Y n s₀ (.forLoop target it body orelse env) (M.den (.forLoop target it body orelse env))
      (.ret (forK env K H gd lv) none (gd false) (lv []) c p [] :: fs) s₂) (fun _ _ => False) s₁) (fun _ _ => False) s) :
    Seg M A R Y n s₀ c ((exec (.For target iter body orelse pos) env).wrap K H gd lv) fs s := by
  show Seg M A R Y n s₀ c ((standAt pos >>= fun _ => eval iter env >>= fun x => foldedSetIterable iter env x >>= fun x => standAt iter.pos >>= fun _ => holding [x] (pyIter x) >>= fun it => runOwn (.forLoop target it body orelse env) env).wrap K H gd lv) fs s
  refine seg_bindw (wpAny_standAt (seg_bindw (wpAny_mono h (fun x s' hb => ?_) fun _ _ x => x)))
  rw [hf]
  refine seg_bindw (wpAny_pure (seg_bindw (wpAny_standAt (seg_bindw (wpAny_holding (wpAny_mono hb (fun it s₂ h₂ => ?_) fun _ _ x => x))))))
  exact seg_call h₂
end
section
variable {prog : Program} {w : World} {A : Around} {R : GenEnd} {Y : Protocol} {n : Nat} {s₀ : Shared} {fs : List Frame} {s : Shared} {env : Env}

def loopK (target : Expr) (it : Value) (body orelse : List Stmt) (env : Env) (f : Flow) : Sem Fin := match f with
  | .next | .cont => .pure (.again (.forLoop target it body orelse env))
  | .brk => .pure (.done .next)
  | .ret v => .pure (.done (.ret v))
def loopH (env : Env) (e : Value) : Sem Fin := (do noteFrame e env; theTreesLotGoes e : Sem Unit).wrap (fun _ => .raise e) .raise id id

theorem seg_forLoop {target : Expr} {it : Value} {body orelse : List Stmt}
    (h : wpAny (model prog w) (A.over (.forLoop target it body orelse env) fs) (pyNext it) (fun r s₁ => match r with
      | none => Seg (model prog w) A R Y n s₀ (.block orelse env) ((model prog w).den (.block orelse env)) fs s₁
      | some v => wpAny (model prog w) (A.over (.forLoop target it body orelse env) fs) (letOwnedTupleGo target it v) (fun _ s₂ => wpAny (model prog w) (A.over (.forLoop target it body orelse env) fs) (assign target env v) (fun _ s₃ =>
          Seg (model prog w) A R Y n s₀ (.forLoop target it body orelse env) ((execs body env).wrap (loopK target it body orelse env) (loopH env) id id) fs s₃) (fun _ _ => False) s₂) (fun _ _ => False) s₁) (fun _ _ => False) s) :
    Seg (model prog w) A R Y n s₀ (.forLoop target it body orelse env) ((model prog w).den (.forLoop target it body orelse env)) fs s := by
  show Seg _ A R Y n s₀ _ ((forTurn target it body orelse env).onRaise (fun x => do noteFrame x env; theTreesLotGoes x)) fs s
  unfold forTurn
  rw [Sem.onRaise_eq_wrap]
  refine seg_bindw (wpAny_standAt (seg_bindw (wpAny_onRaise (wpAny_mono h (fun r s' hb => ?_) fun _ _ x => x.elim))))
  cases r with
  | none => exact seg_again (by rfl) hb
  | some v =>
    refine seg_bindw (wpAny_mono hb (fun _ s₂ h₂ => seg_bindw (wpAny_mono h₂ (fun _ s₃ h₃ => ?_) fun _ _ x => x)) fun _ _ x => x)
    rw [Sem.bind_eq_wrap', Sem.wrap_wrap]
    rw [Sem.wrap_congr (execs body env) _ _ (K' := loopK target it body orelse env) (H' := loopH env)
        (fun f => by cases f <;> rfl)
        (fun e => by first | exact Sem.bind_eq_wrap _ _ | (show (do noteFrame e env; theTreesLotGoes e : Sem Unit).bind (fun _ => .raise e) = _; rw [Sem.bind_eq_wrap]; rfl))]
    exact h₃

theorem seg_blockEnd {k h g l c₁ p₁ kp} (hk : Seg (model prog w) A R Y n s₀ c₁ (k (.ok .next)) fs s) :
    Seg (model prog w) A R Y n s₀ (.block [] env) ((model prog w).den (.block [] env)) (.ret k h g l c₁ p₁ kp :: fs) s := by
  have := seg_leaf (c := .block [] env) (k := k) (h := h) (g := g) (l := l) (p₁ := p₁) (kp := kp) (.ok .next) hk
  exact this
end
end Mine

namespace Mine
open PySem PySem.W PySem.Calls PyProof.Rows PySem.Spec

/-- what one side of a generator promises the other -/
structure GarP (P : Addr → Prop) (G : Nat → Prop) (s s' : Shared) : Prop where
  shape : ∃ h' tk g', s' = { s with heap := h', toks := tk, gens := g' }
  keep : ∀ b o, s.heap.get? b = some o → P b → s'.heap.get? b = some o
  tp : TP s.heap s'.heap
  size : s.gens.size ≤ s'.gens.size
  gens : ∀ i, i < s.gens.size → G i → s'.gens[i]? = s.gens[i]?
  bare : AllBare s.gens → AllBare s'.gens
theorem GarP.refl (P : Addr → Prop) (G : Nat → Prop) (s : Shared) : GarP P G s s := ⟨⟨s.heap, s.toks, s.gens, rfl⟩, fun _ _ e _ => e, .refl _, Nat.le_refl _, fun _ _ _ => rfl, id⟩
theorem GarP.trans {P : Addr → Prop} {G : Nat → Prop} {s₁ s₂ s₃ : Shared} (x : GarP P G s₁ s₂) (y : GarP P G s₂ s₃) : GarP P G s₁ s₃ := by
  refine ⟨?_, fun b o e p => y.keep b o (x.keep b o e p) p, x.tp.trans y.tp, Nat.le_trans x.size y.size, fun i hi g => (y.gens i (Nat.lt_of_lt_of_le hi x.size) g).trans (x.gens i hi g), fun z => y.bare (x.bare z)⟩
  obtain ⟨h₁, t₁, g₁, e₁⟩ := x.shape
  obtain ⟨h₂, t₂, g₂, e₂⟩ := y.shape
  exact ⟨h₂, t₂, g₂, by rw [e₂, e₁]⟩
theorem GarP.mono {P P' : Addr → Prop} {G G' : Nat → Prop} {s s' : Shared} (x : GarP P G s s') (hP : ∀ b, P' b → P b) (hG : ∀ i, G' i → G i) : GarP P' G' s s' :=
  ⟨x.shape, fun b o e p => x.keep b o e (hP b p), x.tp, x.size, fun i hi g => x.gens i hi (hG i g), x.bare⟩
theorem GarP.of_keeps {P : Addr → Prop} {G : Nat → Prop} {s : Shared} {h' : Heap} {tk : Nat} (hk : ∀ b o, s.heap.get? b = some o → h'.get? b = some o) : GarP P G s { s with heap := h', toks := tk } :=
  ⟨⟨h', tk, s.gens, rfl⟩, fun b o e _ => hk b o e, .of_keeps hk, Nat.le_refl _, fun _ _ _ => rfl, id⟩

/-- and all that was there is still there -/
structure GarE (P : Addr → Prop) (G : Nat → Prop) (s s' : Shared) : Prop extends GarP P G s s' where
  ex : ∀ b o, s.heap.get? b = some o → ∃ o', s'.heap.get? b = some o'
theorem GarE.refl (P : Addr → Prop) (G : Nat → Prop) (s : Shared) : GarE P G s s := ⟨GarP.refl P G s, fun _ o e => ⟨o, e⟩⟩
theorem GarE.trans {P : Addr → Prop} {G : Nat → Prop} {s₁ s₂ s₃ : Shared} (x : GarE P G s₁ s₂) (y : GarE P G s₂ s₃) : GarE P G s₁ s₃ := ⟨x.toGarP.trans y.toGarP, fun b o e => let ⟨o', e'⟩ := x.ex b o e; y.ex b o' e'⟩
theorem GarE.mono {P P' : Addr → Prop} {G G' : Nat → Prop} {s s' : Shared} (x : GarE P G s s') (hP : ∀ b, P' b → P b) (hG : ∀ i, G' i → G i) : GarE P' G' s s' := ⟨x.toGarP.mono hP hG, x.ex⟩

/-- targets -/
inductive Tg where
  | one (x : Nat) (p : Pos)
  | many (ts : List (Nat × Pos)) (k : Nat) (p : Pos)
def Tg.tr (nm : List Str) : Tg → Expr
  | .one x p => .Name (nmAt nm x) p
  | .many ts k p => .Tuple (ts.map fun t => .Name (nmAt nm t.1) t.2) k p
def bindN (cf : Cfg) : List (Nat × Pos) → List AV → List Slot → Option (List Slot)
  | [], [], l => some l
  | t :: ts, d :: ds, l => if canV cf l t.1 = true then bindN cf ts ds (l.set t.1 (.v d)) else none
  | _, _, _ => none
def Tg.bind (cf : Cfg) (l : List Slot) : Tg → AV → Option (List Slot)
  | .one x _, d => if canV cf l x = true then some (l.set x (.v d)) else none
  | .many ts _ _, .tup ds => bindN cf ts ds l
  | _, _ => none

section
variable {F : FC}

theorem adr_eq {wr : List Nat} (hw : wr = []) {adr adr' : Nat → Addr} {σ : St} {s s' : Shared} (g : GoodS F wr adr adr' σ s s') : adr' = adr := by
  funext x
  rcases g.adr x with h | ⟨h, _⟩
  · exact h
  · rw [hw] at h; cases h

theorem bindN_len {cf : Cfg} : ∀ {ts : List (Nat × Pos)} {ds : List AV} {l l' : List Slot}, bindN cf ts ds l = some l' → ts.length = ds.length
  | [], [], _, _, _ => rfl
  | _ :: _, _ :: _, _, _, h => by
    simp only [bindN] at h
    split at h
    · rw [List.length_cons, List.length_cons, bindN_len h]
    · cases h

theorem assignEach_names (env : Env) (nm : List Str) : ∀ ts : List (Nat × Pos), assignEach (ts.map fun t => Expr.Name (nmAt nm t.1) t.2) env = ts.map fun t => (false, assign (.Name (nmAt nm t.1) t.2) env)
  | [] => by simp [assignEach]
  | t :: ts => by
    rw [List.map_cons, List.map_cons, ← assignEach_names env nm ts]
    simp only [assignEach]

theorem assignN_sound (O : F.Ok) {cf : Cfg} (X : Ext F cf) {A : Around} {adr : Nat → Addr} {d : Dr} : ∀ (ts : List (Nat × Pos)) (ds : List AV) (us : List Value) (l l' : List Slot), bindN cf ts ds l = some l' →
    ∀ {s : Shared} {Q : Unit → Shared → Prop} {Er : Value → Shared → Prop}, Inv F ⟨l, d⟩ adr s.heap → Dens s.heap us ds →
    (∀ s', GoodS F cf.wr adr adr ⟨l', d⟩ s s' → (∀ b o, s.heap.get? b = some o → b ≠ F.env.locals → s'.heap.get? b = some o) → Q () s') →
    wpAny (model F.prog F.w) A (assignInOrder (ts.map fun t => assign (.Name (nmAt F.nm t.1) t.2) F.env) us) Q Er s
  | [], [], us, l, l', h, s, Q, Er, I, hu, hQ => by
    simp only [bindN] at h; cases h
    cases hu
    exact wpAny_pure (hQ s (GoodS.refl I) fun _ _ e _ => e)
  | t :: ts, dd :: ds, us, l, l', h, s, Q, Er, I, hu, hQ => by
    simp only [bindN] at h
    split at h
    · rename_i hc
      cases hu with
      | cons hu hus =>
        show wpAny _ _ (holding _ (assign (.Name (nmAt F.nm t.1) t.2) F.env _) >>= fun _ => assignInOrder _ _) _ _ _
        refine wpAny_bind (wpAny_holding (tr_assign1 O X hc I hu fun s₁ g₁ k₁ => ?_))
        refine assignN_sound O X ts ds _ _ _ h g₁.inv (hus.mono g₁.tp) fun s₂ g₂ k₂ => hQ _ (g₁.trans g₂) fun b o e hb => k₂ b o (k₁ b o e hb) hb
    · cases h
  | [], _ :: _, _, _, _, h, _, _, _, _, _, _ => by simp [bindN] at h
  | _ :: _, [], _, _, _, h, _, _, _, _, _, _ => by simp [bindN] at h

theorem GoodS.grow0 {F : FC} (O : F.Ok) {wr : List Nat} {adr : Nat → Addr} {σ : St} {s : Shared} {h' : Heap} {tk : Nat} (I : Inv F σ adr s.heap) (hk : ∀ b o, s.heap.get? b = some o → h'.get? b = some o) : GoodS F wr adr adr σ s { s with heap := h', toks := tk } :=
  ⟨I.grow O hk, ⟨h', tk, rfl, fun b o e _ => hk b o e⟩, fun _ => .inl rfl, .of_keeps hk, fun b o e => ⟨o, hk b o e⟩⟩

theorem Tg.sound (O : F.Ok) {cf : Cfg} (X : Ext F cf) {A : Around} (hh : A.handled = none) {adr : Nat → Addr} {d : Dr} (tg : Tg) {v : AV} {u : Value} {l l' : List Slot} (h : tg.bind cf l v = some l') {s : Shared} {Q : Unit → Shared → Prop} {Er : Value → Shared → Prop}
    (I : Inv F ⟨l, d⟩ adr s.heap) (hu : Den s.heap u v) (hQ : ∀ s', GoodS F cf.wr adr adr ⟨l', d⟩ s s' → (∀ b o, s.heap.get? b = some o → b ≠ F.env.locals → s'.heap.get? b = some o) → Q () s') :
    wpAny (model F.prog F.w) A (assign (tg.tr F.nm) F.env u) Q Er s := by
  cases tg with
  | one x p =>
    simp only [Tg.bind] at h
    split at h
    · rename_i hc
      cases h
      exact tr_assign1 O X hc I hu hQ
    · cases h
  | many ts k p =>
    cases v with
    | tup ds =>
      simp only [Tg.bind] at h
      cases hu with
      | tup ht hus =>
        have hlen : ts.length = ds.length := bindN_len h
        have hl2 := hus.length
        refine PyProof.Rows.assign_Tuple_tuple hh ht (by rw [assignEach_names, List.length_map, List.size_toArray]; omega) ?_ (fun h' he => ?_)
        · rw [assignEach_names]
          rw [List.findIdx?_eq_none_iff]
          intro x hx
          obtain ⟨t, _, rfl⟩ := List.mem_map.mp hx
          rfl
        · have hk : ∀ b o, s.heap.get? b = some o → h'.get? b = some o := fun b o e => he b o (lt_none e) e
          rw [assignEach_names, List.map_map]
          have g := GoodS.grow0 (wr := cf.wr) (tk := s.toks) O I hk
          refine assignN_sound O X ts ds _ _ _ h g.inv (hus.mono (.of_keeps hk)) fun s₂ g₂ k₂ => hQ _ (g.trans g₂) fun b o e hb => k₂ b o (hk b o e) hb
    | _ => simp [Tg.bind] at h
end
end Mine

namespace Mine
open PySem PySem.W PySem.Calls PyProof.Rows PySem.Spec

mutual
inductive GS where
  | s (st : S)
  | y (e : E) (yp p : Pos)
  | ifs (t : T) (b o : GL) (p : Pos)
  | un (ts : List (Nat × Pos)) (k : Nat) (tp : Pos) (x : Nat) (xp p : Pos)
inductive GL where
  | nil
  | cons (g : GS) (r : GL)
end
mutual
def GS.tr (nm : List Str) : GS → Stmt
  | .s st => st.tr nm
  | .y e yp p => .Expr (.Yield (some (e.tr nm)) yp) p
  | .ifs t b o p => .If (t.tr nm) (b.tr nm) (o.tr nm) p
  | .un ts k tp x xp p => .Assign [(Tg.many ts k tp).tr nm] (.Name (nmAt nm x) xp) p
def GL.tr (nm : List Str) : GL → List Stmt
  | .nil => []
  | .cons g r => g.tr nm :: r.tr nm
end
mutual
def GS.ex (cf : Cfg) : Nat → GS → St → Option (Fl × St × List AV)
  | 0, _, _ => none
  | n + 1, .s st, σ => match st.ex cf (n + 1) σ with
    | some (f, σ') => some (f, σ', [])
    | none => none
  | _ + 1, .y e _ _, σ => match e.ev cf σ.loc σ.dr with
    | some (v, d) => some (.next, ⟨σ.loc, d⟩, [v])
    | none => none
  | n + 1, .ifs t b o _, σ => match t.ev cf σ.loc σ.dr with
    | some (true, d) => b.ex cf n ⟨σ.loc, d⟩
    | some (false, d) => o.ex cf n ⟨σ.loc, d⟩
    | none => none
  | _ + 1, .un ts k tp x _ _, σ => match locV σ.loc x with
    | some v => match (Tg.many ts k tp).bind cf σ.loc v with
      | some l => some (.next, ⟨l, σ.dr⟩, [])
      | none => none
    | none => none
def GL.ex (cf : Cfg) : Nat → GL → St → Option (Fl × St × List AV)
  | 0, _, _ => none
  | _ + 1, .nil, σ => some (.next, σ, [])
  | n + 1, .cons g r, σ => match g.ex cf n σ with
    | some (.next, σ', o1) => match r.ex cf n σ' with
      | some (f, σ'', o2) => some (f, σ'', o1 ++ o2)
      | none => none
    | some (.cont, σ', o1) => some (.cont, σ', o1)
    | none => none
end

structure Par where
  P : Addr → Prop
  W : Addr → Prop
  G : Nat → Prop
  V : Nat → Prop

def Par.Rely (π : Par) (s s' : Shared) : Prop := GarE (fun b => ¬ π.W b) (fun i => ¬ π.V i) s s'
def Yp (π : Par) (all : List AV) : Protocol := fun n s₀ v s' k => GarP π.P π.G s₀ s' ∧ (∃ d, all[all.length - (n + 1)]? = some d ∧ Den s'.heap v d) ∧ ∀ s'', π.Rely s' s'' → k (.send .none) s''
def Rp (π : Par) : GenEnd := fun n s₀ r s₁ => r = .ok (.ret .none) ∧ (n = 0 ∧ GarP π.P π.G s₀ s₁)

structure Par.Fits (π : Par) (F : FC) (adr : Nat → Addr) : Prop where
  cell : F.cell = none
  st : F.st = none
  loc : ¬ π.P F.env.locals ∧ ¬ π.W F.env.locals
  adr : ∀ x, ¬ π.W (adr x)
  base : ∀ b o, F.hb.get? b = some o → ¬ π.W b

def Par.Long (π : Par) (F : FC) (s s' : Shared) : Prop := GarE (fun b => b ≠ F.env.locals ∧ ¬ π.W b) (fun i => ¬ π.V i) s s'

section
variable {F : FC} {π : Par} {adr : Nat → Addr}

theorem Inv.rely (ft : π.Fits F adr) {σ : St} {s s' : Shared} (I : Inv F σ adr s.heap) (r : π.Rely s s') : Inv F σ adr s'.heap where
  base := fun b o e => r.keep b o (I.base b o e) (ft.base b o e)
  loc := by
    obtain ⟨m, ⟨o, es, ep, ho, q⟩, hs⟩ := I.loc
    refine ⟨m, ⟨o, es, ep, r.keep _ _ ho ft.loc.2, q⟩, fun x sl e => ?_⟩
    have hv : ∀ v, VarIs F s.heap m x v → VarIs F s'.heap m x v := by
      intro v hv
      unfold VarIs at hv ⊢
      rw [ft.cell] at hv ⊢
      exact hv
    have := hs x sl e
    cases sl with
    | u => trivial
    | v d => obtain ⟨v, h1, h2⟩ := this; exact ⟨v, hv v h1, h2.mono r.tp⟩
    | s => obtain ⟨t, h1, h2⟩ := this; rw [ft.st] at h1; cases h1
    | l vs => obtain ⟨h1, ws, ⟨n, h2⟩, h3⟩ := this; exact ⟨hv _ h1, ws, ⟨n, r.keep _ _ h2 (ft.adr x)⟩, h3.mono r.tp⟩
  cellIs := fun x c e => by rw [ft.cell] at e; cases e
  apart := I.apart
  dr := fun t e => by rw [ft.st] at e; cases e

theorem GoodS.gar (ft : π.Fits F adr) {wr : List Nat} (hw : wr = []) {P : Addr → Prop} {G : Nat → Prop} (hP : ¬ P F.env.locals) {adr' : Nat → Addr} {σ' : St} {s s' : Shared} (g : GoodS F wr adr adr' σ' s s') : GarP P G s s' := by
  have tp := g.tp
  have st := g.stp
  obtain ⟨h', tk, e, k⟩ := st
  subst e
  refine ⟨⟨h', tk, s.gens, rfl⟩, fun b o e p => k b o e ?_, tp, Nat.le_refl _, fun _ _ _ => rfl, id⟩
  rintro (q | ⟨x, q⟩ | ⟨t, q, _⟩ | ⟨x, q, _⟩)
  · exact hP (q ▸ p)
  · rw [ft.cell] at q; cases q
  · rw [ft.st] at q; cases q
  · rw [hw] at q; cases q

theorem GoodS.long (ft : π.Fits F adr) {wr : List Nat} (hw : wr = []) {adr' : Nat → Addr} {σ' : St} {s s' : Shared} (g : GoodS F wr adr adr' σ' s s') : π.Long F s s' := ⟨g.gar ft hw fun h => h.1 rfl, g.ex⟩

theorem Par.Rely.long {s s' : Shared} (r : π.Rely s s') : π.Long F s s' := r.mono (fun _ h => h.2) fun _ h => h

theorem G_sound (O : F.Ok) {cf : Cfg} (X : Ext F cf) (hw : cf.wr = []) (ft : π.Fits F adr) {A : Around} {c : Code} {fs : List Frame} (hA : AOk 2 (A.over c fs)) (hfs : splitAtGen fs = none) (hfg : fs.any Frame.guarded = false)
    (hco : F.env.scope.isCoroutine = false) {all : List AV} : ∀ k : Nat,
    (∀ (gs : GS) (σ σ' : St) (fl : Fl) (outs : List AV), gs.ex cf k σ = some (fl, σ', outs) → ∀ (pre post : List AV), all = pre ++ outs ++ post → ∀ (s₀ s : Shared) (K : Flow → Sem Fin) (H : Value → Sem Fin) (gd : Bool → Bool) (lv : List Value → List Value),
      gd false = false → Inv F σ adr s.heap → GarP π.P π.G s₀ s →
      (∀ s₀' s', Inv F σ' adr s'.heap → GarP π.P π.G s₀' s' → π.Long F s s' → Seg (model F.prog F.w) A (Rp π) (Yp π all) post.length s₀' c (K fl.flow) fs s') →
      Seg (model F.prog F.w) A (Rp π) (Yp π all) (outs.length + post.length) s₀ c ((exec (gs.tr F.nm) F.env).wrap K H gd lv) fs s) ∧
    (∀ (gs : GL) (σ σ' : St) (fl : Fl) (outs : List AV), gs.ex cf k σ = some (fl, σ', outs) → ∀ (pre post : List AV), all = pre ++ outs ++ post → ∀ (s₀ s : Shared) (K : Flow → Sem Fin) (H : Value → Sem Fin) (gd : Bool → Bool) (lv : List Value → List Value),
      gd false = false → Inv F σ adr s.heap → GarP π.P π.G s₀ s →
      (∀ s₀' s', Inv F σ' adr s'.heap → GarP π.P π.G s₀' s' → π.Long F s s' → Seg (model F.prog F.w) A (Rp π) (Yp π all) post.length s₀' c (K fl.flow) fs s') →
      Seg (model F.prog F.w) A (Rp π) (Yp π all) (outs.length + post.length) s₀ c ((execs (gs.tr F.nm) F.env).wrap K H gd lv) fs s) := by
  intro k
  induction k with
  | zero =>
    constructor
    · intro gs σ σ' fl outs h; simp [GS.ex] at h
    · intro gs σ σ' fl outs h; simp [GL.ex] at h
  | succ k ih =>
    constructor
    · intro gs σ σ' fl outs h pre post hall s₀ s K H gd lv hgd I hg hQ
      cases gs with
      | s st =>
        simp only [GS.ex] at h
        split at h
        · rename_i f σ₁ e
          cases h
          rw [List.length_nil, Nat.zero_add]
          refine seg_plain ((ex_sound O X hA (k + 1)).1 st _ _ _ e adr s _ _ I fun adr' s' g => ?_)
          have ea := adr_eq hw g
          subst ea
          exact hQ _ _ g.inv (hg.trans (g.gar ft hw ft.loc.1)) (g.long ft hw)
        · cases h
      | y e yp p =>
        simp only [GS.ex] at h
        split at h
        · rename_i v d ev
          cases h
          rw [show [v].length + post.length = post.length + 1 by rw [List.length_singleton]; omega]
          refine seg_Expr_Yield hfs hgd hfg (E.sound O X hA e ev I fun u s' hu g kap hk => ?_) hco (by unfold interactive; rw [O.kind]; rfl)
          have g' := g.S (wr := cf.wr) I
          refine ⟨hg.trans (g'.gar ft hw ft.loc.1), ⟨v, ?_, hu⟩, fun s'' r => hk _ _ ?_⟩
          · rw [hall]
            have : (pre ++ [v] ++ post).length - (post.length + 1) = pre.length := by simp only [List.length_append, List.length_singleton]; omega
            rw [this]
            simp
          · exact hQ s'' s'' (g.1.rely ft r) (.refl _ _ _) ((g'.long ft hw).trans r.long)
        · cases h
      | ifs t b o p =>
        simp only [GS.ex] at h
        split at h
        · rename_i d ev
          refine seg_If (T.sound O X hA t ev I fun s' g => ?_)
          rw [if_pos rfl]
          have g' := g.S (wr := cf.wr) I
          exact ih.2 b _ _ _ _ h pre post hall s₀ s' K H gd lv hgd g.1 (hg.trans (g'.gar ft hw ft.loc.1)) fun s₀' s'' I' hg' hl => hQ _ _ I' hg' ((g'.long ft hw).trans hl)
        · rename_i d ev
          refine seg_If (T.sound O X hA t ev I fun s' g => ?_)
          rw [if_neg Bool.false_ne_true]
          have g' := g.S (wr := cf.wr) I
          exact ih.2 o _ _ _ _ h pre post hall s₀ s' K H gd lv hgd g.1 (hg.trans (g'.gar ft hw ft.loc.1)) fun s₀' s'' I' hg' hl => hQ _ _ I' hg' ((g'.long ft hw).trans hl)
        · cases h
      | un ts tk tp x xp p =>
        simp only [GS.ex] at h
        split at h
        · rename_i v el
          split at h
          · rename_i l eb
            cases h
            rw [List.length_nil, Nat.zero_add]
            refine seg_plain (PyProof.Rows.Assign_Tuple (load_v O I el fun u hu => Tg.sound O X hA.1 (.many ts tk tp) eb I hu fun s' g _ => ?_) (by rfl) (by rfl))
            exact hQ _ _ g.inv (hg.trans (g.gar ft hw ft.loc.1)) (g.long ft hw)
          · cases h
        · cases h
    · intro gs σ σ' fl outs h pre post hall s₀ s K H gd lv hgd I hg hQ
      cases gs with
      | nil =>
        simp only [GL.ex] at h
        cases h
        rw [List.length_nil, Nat.zero_add]
        exact seg_execs_nil (hQ _ _ I hg (GarE.refl _ _ _))
      | cons g r =>
        simp only [GL.ex] at h
        split at h
        · rename_i σ₁ o1 e1
          split at h
          · rename_i f σ₂ o2 e2
            cases h
            rw [show (o1 ++ o2).length + post.length = o1.length + (o2 ++ post).length by simp only [List.length_append]; omega]
            refine seg_execs_cons (ih.1 g _ _ _ _ e1 pre (o2 ++ post) (by rw [hall]; simp) s₀ s _ H gd lv hgd I hg fun s₀' s' I' hg' hl => ?_)
            rw [List.length_append]
            exact ih.2 r _ _ _ _ e2 (pre ++ o1) post (by rw [hall]; simp) s₀' s' K H gd lv hgd I' hg' fun s₀'' s'' I'' hg'' hl' => hQ _ _ I'' hg'' (hl.trans hl')
          · cases h
        · rename_i σ₁ o1 e1
          cases h
          exact seg_execs_cons (ih.1 g _ _ _ _ e1 pre post hall s₀ s _ H gd lv hgd I hg fun s₀' s' I' hg' hl => hQ _ _ I' hg' hl)
        · cases h
end
end Mine

namespace Mine
open PySem PySem.W PySem.Calls PyProof.Rows PySem.Spec

section
variable {F : FC} {π : Par} {adr : Nat → Addr}

/-- what the frame needs kept -/
def FC.Need (F : FC) (adr : Nat → Addr) (b : Addr) : Prop := b = F.env.locals ∨ (∃ x, b = adr x) ∨ ∃ o, F.hb.get? b = some o

theorem Inv.kept (hc : F.cell = none) (hst : F.st = none) {σ : St} {h h' : Heap} (I : Inv F σ adr h) (hk : ∀ b o, h.get? b = some o → F.Need adr b → h'.get? b = some o) (tp : TP h h') : Inv F σ adr h' where
  base := fun b o e => hk b o (I.base b o e) (.inr (.inr ⟨o, e⟩))
  loc := by
    obtain ⟨m, ⟨o, es, ep, ho, q⟩, hs⟩ := I.loc
    refine ⟨m, ⟨o, es, ep, hk _ _ ho (.inl rfl), q⟩, fun x sl e => ?_⟩
    have hv : ∀ v, VarIs F h m x v → VarIs F h' m x v := by
      intro v hv
      unfold VarIs at hv ⊢
      rw [hc] at hv ⊢
      exact hv
    have := hs x sl e
    cases sl with
    | u => trivial
    | v d => obtain ⟨v, h1, h2⟩ := this; exact ⟨v, hv v h1, h2.mono tp⟩
    | s => obtain ⟨t, h1, h2⟩ := this; rw [hst] at h1; cases h1
    | l vs => obtain ⟨h1, ws, ⟨n, h2⟩, h3⟩ := this; exact ⟨hv _ h1, ws, ⟨n, hk _ _ h2 (.inr (.inl ⟨x, rfl⟩))⟩, h3.mono tp⟩
  cellIs := fun x c e => by rw [hc] at e; cases e
  apart := I.apart
  dr := fun t e => by rw [hst] at e; cases e

/-- an iterator over items, as the frame sees it -/
structure ItOk (F : FC) (π : Par) (adr : Nat → Addr) (A : Around) (it : Value) (items : List AV) (T : Nat → Shared → Prop) : Prop where
  next : ∀ (i : Nat) (s : Shared) (d : AV) (Q : Option Value → Shared → Prop) (Er : Value → Shared → Prop), T i s → items[i]? = some d →
    (∀ v s', Den s'.heap v d → GarP (fun b => π.P b ∨ F.Need adr b) π.G s s' → T (i + 1) s' → Q (some v) s') → wpAny (model F.prog F.w) A (pyNext it) Q Er s
  done : ∀ (s : Shared) (Q : Option Value → Shared → Prop) (Er : Value → Shared → Prop), T items.length s →
    (∀ s', GarP (fun b => π.P b ∨ F.Need adr b) π.G s s' → Q none s') → wpAny (model F.prog F.w) A (pyNext it) Q Er s
  long : ∀ (i : Nat) (s s' : Shared), T i s → π.Long F s s' → T i s'
  own : ∀ (i : Nat) (s : Shared) (tg : Expr) (v : Value) (Q : Unit → Shared → Prop) (Er : Value → Shared → Prop), T i s → Q () s → wpAny (model F.prog F.w) A (letOwnedTupleGo tg it v) Q Er s

def gloop (cf : Cfg) (tg : Tg) (body : GL) (k : Nat) : List AV → St → Option (St × List AV)
  | [], σ => some (σ, [])
  | d :: ds, σ => match tg.bind cf σ.loc d with
    | some l => match body.ex cf k ⟨l, σ.dr⟩ with
      | some (_, σ₁, o1) => match gloop cf tg body k ds σ₁ with
        | some (σ₂, o2) => some (σ₂, o1 ++ o2)
        | none => none
      | none => none
    | none => none

theorem loop_sound (O : F.Ok) {cf : Cfg} (X : Ext F cf) (hw : cf.wr = []) (ft : π.Fits F adr) {A : Around} {it : Value} {tg : Tg} {body : GL} {fs : List Frame}
    (hA : AOk 2 (A.over (.forLoop (tg.tr F.nm) it (body.tr F.nm) [] F.env) fs)) (hfs : splitAtGen fs = none) (hfg : fs.any Frame.guarded = false)
    (hco : F.env.scope.isCoroutine = false) {all items : List AV} {T : Nat → Shared → Prop} (hI : ItOk F π adr (A.over (.forLoop (tg.tr F.nm) it (body.tr F.nm) [] F.env) fs) it items T) (k : Nat) {σ' : St} {post : List AV}
    (hE : ∀ s₀' s', Inv F σ' adr s'.heap → GarP π.P π.G s₀' s' → Seg (model F.prog F.w) A (Rp π) (Yp π all) post.length s₀' (.block [] F.env) ((model F.prog F.w).den (.block [] F.env)) fs s') :
    ∀ (ds : List AV) (i : Nat) (σ : St) (outs pre : List AV) (s₀ s : Shared), items.drop i = ds → i ≤ items.length → gloop cf tg body k ds σ = some (σ', outs) → all = pre ++ outs ++ post → Inv F σ adr s.heap → GarP π.P π.G s₀ s → T i s →
      Seg (model F.prog F.w) A (Rp π) (Yp π all) (outs.length + post.length) s₀ (.forLoop (tg.tr F.nm) it (body.tr F.nm) [] F.env) ((model F.prog F.w).den (.forLoop (tg.tr F.nm) it (body.tr F.nm) [] F.env)) fs s := by
  intro ds
  induction ds with
  | nil =>
    intro i σ outs pre s₀ s hd hi h hall I hg hT
    simp only [gloop] at h
    cases h
    have hi' : i = items.length := by
      have := List.drop_eq_nil_iff.mp hd
      omega
    subst hi'
    rw [List.length_nil, Nat.zero_add]
    refine seg_forLoop (hI.done _ _ _ hT fun s' g => ?_)
    exact hE _ _ (I.kept ft.cell ft.st (fun b o e n => g.keep b o e (.inr n)) g.tp) (hg.trans (g.mono (fun _ => .inl) fun _ x => x))
  | cons d ds ih =>
    intro i σ outs pre s₀ s hd hi h hall I hg hT
    simp only [gloop] at h
    split at h
    · rename_i l el
      split at h
      · rename_i fl σ₁ o1 e1
        split at h
        · rename_i σ₂ o2 e2
          cases h
          have hi1 : items[i]? = some d := by
            have : (items.drop i)[0]? = some d := by rw [hd]; rfl
            rwa [List.getElem?_drop, Nat.add_zero] at this
          have hd' : items.drop (i + 1) = ds := by
            have : (items.drop i).drop 1 = ds := by rw [hd]; rfl
            rwa [List.drop_drop] at this
          have hlt : i + 1 ≤ items.length := (List.getElem?_eq_some_iff.mp hi1).1
          rw [show (o1 ++ o2).length + post.length = o1.length + (o2 ++ post).length by simp only [List.length_append]; omega]
          refine seg_forLoop (hI.next i s d _ _ hT hi1 fun v s₁ hv g₁ hT₁ => ?_)
          have I₁ := I.kept ft.cell ft.st (fun b o e n => g₁.keep b o e (.inr n)) g₁.tp
          refine hI.own _ _ _ _ _ _ hT₁ (Tg.sound O X hA.1 tg el I₁ hv fun s₂ g₂ _ => ?_)
          refine (G_sound O X hw ft hA hfs hfg hco k).2 body _ _ _ _ e1 pre (o2 ++ post) (by rw [hall]; simp) s₀ s₂ _ _ id id rfl g₂.inv ((hg.trans (g₁.mono (fun _ => .inl) fun _ x => x)).trans (g₂.gar ft hw ft.loc.1)) fun s₀' s₃ I₃ hg₃ hl₃ => ?_
          have hT₃ := hI.long _ _ _ hT₁ ((g₂.long ft hw).trans hl₃)
          have key := ih (i + 1) σ₁ o2 (pre ++ o1) s₀' s₃ hd' hlt e2 (by rw [hall]; simp) I₃ hg₃ hT₃
          rw [List.length_append]
          cases fl
          · exact seg_again (by rfl) key
          · exact seg_again (by rfl) key
        · cases h
      · cases h
    · cases h

theorem execs_app_wrap {env : Env} {K : Flow → Sem Fin} {H : Value → Sem Fin} {gd : Bool → Bool} {lv : List Value → List Value} (b : List Stmt) : ∀ a : List Stmt, (execs (a ++ b) env).wrap K H gd lv =
    (execs a env).wrap (fun f => match f with | .next => (execs b env).wrap K H gd lv | f => K f) H gd lv
  | [] => rfl
  | st :: a => by
    rw [List.cons_append, execs_cons_wrap, execs_cons_wrap]
    refine Sem.wrap_congr _ _ _ (fun f => ?_) fun _ => rfl
    cases f with
    | next => exact execs_app_wrap b a
    | _ => rfl

/-- the list's iterator -/
theorem list_it (ft : π.Fits F adr) {A : Around} (hh : A.handled = none) {It La : Addr} {ws : List Value} {items : List AV} (h1 : It ≠ F.env.locals ∧ ¬ π.W It) (h2 : La ≠ F.env.locals ∧ ¬ π.W La) (h3 : ¬ π.P It) (h4 : ¬ F.Need adr It) :
    ItOk F π adr A (.ref It) items (fun i s => s.heap.IsListIter It La i ∧ s.heap.PlainList La ws.toArray ∧ Dens s.heap ws items) where
  next := by
    rintro i s d Q Er ⟨ti, tl, td⟩ hd hQ
    obtain ⟨v, hv, hdv⟩ := td.get hd
    refine wpAny_pyNext_list_item ti tl.isList (by simpa using hv) fun h' hi' hs => ?_
    have hkeep : ∀ b o, s.heap.get? b = some o → b ≠ It → h'.get? b = some o := fun b o e hb => (hs.2 b hb).trans e
    have htp : TP s.heap h' := fun b o e hc hd => hkeep b o e fun eb => by
      subst eb
      obtain ⟨o', ho', hc', _⟩ := ti
      rw [ho'] at e; cases e
      rw [hc'] at hc
      exact absurd (Value.type.inj hc) (by decide)
    have hla : La ≠ It := by
      rintro rfl
      obtain ⟨o', ho', hc', _⟩ := ti
      obtain ⟨o2, ho2, hc2, _⟩ := tl.isList
      rw [ho'] at ho2; cases ho2
      rw [hc'] at hc2
      exact absurd (Value.type.inj hc2) (by decide)
    refine hQ v _ (hdv.mono htp) ⟨⟨h', s.toks, s.gens, rfl⟩, fun b o e p => hkeep b o e ?_, htp, Nat.le_refl _, fun _ _ _ => rfl, id⟩ ⟨hi', let ⟨n, ho⟩ := tl; ⟨n, hkeep _ _ ho hla⟩, td.mono htp⟩
    rintro rfl
    exact p.elim h3 h4
  done := by
    rintro s Q Er ⟨ti, tl, td⟩ hQ
    have hl := td.length
    refine wpAny_pyNext_list_end hh ti tl.isList (by simp [hl]) fun h' he => ?_
    have hkeep : ∀ b o, s.heap.get? b = some o → b ≠ It → h'.get? b = some o := fun b o e hb => he b o hb e
    refine hQ _ ⟨⟨h', s.toks, s.gens, rfl⟩, fun b o e p => hkeep b o e ?_, fun b o e hc hd => hkeep b o e fun eb => ?_, Nat.le_refl _, fun _ _ _ => rfl, id⟩
    · rintro rfl
      exact p.elim h3 h4
    · subst eb
      obtain ⟨o', ho', hc', _⟩ := ti
      rw [ho'] at e; cases e
      rw [hc'] at hc
      exact absurd (Value.type.inj hc) (by decide)
  long := by
    rintro i s s' ⟨ti, tl, td⟩ r
    exact ⟨(let ⟨o, ho, q⟩ := ti; ⟨o, r.keep _ _ ho h1, q⟩), (let ⟨n, ho⟩ := tl; ⟨n, r.keep _ _ ho h2⟩), td.mono r.tp⟩
  own := by
    rintro i s tg v Q Er ⟨ti, tl, td⟩ hQ
    obtain ⟨o, ho, hc, hd⟩ := ti
    have key : wpAny (model F.prog F.w) A (do
        let o ← load It
        match o.cls, o.data with
        | .type n, .fields vs =>
          if ["enumerate", "zip", "dict_itemiterator", "dict_reverseitemiterator", "odict_iterator", "itertools.zip_longest", "itertools.pairwise"].contains n && vs[0]? == some (rawInt (match v with | .ref a => a | _ => 0)) then
            rule "for.unpacks-the-owned-tuple"
            updateField It 0 .none
        | _, _ => pure ()) Q Er s := by
      refine wpAny_bind (wpAny_load ho ?_)
      rw [hc, hd]
      exact wpAny_pure hQ
    cases tg with
    | Tuple es k p => cases v <;> first | exact key | exact wpAny_pure hQ
    | List es p => cases v <;> first | exact key | exact wpAny_pure hQ
    | _ => exact wpAny_pure hQ
end
end Mine

namespace Mine
open PySem PySem.W PySem.Calls PyProof.Rows PySem.Spec

theorem setGen_ne {s : Shared} {g i : Nat} {x : GenState} (h : i ≠ g) : (s.setGen g x).gens[i]? = s.gens[i]? := by
  show (s.gens.setIfInBounds g x)[i]? = _
  rw [Array.getElem?_setIfInBounds_ne (Ne.symm h)]
theorem setGen_eq {s : Shared} {g : Nat} {x : GenState} (h : g < s.gens.size) : (s.setGen g x).gens[g]? = some x := by
  show (s.gens.setIfInBounds g x)[g]? = _
  rw [Array.getElem?_setIfInBounds_self_of_lt h]
theorem setGen_size {s : Shared} {g : Nat} {x : GenState} : (s.setGen g x).gens.size = s.gens.size := by
  show (s.gens.setIfInBounds g x).size = _
  rw [Array.size_setIfInBounds]
theorem setGen_bare {s : Shared} {g : Nat} {x : GenState} (hx : x.bare = true) (h : AllBare s.gens) : AllBare (s.setGen g x).gens := by
  intro y hy
  obtain ⟨i, e⟩ := Array.mem_iff_getElem?.mp hy
  have hi := (Array.getElem?_eq_some_iff.mp e).1
  by_cases q : i = g
  · subst q
    rw [setGen_eq (by rwa [setGen_size] at hi)] at e
    cases e; exact hx
  · rw [setGen_ne q] at e
    exact h y (Array.mem_of_getElem? e)

/-- the promise over a change of the generator's own state -/
theorem GarP.setGen {P : Addr → Prop} {G : Nat → Prop} {s : Shared} {g : Nat} {x : GenState} (hg : ¬ G g) (hx : x.bare = true) : GarP P G s (s.setGen g x) :=
  ⟨⟨s.heap, s.toks, _, rfl⟩, fun _ _ e _ => e, .refl _, by rw [setGen_size]; exact Nat.le_refl _, fun i _ hi => setGen_ne fun e => hg (e ▸ hi), setGen_bare hx⟩
theorem GarP.heap {P : Addr → Prop} {G : Nat → Prop} {s : Shared} {h' : Heap} (hk : ∀ b o, s.heap.get? b = some o → h'.get? b = some o) : GarP P G s { s with heap := h' } :=
  ⟨⟨h', s.toks, s.gens, rfl⟩, fun b o e _ => hk b o e, .of_keeps hk, Nat.le_refl _, fun _ _ _ => rfl, id⟩

section
variable {prog : Program} {w : World} {A : Around} {Er : Value → Shared → Prop} {s : Shared}

theorem pyNext_genQ {a : Addr} {g n : Nat} {gs : GenState} {P : Nat → Shared → Shared → Prop} {Y : Protocol} {Q : Option Value → Shared → Prop} (hh : A.handled = none)
    (hl : s.heap.NoLimit) (hroom : A.depth < recursionLimit) (hg : s.heap.IsGen a g) (hgs : s.gens[g]? = some gs)
    (hgo : gs.Goes (model prog w) A.in1 (fun n s₀ r s₁ => r = .ok (.ret .none) ∧ P n s₀ s₁) Y n (.send .none) (s.setGen g .running))
    (hY : ∀ v s₁ gs', gs'.bare = true → Y (n - 1) (s.setGen g .running) v s₁ (fun r' s'' => match n with
        | 0 => False
        | m + 1 => gs'.Goes (model prog w) A.in1 (fun n s₀ r s₁ => r = .ok (.ret .none) ∧ P n s₀ s₁) Y m r' s'') → Q (some v) (s₁.setGen g gs'))
    (hP : ∀ s₁, P n (s.setGen g .running) s₁ → ∀ h', (∀ b o, s₁.heap.get? b = some o → h'.get? b = some o) → Q none { s₁.setGen g .finished with heap := h' }) :
    wpAny (model prog w) A (pyNext (.ref a)) Q Er s := by
  unfold pyNext
  refine wpAny_bind (wpAny_attempt (wpAny_callSpecial?_slot (name := Str.ofString "__next__") hg.typeIs slot_gen_next
    (wpAny_call_entry slot_gen_next hg.typeIs entry_gen_next ?_ (args_gen_next _))))
  show wpAny _ A.in1 (Builtin.Generator.genWake (.ref a) (.send .none)) _ _ s
  unfold Builtin.Generator.genWake
  refine wpAny_bind (wpAny_holding (wpAny_genNumber hg (wpAny_bind (wpAny_genState hgs ?_))))
  cases gs with
  | running => exact hgo.elim
  | finished => exact hgo.elim
  | _ =>
    refine wpAny_bind (wpAny_roomToWake hl hroom ?_)
    show wpAny _ A.in1 (.resume g (.send .none) [] _) _ _ s
    refine wpAny_resumeQ hgs hgo (fun x s₁ hx => ?_) (fun v s₁ gs' hb hv => ?_)
    · obtain ⟨rfl, hp⟩ := hx
      show wpAny _ A.in1 (newExc (.type "StopIteration") [] >>= _) _ _ _
      refine wpAny_bind ?_
      simp only [newExc, newTuple]
      refine wpAny_bind (wpAny_newObj_type ?_ (by size_fits))
      refine wpAny_bind (m := firstArgMember _ _) (wpAny_of_eq (a := Value.none) (by first | rfl | (simp only [firstArgMember]; rfl)) ?_)
      refine wpAny_newObj_type ?_ (by size_fits)
      simp only [raiseNew]
      refine wpAny_bind (wpAny_bind (wpAny_handled ?_))
      first | rw [show A.in1.handled = none from hh] | rw [hh]
      refine wpAny_throw ?_
      refine wpAny_bind (wpAny_isInstance (T := "StopIteration") (b := true) ⟨_, Heap.get?_push_size _ rfl, rfl⟩ isSubtype_stop ?_)
      exact wpAny_pure (hP s₁ hp _ fun b o hb => Heap.get?_push_of_some _ (Heap.get?_push_of_some _ hb))
    · exact wpAny_pure ⟨v, rfl, wpAny_pure (hY v s₁ gs' hb hv)⟩

structure GOk (hb : Heap) (π : Par) (I : Addr) (g : Nat) : Prop where
  self : π.P I ∧ ¬ π.W I
  base : ∀ b o, hb.get? b = some o → π.P b ∧ ¬ π.W b
  ix : π.V g ∧ ¬ π.G g
  lim : hb.NoLimit

structure GenSt (prog : Program) (w : World) (A : Around) (hb : Heap) (π : Par) (I : Addr) (g : Nat) (all : List AV) (i : Nat) (s : Shared) : Prop where
  gen : s.heap.IsGen I g
  base : ∀ b o, hb.get? b = some o → s.heap.get? b = some o
  st : ∃ gs, s.gens[g]? = some gs ∧ ∀ s'', π.Rely s s'' → gs.Goes (model prog w) A.in1 (Rp π) (Yp π all) (all.length - i) (.send .none) (s''.setGen g .running)

variable {hb : Heap} {π : Par} {I : Addr} {g : Nat} {all : List AV} {i : Nat}

theorem GenSt.rely (K : GOk hb π I g) {s' : Shared} (S : GenSt prog w A hb π I g all i s) (r : π.Rely s s') (hg : s'.gens[g]? = s.gens[g]?) : GenSt prog w A hb π I g all i s' where
  gen := let ⟨o, nm, qn, ho, q⟩ := S.gen; ⟨o, nm, qn, r.keep _ _ ho K.self.2, q⟩
  base := fun b o e => r.keep b o (S.base b o e) (K.base b o e).2
  st := let ⟨gs, h1, h2⟩ := S.st; ⟨gs, hg.trans h1, fun s'' r' => h2 s'' (GarE.trans r r')⟩

theorem rely_setGen {s s' : Shared} (K : GOk hb π I g) {x : GenState} (hx : x.bare = true) (r : π.Rely s s') : π.Rely s (s'.setGen g x) := GarE.trans r ⟨GarP.setGen (fun h => h K.ix.1) hx, fun _ o e => ⟨o, e⟩⟩

theorem gen_next (K : GOk hb π I g) (hh : A.handled = none) (hroom : A.depth < recursionLimit) (S : GenSt prog w A hb π I g all i s) {d : AV} (hd : all[i]? = some d) {Q : Option Value → Shared → Prop}
    (hQ : ∀ v s', Den s'.heap v d → GarP π.P π.G s s' → GenSt prog w A hb π I g all (i + 1) s' → Q (some v) s') : wpAny (model prog w) A (pyNext (.ref I)) Q Er s := by
  obtain ⟨gs, hgs, hgo⟩ := S.st
  have hlt : i < all.length := (List.getElem?_eq_some_iff.mp hd).1
  have hgl : g < s.gens.size := (Array.getElem?_eq_some_iff.mp hgs).1
  obtain ⟨m, hm⟩ : ∃ m, all.length - i = m + 1 := ⟨all.length - i - 1, by omega⟩
  have hgo' := hgo s (GarE.refl _ _ _)
  rw [hm] at hgo'
  refine pyNext_genQ hh (K.lim.keeps S.base) hroom S.gen hgs hgo' (fun v s₁ gs' hbare hy => ?_) (fun s₁ hp => absurd hp.1 (Nat.succ_ne_zero m))
  obtain ⟨hgar, ⟨d', hd', hden⟩, hrel⟩ := hy
  have ei : all.length - (m + 1 - 1 + 1) = i := by omega
  rw [ei, hd] at hd'
  cases hd'
  have hg1 : g < s₁.gens.size := Nat.lt_of_lt_of_le hgl (by have := hgar.size; rwa [setGen_size] at this)
  have G1 : GarP π.P π.G s (s₁.setGen g gs') := (GarP.setGen K.ix.2 rfl).trans (hgar.trans (GarP.setGen K.ix.2 hbare))
  refine hQ v _ hden G1 ⟨?_, fun b o e => G1.keep b o (S.base b o e) (K.base b o e).1, gs', setGen_eq hg1, fun s'' r => ?_⟩
  · obtain ⟨o, nm, qn, ho, q⟩ := S.gen
    exact ⟨o, nm, qn, G1.keep _ _ ho K.self.1, q⟩
  · have e1 : all.length - (i + 1) = m := by omega
    rw [e1]
    refine hrel (s''.setGen g .running) ?_
    have r2 : π.Rely (s₁.setGen g gs') (s''.setGen g .running) := rely_setGen K rfl r
    exact GarE.trans ⟨GarP.setGen (fun h => h K.ix.1) hbare, fun _ o e => ⟨o, e⟩⟩ r2

theorem gen_done (K : GOk hb π I g) (hh : A.handled = none) (hroom : A.depth < recursionLimit) (S : GenSt prog w A hb π I g all all.length s) {Q : Option Value → Shared → Prop}
    (hQ : ∀ s', GarP π.P π.G s s' → Q none s') : wpAny (model prog w) A (pyNext (.ref I)) Q Er s := by
  obtain ⟨gs, hgs, hgo⟩ := S.st
  have hgo' := hgo s (GarE.refl _ _ _)
  rw [Nat.sub_self] at hgo'
  refine pyNext_genQ hh (K.lim.keeps S.base) hroom S.gen hgs hgo' (fun v s₁ gs' hbare hy => ?_) (fun s₁ hp h' hk => ?_)
  · obtain ⟨hgar, ⟨d', hd', hden⟩, hrel⟩ := hy
    exact (hrel s₁ (GarE.refl _ _ _)).elim
  · exact hQ _ ((GarP.setGen K.ix.2 rfl).trans (hp.2.trans ((GarP.setGen (x := .finished) K.ix.2 rfl).trans (GarP.heap hk))))
end
end Mine

namespace Mine
open PySem PySem.W PySem.Calls PyProof.Rows PySem.Spec

section
variable {prog : Program} {w : World} {A : Around} {hb : Heap} {π : Par} {I : Addr} {g : Nat} {all : List AV} {R : Result → Shared → Prop}

theorem TP.of_list {h h' : Heap} {S : Addr} {o : Obj} (ho : h.get? S = some o) (hc : o.cls = .type "list") (k : ∀ b o, b ≠ S → h.get? b = some o → h'.get? b = some o) : TP h h' := fun b o' e c _ => k b o' (fun eb => by
  subst eb
  rw [ho] at e; cases e
  rw [hc] at c
  exact absurd (Value.type.inj c) (by decide)) e

theorem upd_ex {h : Heap} {S : Addr} {f : Obj → Obj} {o : Obj} (ho : h.get? S = some o) (hf : (f o).isFreed = false) : ∀ b o', h.get? b = some o' → ∃ o'', (h.update S f).get? b = some o'' := fun b o' e => by
  by_cases eb : b = S
  · subst eb; exact ⟨_, Heap.get?_update_self f ho hf⟩
  · exact ⟨o', (Heap.get?_update_other _ _ (Ne.symm eb)).trans e⟩

theorem ext_loop (K : GOk hb π I g) (hh : A.handled = none) (hroom : A.depth < recursionLimit) {S : Addr} (hS1 : π.P S ∧ π.W S) (res : Value) (hn : all.length ≤ 1000000) :
    ∀ (k i : Nat) (s : Shared) (ws : List Value) (acc : Array Value) (c : Nat), all.length - i = k → i ≤ all.length → GenSt prog w A.in1 hb π I g all i s → s.heap.get? S = some { cls := .type "list", dict := none, data := .seq acc c, slots := #[] } → acc = ws.toArray → Dens s.heap ws (all.take i) →
      (∀ s' ws' c', GarP (fun b => π.P b ∧ b ≠ S) (fun i => π.G i) s s' → s'.heap.get? S = some { cls := .type "list", dict := none, data := .seq ws'.toArray c', slots := #[] } → Dens s'.heap ws' all → R (.ok (.ret res)) s') →
      codeAny (model prog w) A (.builtin "list.extend.loop" ⟨[.ref S, .ref I, res], []⟩) R s := by
  intro k
  induction k with
  | zero =>
    intro i s ws acc c hk hi hst hS hacc hd hR
    have hin : i = all.length := by omega
    subst hin
    refine codeAny_builtin F.entry_extend_loop ?_
    rw [Around.under_plainId F.plain_extend_loop _]
    show wpAny _ A.in1 (pyNext (.ref I) >>= _) _ _ s
    refine wpAny_bind (gen_done (A := A.in1) K hh hroom hst fun s' G => ?_)
    rw [List.take_length] at hd
    subst hacc
    exact wpAny_pure (hR s' ws c (G.mono (fun _ h => h.1) fun _ h => h) (G.keep _ _ hS hS1.1) (hd.mono G.tp))
  | succ k ih =>
    intro i s ws acc c hk hi hst hS hacc hd hR
    have hlt : i < all.length := by omega
    refine codeAny_builtin F.entry_extend_loop ?_
    rw [Around.under_plainId F.plain_extend_loop _]
    show wpAny _ A.in1 (pyNext (.ref I) >>= _) _ _ s
    refine wpAny_bind (gen_next (A := A.in1) K hh hroom hst (List.getElem?_eq_getElem hlt) fun v s' hv G hst' => ?_)
    have hS' := G.keep _ _ hS hS1.1
    show wpAny _ A.in1 (updateSeq S (·.push v) >>= _) _ _ _
    refine wpAny_bind ?_
    have hlen : ws.length = i := by rw [hd.length, List.length_take]; omega
    have hoth : ∀ b o, b ≠ S → s'.heap.get? b = some o → (s'.heap.update S (Obj.mapSeq (·.push v))).get? b = some o := fun b o hb e => (Heap.get?_update_other _ _ (Ne.symm hb)).trans e
    have htp : TP s'.heap (s'.heap.update S (Obj.mapSeq (·.push v))) := TP.of_list hS' rfl hoth
    have G2 : ∀ {P : Addr → Prop} {G : Nat → Prop}, ¬ P S → GarP P G s' { s' with heap := s'.heap.update S (Obj.mapSeq (·.push v)) } := fun hP => ⟨⟨_, s'.toks, s'.gens, rfl⟩, fun b o e p => hoth b o (fun eb => hP (eb ▸ p)) e, htp, Nat.le_refl _, fun _ _ _ => rfl, id⟩
    have hsl : (1000000 : Nat) ≤ sizeLine := by decide
    refine wpAny_updateSeq hS' rfl (wpAny_pure ⟨plainId_quiet F.plain_extend_loop _, ih (i + 1) _ (ws ++ [v]) (acc.push v) _ (by omega) hlt (hst'.rely K ⟨G2 fun h => h hS1.2, upd_ex hS' rfl⟩ rfl) (Heap.get?_update_self _ hS' rfl) ?_ ?_ fun s'' ws' c' G3 hS3 hd3 => ?_⟩)
      (by rw [hacc, List.size_toArray]; omega) (by show (acc.push v).size ≤ sizeLine + 1; rw [Array.size_push, hacc, List.size_toArray]; omega)
    · rw [hacc, List.push_toArray]
    · rw [List.take_succ_eq_append_getElem hlt]
      exact ((hd.mono G.tp).mono htp).append (.one (hv.mono htp))
    · exact hR s'' ws' c' ((G.mono (fun _ h => h.1) fun _ h => h).trans ((G2 fun h => h.2 rfl).trans G3)) hS3 hd3

theorem upd_gar {P : Addr → Prop} {G : Nat → Prop} {S : Addr} {s : Shared} {f : Obj → Obj} {o : Obj} (ho : s.heap.get? S = some o) (hc : o.cls = .type "list") (hP : ¬ P S) : GarP P G s { s with heap := s.heap.update S f } := by
  have hoth : ∀ b o, b ≠ S → s.heap.get? b = some o → (s.heap.update S f).get? b = some o := fun b o hb e => (Heap.get?_update_other _ _ (Ne.symm hb)).trans e
  exact ⟨⟨_, s.toks, s.gens, rfl⟩, fun b o e p => hoth b o (fun eb => hP (eb ▸ p)) e, TP.of_list ho hc hoth, Nat.le_refl _, fun _ _ _ => rfl, id⟩

theorem ext_gen (K : GOk hb π I g) (hh : A.handled = none) (hroom : A.depth < recursionLimit) {S : Addr} (hS1 : π.P S ∧ π.W S) (res : Value) (hn : all.length ≤ 1000000) {s : Shared} {c₀ : Nat} (hst : GenSt prog w A.in1 hb π I g all 0 s)
    (hS : s.heap.get? S = some { cls := .type "list", data := .seq #[] c₀ })
    (hR : ∀ s' ws' c', GarP (fun b => π.P b ∧ b ≠ S) (fun i => π.G i) s s' → s'.heap.get? S = some { cls := .type "list", dict := none, data := .seq ws'.toArray c', slots := #[] } → Dens s'.heap ws' all → R (.ok (.ret res)) s') :
    wpAny (model prog w) A.in1 (Builtin.List.listExtendWith (.ref S) (.ref I) res)
      (fun fin s' => match fin with | .done f => R (.ok f) s' | .again c' => c'.quiet = true ∧ codeAny (model prog w) A c' R s') (fun e s' => R (.error e) s') s := by
  have hSI : S ≠ I := fun e => K.self.2 (e ▸ hS1.2)
  have hT := hst.gen.typeIs
  unfold Builtin.List.listExtendWith
  refine wpAny_bind (wpAny_typeOf hT ?_)
  have h1 : Builtin.List.listSameRef (.ref S) (.ref I) = false := by simp [Builtin.List.listSameRef, hSI]
  have h2 : (Value.type "generator" == Value.type "list") = false := by decide
  have h3 : (Value.type "generator" == Value.type "tuple") = false := by decide
  simp only [h1, h2, h3, Bool.or_false, Bool.false_eq_true, if_false]
  refine wpAny_bind (wpAny_pyIter_gen hst.gen ?_)
  refine wpAny_bind (wpAny_holding ?_)
  unfold Builtin.List.listLengthHint
  refine wpAny_bind (wpAny_specialOf hT F.gen_no_len ?_)
  show wpAny _ A.in1 (specialOf (Value.ref I) (Str.ofString "__length_hint__") >>= _) _ _ _
  refine wpAny_bind (wpAny_specialOf hT F.gen_no_hint ?_)
  refine wpAny_pure ?_
  show wpAny _ A.in1 (rule "list.extend.makes-room" >>= fun _ => Builtin.List.listTouch (.ref S) >>= fun _ =>
    again (.builtin "list.extend.loop" ⟨[.ref S, .ref I, res], []⟩)) _ _ _
  refine wpAny_bind (wpAny_rule ?_)
  refine wpAny_bind ?_
  show wpAny _ A.in1 (updateSeq S (·.push .none) >>= fun _ => updateSeq S (·.pop)) _ _ _
  refine wpAny_bind (wpAny_updateSeq hS rfl ?_)
  have hS₂ := Heap.get?_update_self (Obj.mapSeq (·.push Value.none)) hS rfl
  refine wpAny_updateSeq (hz := by seq_fits) hS₂ rfl ?_
  have hS₃ := Heap.get?_update_self (Obj.mapSeq (·.pop)) hS₂ rfl
  have G : ∀ {P : Addr → Prop} {G : Nat → Prop}, ¬ P S → GarP P G s { s with heap := (s.heap.update S (Obj.mapSeq (·.push Value.none))).update S (Obj.mapSeq (·.pop)) } := fun hP =>
    (upd_gar hS rfl hP).trans (upd_gar (s := { s with heap := s.heap.update S (Obj.mapSeq (·.push Value.none)) }) hS₂ rfl hP)
  refine wpAny_pure ⟨plainId_quiet F.plain_extend_loop _, ext_loop K hh hroom hS1 res hn _ 0 _ [] _ _ rfl (Nat.zero_le _) (hst.rely K ⟨G fun h => h hS1.2, fun b o e => let ⟨o', e'⟩ := upd_ex hS rfl b o e; upd_ex hS₂ rfl b o' e'⟩ rfl) hS₃ rfl .nil fun s' ws' c' G3 hS' hd => ?_⟩
  exact hR s' ws' c' ((G fun h => h.2 rfl).trans G3) hS' hd

theorem list_init_g (K : GOk hb π I g) (hh : A.handled = none) (hroom : A.depth < recursionLimit) {S : Addr} (hS1 : π.P S ∧ π.W S) (hn : all.length ≤ 1000000) {s : Shared} (hst : GenSt prog w A.in1 hb π I g all 0 s)
    (hS : s.heap.get? S = some { cls := .type "list", data := .seq #[] })
    (hR : ∀ s' ws' c', GarP (fun b => π.P b ∧ b ≠ S) (fun i => π.G i) s s' → s'.heap.get? S = some { cls := .type "list", dict := none, data := .seq ws'.toArray c', slots := #[] } → Dens s'.heap ws' all → R (.ok (.ret .none)) s') :
    wpAny (model prog w) A.in1 (Builtin.«list.__init__» ⟨[.ref S, .ref I], []⟩)
      (fun fin s' => match fin with | .done f => R (.ok f) s' | .again c' => c'.quiet = true ∧ codeAny (model prog w) A c' R s') (fun e s' => R (.error e) s') s := by
  show wpAny _ A.in1 (do let old ← Builtin.List.listItems (.ref S); Builtin.List.listUpdate (.ref S) (fun _ => #[]); letGo old.toList.reverse; Builtin.List.listExtendWith (.ref S) (.ref I) .none) _ _ s
  refine wpAny_bind ?_
  unfold Builtin.List.listItems
  refine wpAny_bind (wpAny_seqItems hS rfl (wpAny_pure ?_))
  show wpAny _ A.in1 (updateSeq S (fun _ => #[]) >>= fun _ => letGo (#[] : Array Value).toList.reverse >>= fun _ => Builtin.List.listExtendWith (.ref S) (.ref I) .none) _ _ s
  refine wpAny_bind (wpAny_updateSeq hS rfl ?_)
  have hS₂ := Heap.get?_update_self (Obj.mapSeq (fun _ => (#[] : Array Value))) hS rfl
  refine wpAny_bind (wpAny_letGo ?_)
  refine ext_gen K hh hroom hS1 .none hn (hst.rely K ⟨upd_gar hS rfl fun h => h hS1.2, upd_ex hS rfl⟩ rfl) hS₂ fun s' ws' c' G hS' hd => ?_
  exact hR s' ws' c' ((upd_gar hS rfl fun h => h.2 rfl).trans G) hS' hd

theorem call_list_g {Q : Value → Shared → Prop} {Er : Value → Shared → Prop} {s : Shared} (K : GOk hb π I g) (hh : A.handled = none) (hroom : A.depth < recursionLimit) (hS1 : π.P s.heap.objs.size ∧ π.W s.heap.objs.size) (hn : all.length ≤ 1000000)
    (hst : GenSt prog w A.in1.in1 hb π I g all 0 { s with heap := s.heap.push { cls := .type "list", data := .seq #[] } })
    (hQ : ∀ s' ws', GarP (fun b => π.P b ∧ b ≠ s.heap.objs.size) (fun i => π.G i) s s' → s'.heap.PlainList s.heap.objs.size ws'.toArray → Dens s'.heap ws' all → Q (.ref s.heap.objs.size) s') :
    wpAny (model prog w) A (call (.type "list") [.ref I]) Q Er s := by
  refine callType_codes (Q₁ := fun obj s₁ => obj = .ref s.heap.objs.size ∧ s₁ = { s with heap := s.heap.push { cls := .type "list", data := .seq #[] } }) F.called_list (F.typeCall_list_1 _) F.entry_list_init
    (code_list_new _ ⟨rfl, rfl⟩) fun obj s₁ h₁ => ?_
  obtain ⟨rfl, rfl⟩ := h₁
  have hS : (s.heap.push { cls := .type "list", data := .seq #[] }).get? s.heap.objs.size = some { cls := .type "list", data := .seq #[] } := Heap.get?_push_size _ rfl
  refine ⟨⟨_, hS, rfl⟩, F.args_list_init_2 _ _, list_init_g (A := A.in1) K hh hroom hS1 hn hst hS fun s' ws' c' G hS' hd => ?_⟩
  exact ⟨rfl, hQ s' ws' ((GarP.heap fun b o e => Heap.get?_push_of_some _ e).trans G) ⟨c', hS'⟩ hd⟩
end
end Mine

namespace Mine
open PySem PySem.W PySem.Calls PyProof.Rows PySem.Spec

theorem over_loop {A : Around} {tg : Expr} {it : Value} {body b2 : List Stmt} {env env2 : Env} {k : Result → Sem PySem.Fin} {l : List Value} {p : Pos} {m : Nat} (n : Nat) (h : AOk m A) (hn : n + 1 ≤ m) :
    AOk n (A.over (.forLoop tg it body [] env) [.ret k none false l (.func b2 env2) p []]) := by
  obtain ⟨h1, h2, h3⟩ := h
  refine ⟨h1, ?_, ?_⟩
  · show A.depth + 1 + 0 + n < _
    omega
  · show A.units + 3 + 0 + 10 * n < _
    omega
theorem over_func {A : Around} {b2 : List Stmt} {env2 : Env} {m : Nat} (n : Nat) (h : AOk m A) (hn : n + 1 ≤ m) :
    AOk n (A.over (.func b2 env2) []) := by
  obtain ⟨h1, h2, h3⟩ := h
  refine ⟨h1, ?_, ?_⟩
  · show A.depth + 0 + 1 + n < _
    omega
  · show A.units + 0 + 3 + 10 * n < _
    omega

/-- the call of a generator function -/
theorem gen_make {prog : Program} {w : World} {A : Around} {s : Shared} {Q : Value → Shared → Prop} {Er : Value → Shared → Prop} {n : Str} {params : Arguments} {body : List Stmt} {scope : Scope} {pm cd doc : Value} {f : Addr} {o : Obj} {vals : List Value} {binds : List (Str × Value)}
    (hroom : A.depth < recursionLimit) (ho : s.heap.get? f = some o) (hd : o.data = .func (Calls.docDef n params body scope pm cd doc)) (hlim : s.heap.NoLimit) (hcd : s.heap.CodeRec cd n)
    (hbind : bindArgs (Calls.docDef n params body scope pm cd doc) ⟨vals, []⟩ = pure binds) (hloc : ∀ x ∈ binds, scope.names.lookup x.1 = some .local)
    (hco : scope.isCoroutine = false) (hgen : scope.isGenerator = true) (hk : scope.kind = .function) (hcell : ∀ x ∈ scope.names, x.2 ≠ .cell)
    (hQ : ∀ h' tk, h'.Ns s.heap.objs.size (fun x => binds.reverse.lookup x) → h'.IsGen (s.heap.objs.size + 1) s.gens.size → (∀ b o, s.heap.get? b = some o → h'.get? b = some o) → h'.objs.size = s.heap.objs.size + 2 →
      Q (.ref (s.heap.objs.size + 1)) { s with heap := h', toks := tk, gens := s.gens.push (.fresh (.func body (envOf n scope s.heap.objs.size f cd))) }) :
    wpAny (model prog w) A (call (.ref f) vals) Q Er s := by
  refine wpAny_call (codeAny_call_generator (body := body) hroom ho hd hco hgen rfl hcd ?_)
  rw [hbind]
  refine wpAny_pure (wpAny_newFunctionEnv hcell hloc (fun h₁ hns hsb => ⟨hlim.fresh _ hsb, ?_⟩) hk)
  have hsz : h₁.objs.size = s.heap.objs.size + 1 := by rw [hsb.1, Heap.size_push]
  have keep : ∀ b o, s.heap.get? b = some o → h₁.get? b = some o := fun b o e => hsb.extBut b o (Nat.ne_of_lt (Heap.lt_size e)) (Heap.get?_push_of_some _ e)
  show Q (.ref h₁.objs.size) _
  rw [hsz]
  refine hQ _ _ (hns.push _) ⟨_, _, _, by rw [← hsz]; exact Heap.get?_push_size _ rfl, rfl, rfl, rfl⟩ (fun b o e => Heap.get?_push_of_some _ (keep b o e)) (by rw [Heap.size_push, hsz])

section
variable {F : FC} {π : Par} {adr : Nat → Addr}

def loopA (F : FC) (A : Around) (all : List Stmt) (tg : Tg) (body : GL) (it : Value) : Around :=
  A.over (.forLoop (tg.tr F.nm) it (body.tr F.nm) [] F.env) [.ret (fun _ => .raise .none) none false [] (.func all F.env) default []]

theorem gen_seg (O : F.Ok) {cf : Cfg} (X : Ext F cf) (hw : cf.wr = []) (ft : π.Fits F adr) {A : Around} (hA : AOk 3 A) (hco : F.env.scope.isCoroutine = false) {head : SL} {tg : Tg} {iterE : Expr} {body : GL} {pos : Pos}
    (hf : ∀ x, foldedSetIterable iterE F.env x = pure x) {all : List Stmt} (hall : all = head.tr F.nm ++ [.For (tg.tr F.nm) iterE (body.tr F.nm) [] pos])
    {σ₀ σ₁ σ' : St} {k : Nat} {items outs : List AV} (hhead : head.ex cf k σ₀ = some (.next, σ₁)) (hloop : gloop cf tg body k items σ₁ = some (σ', outs)) {s : Shared} (I : Inv F σ₀ adr s.heap)
    (hIter : ∀ (A' : Around) (s₁ : Shared) (Q : Value → Shared → Prop), AOk 2 A' → GoodS F cf.wr adr adr σ₁ s s₁ →
      (∀ it s₂ T, ItOk F π adr (loopA F A all tg body it) it items T → T 0 s₂ → Inv F σ₁ adr s₂.heap → GarP π.P π.G s₁ s₂ → Q it s₂) →
      wpAny (model F.prog F.w) A' (eval iterE F.env) (fun x s' => wpAny (model F.prog F.w) A' (pyIter x) Q (fun _ _ => False) s') (fun _ _ => False) s₁) :
    Seg (model F.prog F.w) A (Rp π) (Yp π outs) outs.length s (.func all F.env) ((model F.prog F.w).den (.func all F.env)) [] s := by
  have hA2 : AOk 2 (A.over (.func all F.env) []) := over_func 2 hA (by decide)
  refine seg_func ?_
  rw [show (execs all F.env) = execs (head.tr F.nm ++ [.For (tg.tr F.nm) iterE (body.tr F.nm) [] pos]) F.env by rw [hall], execs_app_wrap]
  refine seg_plain ((ex_sound O X hA2 k).2 head _ _ _ hhead adr s _ _ I fun adr' s₁ g₁ => ?_)
  have ea := adr_eq hw g₁
  subst ea
  refine seg_execs_cons (seg_For hf (hIter _ _ _ hA2 g₁ fun it s₂ T hIt hT I₂ g₂ p => ?_))
  have key := loop_sound O X hw ft (A := A) (it := it) (tg := tg) (body := body) (all := outs) (items := items) (T := T) (post := []) (σ' := σ')
    (fs := [.ret (forK F.env (fun f => match f with | .next => (execs [] F.env).wrap (fun f => .pure (.done (.ret (match f with | .ret v => v | _ => .none)))) (fun e => (leaving F.env e).wrap (fun _ => .raise e) .raise id id) id id | f => .pure (.done (.ret (match f with | .ret v => v | _ => .none))))
      (fun e => (leaving F.env e).wrap (fun _ => .raise e) .raise id id) id id) none (id false) (id []) (.func all F.env) p []])
    (over_loop 2 hA (by decide)) rfl rfl hco hIt k ?_ items 0 σ₁ outs [] s s₂ (by simp) (Nat.zero_le _) hloop (by simp) I₂ ((g₁.gar ft hw ft.loc.1).trans g₂) hT
  · exact key
  · intro s₀' s' I' hg'
    refine seg_blockEnd ?_
    exact seg_end (.ok (.ret .none)) ⟨rfl, rfl, hg'⟩
end
end Mine

namespace Mine
open PySem PySem.W PySem.Calls PyProof.Rows PySem.Spec

section
variable {F : FC} {π : Par} {adr : Nat → Addr}

theorem gen_fresh (O : F.Ok) {cf : Cfg} (X : Ext F cf) (hw : cf.wr = []) (ft : π.Fits F adr) {A : Around} (hA : AOk 3 A.in1) (hco : F.env.scope.isCoroutine = false) {head : SL} {tg : Tg} {iterE : Expr} {body : GL} {pos : Pos}
    (hf : ∀ x, foldedSetIterable iterE F.env x = pure x) {all : List Stmt} (hall : all = head.tr F.nm ++ [.For (tg.tr F.nm) iterE (body.tr F.nm) [] pos])
    {σ₀ σ₁ σ' : St} {k : Nat} {items outs : List AV} (hhead : head.ex cf k σ₀ = some (.next, σ₁)) (hloop : gloop cf tg body k items σ₁ = some (σ', outs)) {s : Shared} (I : Inv F σ₀ adr s.heap)
    {Ia : Addr} {g : Nat} (hg : s.heap.IsGen Ia g) (hgs : s.gens[g]? = some (.fresh (.func all F.env)))
    (hIter : ∀ (s' : Shared), π.Rely s s' → ∀ (A' : Around) (s₁ : Shared) (Q : Value → Shared → Prop), AOk 2 A' → GoodS F cf.wr adr adr σ₁ (s'.setGen g .running) s₁ →
      (∀ it s₂ T, ItOk F π adr (loopA F A.in1 all tg body it) it items T → T 0 s₂ → Inv F σ₁ adr s₂.heap → GarP π.P π.G s₁ s₂ → Q it s₂) →
      wpAny (model F.prog F.w) A' (eval iterE F.env) (fun x s' => wpAny (model F.prog F.w) A' (pyIter x) Q (fun _ _ => False) s') (fun _ _ => False) s₁) :
    GenSt F.prog F.w A F.hb π Ia g outs 0 s where
  gen := hg
  base := I.base
  st := ⟨_, hgs, fun s'' r => ⟨rfl, gen_seg O X hw ft hA hco hf hall hhead hloop (s := s''.setGen g .running) (Inv.rely (s' := s'') ft I r) (hIter s'' r)⟩⟩

theorem iter_list (O : F.Ok) {cf : Cfg} (ft : π.Fits F adr) {LA : Value → Around} (hLA : ∀ it, (LA it).handled = none) {x : Nat} {p : Pos} {items : List AV} {σ₁ : St} (hx : locL σ₁.loc x = some items) {s : Shared}
    (hex : ∀ b, (π.P b ∨ π.W b ∨ F.Need adr b) → ∃ o, s.heap.get? b = some o) : ∀ (A' : Around) (s₁ : Shared) (Q : Value → Shared → Prop), AOk 2 A' → GoodS F cf.wr adr adr σ₁ s s₁ →
      (∀ it s₂ T, ItOk F π adr (LA it) it items T → T 0 s₂ → Inv F σ₁ adr s₂.heap → GarP π.P π.G s₁ s₂ → Q it s₂) →
      wpAny (model F.prog F.w) A' (eval (.Name (nmAt F.nm x) p) F.env) (fun x s' => wpAny (model F.prog F.w) A' (pyIter x) Q (fun _ _ => False) s') (fun _ _ => False) s₁ := by
  intro A' s₁ Q hA' g hQ
  obtain ⟨l, d⟩ := σ₁
  have I := g.inv
  refine load_l O I hx fun ws hp hd => ?_
  refine wpAny_pyIter_list hp.isList ?_
  have hex1 : ∀ b, (π.P b ∨ π.W b ∨ F.Need adr b) → b ≠ s₁.heap.objs.size := fun b hb => by
    obtain ⟨o, ho⟩ := hex b hb
    obtain ⟨o', ho'⟩ := g.ex b o ho
    exact lt_none ho'
  have hk : ∀ b o, s₁.heap.get? b = some o → (s₁.heap.push { cls := .type "list_iterator", data := .fields #[.ref (adr x), .int 0 0] }).get? b = some o := fun b o e => Heap.get?_push_of_some _ e
  have hla := I.apart x items (locL_some hx)
  refine hQ _ _ _ (list_it (It := s₁.heap.objs.size) (La := adr x) (ws := ws) ft (hLA _) ⟨fun e => hex1 _ (.inr (.inr (.inl rfl))) e.symm, fun h => hex1 _ (.inr (.inl h)) rfl⟩ ⟨fun e => hla.1 (.inl e), ft.adr x⟩ (fun h => hex1 _ (.inl h) rfl) fun h => hex1 _ (.inr (.inr h)) rfl)
    ⟨⟨_, Heap.get?_push_size _ rfl, rfl, rfl⟩, (let ⟨n, ho⟩ := hp; ⟨n, hk _ _ ho⟩), hd.mono (.of_keeps hk)⟩ (I.grow O hk) (GarP.heap hk)

/-- a generator as another generator's iterator -/
theorem gen_it {π₂ : Par} {A : Around} (hA : AOk 2 A) {I₂ g₂ : Nat} {items : List AV} (K : GOk F.hb π₂ I₂ g₂) (h1 : ∀ b, (π.P b ∨ F.Need adr b) → π₂.P b) (h2 : ∀ i, π.G i → π₂.G i) (h3 : ∀ b, b = F.env.locals ∨ π.W b → π₂.W b) (h4 : ∀ i, π.V i → π₂.V i) (h5 : ¬ π.V g₂) :
    ItOk F π adr A (.ref I₂) items (fun i s => GenSt F.prog F.w A F.hb π₂ I₂ g₂ items i s ∧ g₂ < s.gens.size) where
  next := fun i s d Q Er S hd hQ => gen_next K hA.1 (by have := hA.2.1; omega) S.1 hd fun v s' hv G S' => hQ v s' hv (G.mono h1 h2) ⟨S', Nat.lt_of_lt_of_le S.2 G.size⟩
  done := fun s Q Er S hQ => gen_done K hA.1 (by have := hA.2.1; omega) S.1 fun s' G => hQ s' (G.mono h1 h2)
  long := fun i s s' S r => ⟨S.1.rely K (GarE.mono r (fun b hb => ⟨fun e => hb (h3 b (.inl e)), fun e => hb (h3 b (.inr e))⟩) fun i hi hv => hi (h4 i hv)) (r.gens g₂ S.2 h5), Nat.lt_of_lt_of_le S.2 r.size⟩
  own := by
    rintro i s tg v Q Er ⟨S, _⟩ hQ
    obtain ⟨o, nm, qn, ho, hc, hd, _⟩ := S.gen
    have key : wpAny (model F.prog F.w) A (do
        let o ← load I₂
        match o.cls, o.data with
        | .type n, .fields vs =>
          if ["enumerate", "zip", "dict_itemiterator", "dict_reverseitemiterator", "odict_iterator", "itertools.zip_longest", "itertools.pairwise"].contains n && vs[0]? == some (rawInt (match v with | .ref a => a | _ => 0)) then
            rule "for.unpacks-the-owned-tuple"
            updateField I₂ 0 .none
        | _, _ => pure ()) Q Er s := by
      refine wpAny_bind (wpAny_load ho ?_)
      rw [hc, hd]
      exact wpAny_pure hQ
    cases tg with
    | Tuple es k p => cases v <;> first | exact key | exact wpAny_pure hQ
    | List es p => cases v <;> first | exact key | exact wpAny_pure hQ
    | _ => exact wpAny_pure hQ
end
end Mine

namespace Mine
open PySem PySem.W PySem.Calls PyProof.Rows PySem.Spec

section
variable {prog : Program} {w : World} {A : Around} {E : Value → Shared → Prop} {s : Shared}

def onIs : Option Str → Value → Bool
  | none, .none => true
  | some x, .str y _ => y == x
  | _, _ => false
theorem onIs_shape {k : Option Str} {v : Value} (h : onIs k v = true) : (k = none ∧ v = .none) ∨ ∃ x t, k = some x ∧ v = .str x t := by
  cases k with
  | none => cases v <;> simp_all [onIs]
  | some x => cases v <;> simp_all [onIs]

theorem pyHash_none {Q : Int → Shared → Prop} (h : Q 0xFCA86420 { s with toks := s.toks + 1 }) : wpAny (model prog w) A (pyHash .none) Q E s := by
  have hT : s.TypeIs .none "NoneType" := rfl
  unfold pyHash
  show wpAny _ _ (pyHashByItsType .none) Q E s
  unfold pyHashByItsType
  have hv : [Value.none].any Value.onHeap = false := rfl
  refine wpAny_bind ?_
  rw [cRoomFor, if_neg (by rw [hv]; exact Bool.false_ne_true)]; refine wpAny_pure ?_
  refine wpAny_bind (wpAny_specialOf hT F.slot_NoneType_hash.lookup ?_)
  show wpAny _ _ (if (some (Value.builtin "NoneType.__hash__") == some Value.none) = true then _ else _) Q E s
  rw [if_neg (by rw [beq_builtin_none]; exact Bool.false_ne_true)]
  refine wpAny_bind (wpAny_specialOf hT F.slot_NoneType_hash.lookup ?_)
  show wpAny _ _ (callSpecialIfBoundUnlessNone? .none "__hash__" _ >>= _) Q E s
  refine wpAny_bind (wpAny_callSpecialIfBoundUnlessNone?_slot hT F.slot_NoneType_hash
    (wpAny_call_entry F.slot_NoneType_hash hT F.entry_NoneType_hash
      (show wpAny _ _ (do ret (← mkInt 0xFCA86420)) _ _ s from wpAny_ret_mkInt ?_) (F.args_NoneType_hash_1 _)))
  exact wpAny_pure h

def onKind (prog : Program) (w : World) : KeyKind prog w (Option Str) where
  is := onIs
  hash := fun k => match k with | none => 0xFCA86420 | some x => hashStr w x
  inj := fun v a b ha hb => by
    rcases onIs_shape ha with ⟨rfl, rfl⟩ | ⟨x, t, rfl, rfl⟩ <;> rcases onIs_shape hb with ⟨rfl, h⟩ | ⟨y, u, rfl, h⟩
    · rfl
    · cases h
    · cases h
    · cases h; rfl
  byValue := fun k v h => by rcases onIs_shape h with ⟨rfl, rfl⟩ | ⟨x, t, rfl, rfl⟩ <;> rfl
  pyHash := fun hv h => by
    rcases onIs_shape hv with ⟨rfl, rfl⟩ | ⟨x, t, rfl, rfl⟩
    · exact pyHash_none h
    · exact wpAny_pyHash_str h
  eqBool := fun {A E s a b u v Q} hu hv h => by
    rcases onIs_shape hu with ⟨rfl, rfl⟩ | ⟨x, t, rfl, rfl⟩ <;> rcases onIs_shape hv with ⟨rfl, rfl⟩ | ⟨y, t', rfl, rfl⟩
    · unfold eqBool
      refine wpAny_holding (wpAny_ite_split (fun _ => wpAny_bind (wpAny_rule (wpAny_pure (by simpa using h)))) (fun hab => absurd rfl hab))
    · exact SeqAt.EqAt.none_str y t' prog w E _ (by simpa using h)
    · exact SeqAt.EqAt.str_none x t prog w E _ (by simpa using h)
    · exact wpAny_eqBool_str (by simpa using h)
  «strs» := fun k x t v h => by
    rcases onIs_shape h with ⟨rfl, h2⟩ | ⟨y, u, rfl, h2⟩
    · cases h2
    · injection h2 with e1 e2
      subst e1
      cases v <;> rfl

theorem set_unled {K : Type} [DecidableEq K] {knd : KeyKind prog w K} {S : K → Bool} {n : Nat} {a : Addr} {Q : Unit → Shared → Prop} (hS : s.heap.SetOf knd a S n)
    (h : ∀ h', Heap.SameBut a s.heap h' → h'.SetOf knd a S n → Q () { s with heap := h' }) : wpAny (model prog w) A (setUnled a) Q E s := by
  obtain ⟨o, es, ep, t, ho, hex, hd, hel, hmem, hb, hf, hn⟩ := hS
  have hf' : ({ t with led := false } : SetTable).fits es.size = true := by cases t; exact hf
  unfold setUnled
  refine wpAny_bind (wpAny_setState_of ho hd hf ?_)
  dsimp only
  refine wpAny_storeSet_of ho hd ?_ (fits_of_scanBound hb)
  obtain ⟨_, hS'⟩ := SetOf_store (knd := knd) ho hex hd hel hmem hb hf'
  rw [hn] at hS'
  exact h _ (Heap.SameBut.update s.heap a (Obj.putSet es { t with led := false })) hS'
theorem set_add {K : Type} [DecidableEq K] {knd : KeyKind prog w K} {S : K → Bool} {n : Nat} {a : Addr} {k : K} {key : Value} {Q : Bool → Shared → Prop} (hS : s.heap.SetOf knd a S n) (hb : n + 1 < scanBound) (hkey : knd.is k key = true) (hsc : key.scannable = true)
    (h : ∀ h', Heap.SameBut a s.heap h' → h'.SetOf knd a (fun k' => S k' || decide (k' = k)) (if S k then n else n + 1) → Q (!S k) { s with heap := h', toks := s.toks + 1 }) :
    wpAny (model prog w) A (setAdd a key) Q E s := by
  unfold setAdd
  refine wpAny_holding (wpAny_bind (knd.pyHash hkey ?_))
  exact wpAny_setAddHashed_of (s := { s with toks := s.toks + 1 }) hkey hsc hS hb h
theorem in_main {env : Env} {q : Str} {Q : Bool → Shared → Prop} (hcd : s.heap.CodeRec env.code q) (h : ∀ b, Q b s) : wpAny (model prog w) A (inMainModule env) Q E s := by
  obtain ⟨c, o, vs, t, e, ho, hd, _⟩ := hcd
  unfold inMainModule
  try dsimp only
  rw [e]
  split
  · exact wpAny_pure (h _)
  · refine wpAny_bind (wpAny_fieldsOf ho hd ?_)
    split
    · exact wpAny_bind (wpAny_askSetting (wpAny_pure (h _)))
    · exact wpAny_pure (h _)

/-- the display {'and', 'or'} behind `in` -/
theorem in_disp {env : Env} {q : Str} {a : Value} {x : Option Str} (hx : onIs x a = true) (hsc : a.scannable = true) {e : Expr} {y1 y2 : Str} (hne : y1 ≠ y2) {c1 c2 : Nat} {p1 p2 p p' : Pos} {Q : Value → Shared → Prop} (hcd : s.heap.CodeRec env.code q)
    (he : ∀ Q : Value → Shared → Prop, Q a s → wpAny (model prog w) A (eval e env) Q E s)
    (hQ : ∀ s', Stp (fun _ => False) s s' → Q (.bool (decide (x = some y1) || decide (x = some y2))) s') :
    wpAny (model prog w) A (eval (.Compare e [.In] [.Set [.Constant (.str y1) c1 p1, .Constant (.str y2) c2 p2] 0 p] p') env) Q E s := by
  refine kdi_eval (by rfl) (he _ ?_)
  rw [arm_eval_Set]
  refine wpAny_bind (wpAny_standAt (wpAny_bind (in_main hcd fun b => ?_)))
  rw [kds_star _ (by rfl), List.map_map]
  refine kds_core (ts := (evalEach [.Constant (.str y1) c1 p1, .Constant (.str y2) c2 p2] env).map fun t => do let v ← t; standAt p; pure v) (by rfl) ?_ ?_ ?_ fun led => ?_
  · refine List.findIdx?_eq_none_iff.mpr fun x hx => ?_
    obtain ⟨t, _, rfl⟩ := List.mem_map.mp hx
    rfl
  · rw [List.length_map, kds_len]; exact (by decide : 2 ≤ 30)
  · rw [List.map_map]; rfl
  · refine kds_all p _ _ _ (Calls.Constant_str (Calls.Constant_str (kds_fill_cons ?_)))
    have h0 : (s.heap.push { cls := .type "set", dict := none, data := .set #[] 0 (.fresh 0 0 led) }).SetOf (onKind prog w) s.heap.objs.size (fun _ => false) 0 :=
      (setObjOf_fresh (knd := onKind prog w) led).setOf (Heap.get?_push_size _ rfl) (by decide)
    have hk0 : ∀ b o, s.heap.get? b = some o → (s.heap.push { cls := .type "set", dict := none, data := .set #[] 0 (.fresh 0 0 led) }).get? b = some o := fun b o e => Heap.get?_push_of_some _ e
    refine set_add (knd := onKind prog w) (k := some y1) h0 (by decide) (by simp [onKind, onIs]) rfl fun h1 s1 S1 => kds_fill_cons ?_
    refine set_add (knd := onKind prog w) (k := some y2) S1 (by decide) (by simp [onKind, onIs]) rfl fun h2 s2 S2 => kds_fill_nil (by rfl) (kdi_mark ?_)
    refine set_unled S2 fun h3 s3 S3 => ?_
    refine wpAny_inSet_of (knd := onKind prog w) (k := x) hx hsc S3 ?_
    have hk : ∀ b o, s.heap.get? b = some o → h3.get? b = some o := fun b o e => by
      have hne : b ≠ s.heap.objs.size := lt_none e
      exact (s3.2 b hne).trans ((s2.2 b hne).trans ((s1.2 b hne).trans (hk0 b o e)))
    have := hQ { s with heap := h3, toks := s.toks + 1 + 1 + 1 + 1 + 1 } ⟨_, _, rfl, fun b o e _ => hk b o e⟩
    simpa using this
end
end Mine

namespace Mine
open PySem PySem.W PySem.Calls PyProof.Rows PySem.Spec

section
variable {prog : Program} {w : World} {hb : Heap} {mg mb : Str → Option Value}


theorem isb_walk {ib_q0 ib_q1 ib_q2 ib_q3 ib_q4 ib_q5 ib_q6 ib_q7 ib_q8 ib_q9 ib_q10 ib_q11 ib_q12 ib_q13 ib_q14 : Pos} {ib_c0 ib_c1 : Nat} (W : WF prog w hb mg mb) {A : Around} {s : Shared} {env : Env} {a b : Value} {u v : AV} {r : Bool} {q : Str} {Q : Flow → Shared → Prop} {Er : Value → Shared → Prop} {mm : Str → Option Value}
    (hk : env.scope.kind = .function) (hgl : env.globals = mainGlobals) (kt : env.kindOf "token_type" = some .local) (kx : env.kindOf "text" = some .local) (ko : env.kindOf "tokenize" = some .globalImplicit) (ky : env.kindOf "_SYMBOLIC_OPS" = some .globalImplicit)
    (hcd : s.heap.CodeRec env.code q) (hn : s.heap.Ns env.locals mm) (hbk : ∀ b o, hb.get? b = some o → s.heap.get? b = some o) (ht : mm "token_type" = some a) (hx : mm "text" = some b)
    (hu : Den s.heap a u) (hv : Den s.heap b v) (hr : isBin u v = some r) (hQ : ∀ s', Stp (fun _ => False) s s' → Q (.ret (.bool r)) s') :
    wpAny (model prog w) A (execs ([.Return (some (.BoolOp .And [.BoolOp .Or [.Compare (.Name "token_type" ib_q0) [.Eq] [.Attribute (.Name "tokenize" ib_q1) "OP" ib_q2] ib_q3, .Compare (.Name "text" ib_q4) [.In] [.Set [.Constant (.str "and") ib_c0 ib_q5, .Constant (.str "or") ib_c1 ib_q6] 0 ib_q7] ib_q8] ib_q9, .Compare (.Name "text" ib_q10) [.NotIn] [.Name "_SYMBOLIC_OPS" ib_q11] ib_q12] ib_q13)) ib_q14]) env) Q Er s := by
  have d1 : (("token_type" : Str) == ("__debug__" : Str)) = false := by decide +kernel
  have d2 : (("text" : Str) == ("__debug__" : Str)) = false := by decide +kernel
  have d3 : (("_SYMBOLIC_OPS" : Str) == ("__debug__" : Str)) = false := by decide +kernel
  have ne : ("and" : Str) ≠ ("or" : Str) := by decide +kernel
  refine wpAny_execs_cons (wpAny_Return_some (BoolOp_and (BoolOp_or (wpAny_Compare1 (ldn hn ht (W.tok 1 A s _ _ env _ _ hk hgl ko hbk fun t tk => ?_) hk kt d1)))))
  unfold isBin at hr
  split at hr
  · rename_i k x
    cases hu; cases hv
    rename_i tu tv
    injection hr with hr
    obtain ⟨ya, ys, hy1, hy2, hy3⟩ := W.sym
    have last : ∀ s', Stp (fun _ => False) s s' → (k == 54 || x == ("and" : Str) || x == ("or" : Str)) = true → ∀ p1 p2 p3 p4, wpAny (model prog w) A (eval (.BoolOp .And [.Compare (.Name "text" p1) [.NotIn] [.Name "_SYMBOLIC_OPS" p2] p3] p4) env) (fun v => Q (.ret v)) Er s' := by
      intro s' st hc p1 p2 p3 p4
      have hk' := st.keep
      refine BoolOp_one (wpAny_Compare1 (ldn (hn.keeps fun b o e => hk' b o e id) hx (ld_glob W.g hy1 (fun b o e => hk' b o (hbk b o e) id) hk hgl ky d3 ?_) hk kx d2))
      refine notin_tuple_strs (hy2.keeps fun b o e => hk' b o (hbk b o e) id) (by simpa using hy3) ?_
      have := hQ s' st
      rw [← hr, hc, Bool.true_and] at this
      exact this
    refine PySem.P.eq_int (wpAny_truthy_bool ?_)
    cases h1 : (k == (54 : Int)) with
    | true =>
      rw [show (k == tokNum 1) = true from h1]
      refine wpAny_truthy_bool ?_
      exact last _ (.toks _ _) (by rw [h1]; rfl) _ _ _ _
    | false =>
      rw [show (k == tokNum 1) = false from h1, if_neg Bool.false_ne_true]
      refine BoolOp_one (in_disp (q := q) (x := some x) (by simp [onIs]) rfl ne hcd (fun Q hq => ldn hn hx hq hk kx d2) fun s' st => wpAny_truthy_bool ?_)
      have e : (decide (some x = some ("and" : Str)) || decide (some x = some ("or" : Str))) = (x == ("and" : Str) || x == ("or" : Str)) := by
        have : ∀ y : Str, decide (some x = some y) = (x == y) := fun y => by
          by_cases h : x = y
          · subst h; simp
          · simp [h]
        rw [this, this]
      rw [e]
      have st' : Stp (fun _ => False) s s' := (Stp.toks s tk).trans st
      cases h2 : (x == ("and" : Str) || x == ("or" : Str)) with
      | true =>
        rw [if_pos rfl]
        exact last _ st' (by rw [h1, Bool.false_or]; exact h2) _ _ _ _
      | false =>
        rw [if_neg Bool.false_ne_true]
        have := hQ s' st'
        rw [← hr, h1, Bool.false_or, h2, Bool.false_and] at this
        exact this
  · cases hu; cases hv
    injection hr with hr
    refine EqNone.eq_none_int (wpAny_truthy_bool ?_)
    rw [if_neg Bool.false_ne_true]
    refine BoolOp_one (in_disp (q := q) (x := none) (by simp [onIs]) rfl ne hcd (fun Q hq => ldn hn hx hq hk kx d2) fun s' st => wpAny_truthy_bool ?_)
    have := hQ s' ((Stp.toks s tk).trans st)
    rw [← hr] at this
    simpa using this
  · cases hr

theorem isb_ok (W : WF prog w hb mg mb) : ∃ f o fd, mg "_is_binary_operator" = some (.ref f) ∧ hb.get? f = some o ∧ o.data = .func fd ∧ IsbOk prog w hb f := by
  obtain ⟨f, o, pm, cd, doc, hf, ho, hd, hcd⟩ := W.fnBin
  refine ⟨f, o, _, hf, ho, hd, ?_⟩
  intro A s a b u v r Q E hA hbk hu hv hr hQ
  refine wpAny_call ?_
  refine call_pos_ret (by have := hA.2.1; omega) (hbk _ _ ho) hd (W.lim.keeps hbk) (hcd.keeps hbk) (by rfl) (locs (by rfl)) (fun h₁ F => ?_) (by rfl) (by rfl) (by rfl) (by decide +kernel)
  have kd : ∀ {x : Str} {k : NameKind}, ((defOf "_is_binary_operator").2.2.names.lookup x == some k) = true → (envOf "_is_binary_operator" (defOf "_is_binary_operator").2.2 s.heap.objs.size f cd).kindOf x = some k := fun h => kind_of h
  refine isb_walk W (q := "_is_binary_operator") (u := u) (v := v) (r := r) (by rfl) rfl (kd (by decide +kernel)) (kd (by decide +kernel)) (kd (by decide +kernel)) (kd (by decide +kernel)) ((hcd.keeps hbk).keeps F.keep) F.ns (fun b o e => F.keep b o (hbk b o e)) (by rfl) (by rfl) (hu.mono (.of_keeps F.keep)) (hv.mono (.of_keeps F.keep)) hr ?_
  intro s' hs'
  obtain ⟨h', tk', rfl, hk'⟩ := hs'
  exact hQ _ ⟨h', tk', rfl, fun b o e hw => hk' b o (F.keep b o e) hw⟩
end
end Mine

namespace Mine
open PySem PySem.W PySem.Calls PyProof.Rows PySem.Spec

theorem in1_ok {n m : Nat} {A : Around} (h : AOk m A) (hn : n + 1 ≤ m) : AOk n A.in1 := by
  obtain ⟨h1, h2, h3⟩ := h
  refine ⟨h1, ?_, ?_⟩
  · show A.depth + n < _
    omega
  · show A.units + 1 + 10 * n < _
    omega
theorem deeper_ok {n m : Nat} {A : Around} {e : Env} (h : AOk m A) (hn : n + 1 ≤ m) : AOk n (A.deeper e) := by
  obtain ⟨h1, h2, h3⟩ := h
  refine ⟨h1, ?_, ?_⟩
  · show A.depth + 1 + n < _
    omega
  · show A.units + 3 + 10 * n < _
    omega

section
variable {prog : Program} {w : World} {hb : Heap} {mg mb : Str → Option Value}

def genF (prog : Program) (w : World) (hb : Heap) (n : Str) (sc : Scope) (L f : Addr) (cd : Value) (nm : List Str) : FC := { prog := prog, w := w, env := envOf n sc L f cd, hb := hb, nm := nm, st := none, cell := none }

theorem genF_ok {n : Str} {sc : Scope} {L f : Addr} {cd : Value} {nm : List Str} (hk : sc.kind = .function) (h1 : (nm.all fun x => sc.names.lookup x == some NameKind.local) = true) (h2 : nm.Nodup) (h3 : (nm.all fun x => !(x == ("__debug__" : Str))) = true)
    (hL : hb.get? L = none) (hlim : hb.NoLimit) : (genF prog w hb n sc L f cd nm).Ok where
  kind := hk
  glob := rfl
  blt := rfl
  len := h2
  loc := fun x y e _ => by
    have := List.all_eq_true.mp h1 y (List.mem_of_getElem? e)
    exact eq_of_beq this
  cell := fun x c e => by cases e
  dbg := fun x hx => by have := List.all_eq_true.mp h3 x hx; simpa using this
  notL := fun x c e => by cases e
  stL := fun t e => by cases e
  fresh := ⟨hL, (fun x c e => by cases e), (fun t e => by cases e)⟩
  lim := hlim

def genCf (k : Nat) (b1 b2 b3 : Bool) : Cfg := { n := k, cell := none, wr := [], len := b1, next := none, tok := b2, isb := b3 }

def kindIs (sc : Scope) (x : Str) : Bool := sc.names.lookup x == some NameKind.globalImplicit
theorem ext_of (W : WF prog w hb mg mb) {n : Str} {sc : Scope} {L f : Addr} {cd : Value} {nm : List Str} {k : Nat} {b1 b2 b3 : Bool} (hk : sc.kind = .function) (hn : k = nm.length) (h1 : b1 = true → kindIs sc "len" = true)
    (h2 : b2 = true → kindIs sc "tokenize" = true) (h3 : b3 = true → kindIs sc "_is_binary_operator" = true) : Ext (genF prog w hb n sc L f cd nm) (genCf k b1 b2 b3) where
  n := hn
  cell := rfl
  len := fun h A s Q E pos hbk hQ => ld_blt W.g W.b W.len hbk hk rfl rfl (eq_of_beq (h1 h)) (by decide +kernel) hQ
  next := fun xs h => by cases h
  isb := fun h => by
    obtain ⟨f', o, fd, a1, a2, a3, a4⟩ := isb_ok W
    exact ⟨f', o, fd, fun A s Q E pos hbk hQ => ld_glob W.g a1 hbk hk rfl (eq_of_beq (h3 h)) (by decide +kernel) hQ, a2, a3, a4⟩
  tok := fun h k A s Q E np p hbk hQ => W.tok k A s Q E _ np p hk rfl (eq_of_beq (h2 h)) hbk hQ

/-- what an iteration's expression must give -/
def IterP (F : FC) (cf : Cfg) (π : Par) (adr : Nat → Addr) (LA : Value → Around) (iterE : Expr) (items : List AV) (σ₁ : St) : Prop :=
  ∀ s' : Shared, (∀ b, (π.P b ∨ π.W b ∨ F.Need adr b) → ∃ o, s'.heap.get? b = some o) → (∀ i, π.V i ∨ π.G i → i < s'.gens.size) → ∀ (A' : Around) (s₁ : Shared) (Q : Value → Shared → Prop), AOk 2 A' → GoodS F cf.wr adr adr σ₁ s' s₁ →
    (∀ it s₂ T, ItOk F π adr (LA it) it items T → T 0 s₂ → Inv F σ₁ adr s₂.heap → GarP π.P π.G s₁ s₂ → Q it s₂) →
    wpAny (model F.prog F.w) A' (eval iterE F.env) (fun x s' => wpAny (model F.prog F.w) A' (pyIter x) Q (fun _ _ => False) s') (fun _ _ => False) s₁

def topPar (s : Shared) : Par where
  P := fun b => (∃ o, s.heap.get? b = some o) ∨ b = s.heap.objs.size + 1 ∨ b = s.heap.objs.size + 2
  W := fun b => b = s.heap.objs.size + 2
  G := fun i => i < s.gens.size
  V := fun i => i = s.gens.size

def sig0 (items : List AV) (k : Nat) : St := ⟨.v (.str "") :: .l items :: List.replicate k .u, (0, 0)⟩

theorem list_gen (W : WF prog w hb mg mb) (n : Str) {f : Addr} {o : Obj} {pm cd doc : Value} (ho : hb.get? f = some o) (hd : o.data = .func (docDef n (defOf n).1 (defOf n).2.1 (defOf n).2.2 pm cd doc)) (hcd : hb.CodeRec cd n)
    {nmr : List Str} {head : SL} {tg : Tg} {iterE : Expr} {body : GL} {pos : Pos} {b1 b2 b3 : Bool}
    (hbd : (defOf n).2.1 = head.tr ("logical_line" :: "tokens" :: nmr) ++ [.For (tg.tr ("logical_line" :: "tokens" :: nmr)) iterE (body.tr ("logical_line" :: "tokens" :: nmr)) [] pos])
    (hk : (defOf n).2.2.kind = .function) (hco : (defOf n).2.2.isCoroutine = false) (hgen : (defOf n).2.2.isGenerator = true) (hcell : ∀ x ∈ (defOf n).2.2.names, x.2 ≠ .cell)
    (h1 : ((("logical_line" : Str) :: "tokens" :: nmr).all fun x => (defOf n).2.2.names.lookup x == some NameKind.local) = true) (h2 : (("logical_line" : Str) :: "tokens" :: nmr).Nodup) (h3 : ((("logical_line" : Str) :: "tokens" :: nmr).all fun x => !(x == ("__debug__" : Str))) = true)
    (e1 : b1 = true → kindIs (defOf n).2.2 "len" = true) (e2 : b2 = true → kindIs (defOf n).2.2 "tokenize" = true) (e3 : b3 = true → kindIs (defOf n).2.2 "_is_binary_operator" = true)
    (hbind : ∀ a b : Value, bindArgs (docDef n (defOf n).1 (defOf n).2.1 (defOf n).2.2 pm cd doc) ⟨[a, b], []⟩ = pure [(("logical_line" : Str), a), ("tokens", b)])
    (hf : ∀ (env : Env) x, foldedSetIterable iterE env x = pure x)
    {A : Around} {s : Shared} {tok : Addr} {ws : List Value} {items items' outs : List AV} {u : Tok} {k : Nat} {σ₁ σ' : St} (hA : AOk 8 A) (hbk : ∀ b o, hb.get? b = some o → s.heap.get? b = some o) (hl : s.heap.PlainList tok ws.toArray) (hden : Dens s.heap ws items) (hbt : hb.get? tok = none)
    (hhead : head.ex (genCf (nmr.length + 2) b1 b2 b3) k (sig0 items nmr.length) = some (.next, σ₁)) (hloop : gloop (genCf (nmr.length + 2) b1 b2 b3) tg body k items' σ₁ = some (σ', outs)) (hn : outs.length ≤ 1000000)
    (hIter : ∀ L π LA, π.Fits (genF prog w hb n (defOf n).2.2 L f cd ("logical_line" :: "tokens" :: nmr)) (fun _ => tok) → (∀ it, AOk 4 (LA it)) → (genF prog w hb n (defOf n).2.2 L f cd ("logical_line" :: "tokens" :: nmr)).Ok →
      IterP (genF prog w hb n (defOf n).2.2 L f cd ("logical_line" :: "tokens" :: nmr)) (genCf (nmr.length + 2) b1 b2 b3) π (fun _ => tok) LA iterE items' σ₁)
    {Q : Value → Shared → Prop} {Er : Value → Shared → Prop}
    (hQ : ∀ S s' ws', GarP (fun b => ∃ o, s.heap.get? b = some o) (fun i => i < s.gens.size) s s' → s.heap.get? S = none → s'.heap.PlainList S ws'.toArray → Dens s'.heap ws' outs → Q (.ref S) s') :
    wpAny (model prog w) A (call (.ref f) [.str "" u, .ref tok]) (fun v s₁ => wpAny (model prog w) A (call (.type "list") [v]) Q Er s₁) Er s := by
  have hLo : hb.get? s.heap.objs.size = none := by
    cases q : hb.get? s.heap.objs.size with
    | none => rfl
    | some o => exact absurd rfl (lt_none (hbk _ _ q))
  have hloc : ∀ x ∈ [(("logical_line" : Str), Value.str "" u), ("tokens", .ref tok)], (defOf n).2.2.names.lookup x.1 = some .local := by
    intro x hx
    rcases List.mem_cons.mp hx with rfl | hx
    · exact eq_of_beq (List.all_eq_true.mp h1 _ (.head _))
    · rcases List.mem_cons.mp hx with rfl | hx
      · exact eq_of_beq (List.all_eq_true.mp h1 _ (.tail _ (.head _)))
      · cases hx
  refine gen_make (by have := hA.2.1; omega) (hbk _ _ ho) hd (W.lim.keeps hbk) (hcd.keeps hbk) (hbind _ _) hloc hco hgen hk hcell fun h' tk hns hig hkp hsz => ?_
  generalize hs1 : ({ s with heap := h', toks := tk, gens := s.gens.push (.fresh (.func (defOf n).2.1 (envOf n (defOf n).2.2 s.heap.objs.size f cd))) } : Shared) = s1
  have O := genF_ok (prog := prog) (w := w) (n := n) (f := f) (cd := cd) hk h1 h2 h3 hLo W.lim
  have X := ext_of W (n := n) (L := s.heap.objs.size) (f := f) (cd := cd) (nm := "logical_line" :: "tokens" :: nmr) (k := nmr.length + 2) hk rfl e1 e2 e3
  have hs1h : s1.heap = h' := by rw [← hs1]
  have hs1g : s1.gens = s.gens.push (.fresh (.func (defOf n).2.1 (envOf n (defOf n).2.2 s.heap.objs.size f cd))) := by rw [← hs1]
  have htok : ∃ o, s.heap.get? tok = some o := let ⟨n, ho⟩ := hl; ⟨_, ho⟩
  have hS : s1.heap.objs.size = s.heap.objs.size + 2 := by rw [hs1h, hsz]
  have lt : ∀ {b}, (∃ o, s.heap.get? b = some o) → b < s.heap.objs.size := fun ⟨_, e⟩ => Heap.lt_size e
  have ne2 : ∀ {b : Addr}, (∃ o, s.heap.get? b = some o) → ¬ b = s.heap.objs.size + 2 := fun h e => absurd (lt h) (by rw [e]; exact Nat.not_lt.mpr (Nat.le_add_right _ _))
  have ft : (topPar s).Fits (genF prog w hb n (defOf n).2.2 s.heap.objs.size f cd ("logical_line" :: "tokens" :: nmr)) (fun _ => tok) := by
    refine ⟨rfl, rfl, ⟨?_, ?_⟩, fun _ => ?_, fun b o e => ?_⟩
    · show ¬ ((∃ o, s.heap.get? s.heap.objs.size = some o) ∨ s.heap.objs.size = s.heap.objs.size + 1 ∨ s.heap.objs.size = s.heap.objs.size + 2)
      rintro (h | h | h)
      · exact Nat.lt_irrefl _ (lt h)
      · omega
      · omega
    · show ¬ s.heap.objs.size = s.heap.objs.size + 2
      omega
    · show ¬ tok = s.heap.objs.size + 2
      exact ne2 htok
    · show ¬ b = s.heap.objs.size + 2
      exact ne2 ⟨_, hbk b o e⟩
  have K : GOk hb (topPar s) (s.heap.objs.size + 1) s.gens.size := by
    refine ⟨⟨.inr (.inl rfl), ?_⟩, fun b o e => ⟨.inl ⟨o, hbk b o e⟩, ?_⟩, ⟨rfl, ?_⟩, W.lim⟩
    · show ¬ s.heap.objs.size + 1 = s.heap.objs.size + 2
      omega
    · show ¬ b = s.heap.objs.size + 2
      exact ne2 ⟨_, hbk b o e⟩
    · show ¬ s.gens.size < s.gens.size
      omega
  have I0 : Inv (genF prog w hb n (defOf n).2.2 s.heap.objs.size f cd ("logical_line" :: "tokens" :: nmr)) (sig0 items nmr.length) (fun _ => tok) h' := by
    refine ⟨fun b o e => hkp b o (hbk b o e), ⟨_, hns, ?_⟩, (fun x c e => by cases e), ?_, (fun t e => by cases e)⟩
    · intro x sl e
      match x with
      | 0 => cases e; exact ⟨_, ⟨_, rfl, rfl⟩, .str _ _⟩
      | 1 => cases e; exact ⟨⟨_, rfl, rfl⟩, ws, (let ⟨n, ho⟩ := hl; ⟨n, hkp _ _ ho⟩), hden.mono (.of_keeps hkp)⟩
      | x + 2 =>
        have : sl = .u := List.eq_of_mem_replicate (List.mem_of_getElem? (show (List.replicate nmr.length Slot.u)[x]? = some sl from e))
        subst this
        trivial
    · intro x vs e
      have h1' : ∀ x vs, (sig0 items nmr.length).loc[x]? = some (.l vs) → x = 1 := by
        intro x vs e
        match x with
        | 0 => cases e
        | 1 => rfl
        | x + 2 =>
          have : Slot.l vs = .u := List.eq_of_mem_replicate (List.mem_of_getElem? (show (List.replicate nmr.length Slot.u)[x]? = some (.l vs) from e))
          cases this
      refine ⟨?_, hbt, fun y ws e' _ => (h1' x vs e).trans (h1' y ws e').symm⟩
      rintro (h | ⟨_, h⟩ | ⟨_, h, _⟩)
      · have h : tok = s.heap.objs.size := h
        exact absurd (lt htok) (by rw [h]; exact Nat.lt_irrefl _)
      · cases h
      · cases h
  refine call_list_g (A := A) (hb := hb) (π := topPar s) (g := s.gens.size) (all := outs) K hA.1 (by have := hA.2.1; omega) (by rw [hS]; exact ⟨.inr (.inr rfl), rfl⟩) hn ?_ ?_
  · have hkS : ∀ b o, s1.heap.get? b = some o → (s1.heap.push { cls := .type "list", data := .seq #[] }).get? b = some o := fun b o e => Heap.get?_push_of_some _ e
    refine gen_fresh (F := genF prog w hb n (defOf n).2.2 s.heap.objs.size f cd ("logical_line" :: "tokens" :: nmr)) (adr := fun _ => tok) (A := A.in1.in1) O X rfl ft (in1_ok (in1_ok (in1_ok hA (Nat.le_refl _)) (Nat.le_refl _)) (by decide : 3 + 1 ≤ 6)) hco (fun x => hf _ x) hbd hhead hloop (I0.grow O fun b o e => by
      rw [← hs1h] at e; exact hkS b o e) ?_ (by rw [hs1g]; exact Array.getElem?_push_size) ?_
    · have hig' : s1.heap.IsGen (s.heap.objs.size + 1) s.gens.size := by rw [hs1h]; exact hig
      exact hig'.push _
    · intro s' hr A' s₁ Q hA' g hQ
      have hex : ∀ b, ((topPar s).P b ∨ (topPar s).W b ∨ FC.Need (genF prog w hb n (defOf n).2.2 s.heap.objs.size f cd ("logical_line" :: "tokens" :: nmr)) (fun _ => tok) b) → ∃ o, (s'.setGen s.gens.size .running).heap.get? b = some o := by
        have hold : ∀ b, (∃ o, s.heap.get? b = some o) → ∃ o, s'.heap.get? b = some o := fun b ⟨o, e⟩ => hr.ex b o (hkS _ _ (by rw [hs1h]; exact hkp _ _ e))
        have hLx : ∃ o, s'.heap.get? s.heap.objs.size = some o := by
          obtain ⟨oL, _, _, hoL, _⟩ := hns
          exact hr.ex _ _ (hkS _ _ (by rw [hs1h]; exact hoL))
        rintro b ((h | h | h) | h | h | ⟨x, h⟩ | ⟨o, h⟩)
        · exact hold b h
        · obtain ⟨o, _, _, ho, _⟩ := hig
          rw [h]
          exact hr.ex _ _ (hkS _ _ (by rw [hs1h]; exact ho))
        · rw [h, ← hS]
          exact hr.ex _ _ (Heap.get?_push_size _ rfl)
        · have h : b = s.heap.objs.size + 2 := h
          rw [h, ← hS]
          exact hr.ex _ _ (Heap.get?_push_size _ rfl)
        · have h : b = s.heap.objs.size := h
          rw [h]; exact hLx
        · rw [h]; exact hold tok htok
        · exact hold b ⟨_, hbk b o h⟩
      refine hIter _ _ _ ft (fun it => ?_) O _ hex ?_ A' s₁ Q hA' g hQ
      · exact over_loop 4 (in1_ok (n := 5) (in1_ok (n := 6) (in1_ok (n := 7) hA (by decide)) (by decide)) (by decide)) (by decide)
      · rintro i (h | h)
        · have h : i = s.gens.size := h
          have := hr.size
          rw [setGen_size]
          have h2 : s1.gens.size = s.gens.size + 1 := by rw [hs1g, Array.size_push]
          have h3 : s1.gens.size ≤ s'.gens.size := this
          omega
        · have h : i < s.gens.size := h
          have := hr.size
          rw [setGen_size]
          have h2 : s1.gens.size = s.gens.size + 1 := by rw [hs1g, Array.size_push]
          have h3 : s1.gens.size ≤ s'.gens.size := this
          omega
  · intro s' ws' G hp hdn
    refine hQ _ s' ws' (GarP.trans ?_ (G.mono (fun b hb => ⟨.inl hb, ?_⟩) fun i hi => hi)) ?_ hp hdn
    · rw [← hs1]
      refine ⟨⟨_, _, _, rfl⟩, fun b o e _ => hkp b o e, .of_keeps hkp, ?_, fun i hi _ => ?_, fun z => z.push rfl⟩
      · show s.gens.size ≤ (s.gens.push _).size
        rw [Array.size_push]; omega
      · show (s.gens.push _)[i]? = _
        rw [Array.getElem?_push, if_neg (by omega)]
    · rw [hS]; exact ne2 hb
    · rw [hS]
      cases q : s.heap.get? (s.heap.objs.size + 2) with
      | none => rfl
      | some o => exact absurd (Heap.lt_size q) (Nat.not_lt.mpr (Nat.le_add_right _ _))
end
end Mine

namespace Mine
open PySem PySem.W PySem.Calls PyProof.Rows PySem.Spec

/- the generators' bodies as mini statements, printed by Tool2 -/
def headE : SL := (.cons (.asg3 2 3 4 ⟨15, 4, 15, 14⟩ ⟨15, 17, 15, 25⟩ ⟨15, 28, 15, 34⟩ (.int 0 0 ⟨15, 37, 15, 38⟩) ⟨15, 4, 15, 38⟩)
  (.cons (.asg 5 ⟨16, 4, 16, 11⟩ (.bool false 0 ⟨16, 14, 16, 19⟩) ⟨16, 4, 16, 19⟩)
  (.cons (.asg 6 ⟨17, 4, 17, 13⟩ (.non 0 ⟨17, 16, 17, 20⟩) ⟨17, 4, 17, 20⟩)
  .nil)))
def headB : SL := (.cons (.asg 1 ⟨42, 4, 42, 14⟩ (.bool false 0 ⟨42, 17, 42, 22⟩) ⟨42, 4, 42, 22⟩)
  (.cons (.asg 2 ⟨43, 4, 43, 17⟩ (.bool true 0 ⟨43, 20, 43, 24⟩) ⟨43, 4, 43, 24⟩)
  (.cons (.asg 3 ⟨44, 4, 44, 23⟩ (.non 0 ⟨44, 26, 44, 30⟩) ⟨44, 4, 44, 30⟩)
  (.cons (.asg 4 ⟨45, 4, 45, 17⟩ (.non 0 ⟨45, 20, 45, 24⟩) ⟨45, 4, 45, 24⟩)
  .nil))))
def headA : SL := (.cons (.asg 2 ⟨63, 4, 63, 14⟩ (.non 0 ⟨63, 17, 63, 21⟩) ⟨63, 4, 63, 21⟩)
  .nil)
def tgE : Tg := (.many [(7, ⟨18, 8, 18, 18⟩), (8, ⟨18, 20, 18, 24⟩), (9, ⟨18, 26, 18, 31⟩), (10, ⟨18, 33, 18, 36⟩), (11, ⟨18, 38, 18, 42⟩)] 0 ⟨18, 8, 18, 42⟩)
def posE : Pos := ⟨18, 4, 37, 27⟩
def bodyE : GL := (.cons (.s (.ifs (.e (.cmp .Eq (.name 7 ⟨19, 11, 19, 21⟩) (.tok 0 ⟨19, 25, 19, 33⟩ ⟨19, 25, 19, 41⟩) ⟨19, 11, 19, 41⟩)) (.cons (.asg 5 ⟨20, 12, 20, 19⟩ (.bool true 0 ⟨20, 22, 20, 26⟩) ⟨20, 12, 20, 26⟩)
  .nil) .nil ⟨19, 8, 20, 26⟩))
  (.cons (.ifs (.and (.cons (.e (.cmp .NotEq (.get (.name 9 ⟨21, 11, 21, 16⟩) (.int 0 0 ⟨21, 17, 21, 18⟩) ⟨21, 11, 21, 19⟩) (.name 2 ⟨21, 23, 21, 33⟩) ⟨21, 11, 21, 33⟩)) (.cons (.e (.name 4 ⟨21, 38, 21, 44⟩)) (.cons (.e (.name 6 ⟨21, 49, 21, 58⟩)) (.cons (.not (.e (.name 5 ⟨21, 68, 21, 75⟩)) ⟨21, 64, 21, 75⟩) .nil)))) ⟨21, 11, 21, 76⟩) (.cons (.y (.tup (.cons (.name 6 ⟨22, 19, 22, 28⟩) (.cons (.str ("E502 the backslash is redundant between brackets" : Str) 0 ⟨22, 30, 22, 80⟩) .nil)) 0 ⟨22, 18, 22, 81⟩) ⟨22, 12, 22, 81⟩ ⟨22, 12, 22, 81⟩)
  .nil) .nil ⟨21, 8, 22, 81⟩)
  (.cons (.s (.ifs (.e (.cmp .NotEq (.get (.name 9 ⟨23, 11, 23, 16⟩) (.int 0 0 ⟨23, 17, 23, 18⟩) ⟨23, 11, 23, 19⟩) (.name 2 ⟨23, 23, 23, 33⟩) ⟨23, 11, 23, 33⟩)) (.cons (.asg 5 ⟨24, 12, 24, 19⟩ (.bool false 0 ⟨24, 22, 24, 27⟩) ⟨24, 12, 24, 27⟩)
  .nil) .nil ⟨23, 8, 24, 27⟩))
  (.cons (.s (.ifs (.e (.cmp .NotEq (.get (.name 10 ⟨25, 11, 25, 14⟩) (.int 0 0 ⟨25, 15, 25, 16⟩) ⟨25, 11, 25, 17⟩) (.name 3 ⟨25, 21, 25, 29⟩) ⟨25, 11, 25, 29⟩)) (.cons (.ifs (.e (.ew (.rsc (.name 11 ⟨26, 15, 26, 19⟩) ("\x0d\n" : Str) 0 ⟨26, 27, 26, 33⟩ ⟨26, 15, 26, 26⟩ ⟨26, 15, 26, 34⟩) ("\\" : Str) 0 ⟨26, 44, 26, 48⟩ ⟨26, 15, 26, 43⟩ ⟨26, 15, 26, 49⟩)) (.cons (.asg 6 ⟨27, 16, 27, 25⟩ (.tup (.cons (.get (.name 10 ⟨27, 29, 27, 32⟩) (.int 0 0 ⟨27, 33, 27, 34⟩) ⟨27, 29, 27, 35⟩) (.cons (.bin .Sub (.len (.spl (.name 11 ⟨27, 41, 27, 45⟩) 0 ⟨27, 60, 27, 61⟩ ⟨27, 59, 27, 61⟩ ⟨27, 41, 27, 56⟩ ⟨27, 41, 27, 58⟩ ⟨27, 41, 27, 62⟩) ⟨27, 37, 27, 40⟩ ⟨27, 37, 27, 63⟩) (.int 1 0 ⟨27, 66, 27, 67⟩) ⟨27, 37, 27, 67⟩) .nil)) 0 ⟨27, 28, 27, 68⟩) ⟨27, 16, 27, 68⟩)
  .nil) (.cons (.asg 6 ⟨29, 16, 29, 25⟩ (.non 0 ⟨29, 28, 29, 32⟩) ⟨29, 16, 29, 32⟩)
  .nil) ⟨26, 12, 29, 32⟩)
  (.cons (.asg2 2 3 ⟨30, 12, 30, 22⟩ ⟨30, 25, 30, 33⟩ (.get (.name 10 ⟨30, 36, 30, 39⟩) (.int 0 0 ⟨30, 40, 30, 41⟩) ⟨30, 36, 30, 42⟩) ⟨30, 12, 30, 42⟩)
  .nil)) (.cons (.asg 2 ⟨32, 12, 32, 22⟩ (.get (.name 9 ⟨32, 25, 32, 30⟩) (.int 0 0 ⟨32, 31, 32, 32⟩) ⟨32, 25, 32, 33⟩) ⟨32, 12, 32, 33⟩)
  .nil) ⟨25, 8, 32, 33⟩))
  (.cons (.s (.ifs (.e (.cmp .Eq (.name 7 ⟨33, 11, 33, 21⟩) (.tok 1 ⟨33, 25, 33, 33⟩ ⟨33, 25, 33, 36⟩) ⟨33, 11, 33, 36⟩)) (.cons (.ifs (.e (.cmp .In (.name 8 ⟨34, 15, 34, 19⟩) (.str ("([{" : Str) 0 ⟨34, 23, 34, 28⟩) ⟨34, 15, 34, 28⟩)) (.cons (.aug 4 ⟨35, 16, 35, 22⟩ .Add (.int 1 0 ⟨35, 26, 35, 27⟩) ⟨35, 16, 35, 27⟩)
  .nil) (.cons (.ifs (.e (.cmp .In (.name 8 ⟨36, 17, 36, 21⟩) (.str (")]}" : Str) 0 ⟨36, 25, 36, 30⟩) ⟨36, 17, 36, 30⟩)) (.cons (.aug 4 ⟨37, 16, 37, 22⟩ .Sub (.int 1 0 ⟨37, 26, 37, 27⟩) ⟨37, 16, 37, 27⟩)
  .nil) .nil ⟨36, 12, 37, 27⟩)
  .nil) ⟨34, 12, 37, 27⟩)
  .nil) .nil ⟨33, 8, 37, 27⟩))
  .nil)))))
def tgB : Tg := (.many [(5, ⟨46, 8, 46, 18⟩), (6, ⟨46, 20, 46, 24⟩), (7, ⟨46, 26, 46, 31⟩), (8, ⟨46, 33, 46, 36⟩), (9, ⟨46, 38, 46, 42⟩)] 0 ⟨46, 8, 46, 42⟩)
def posB : Pos := ⟨46, 4, 56, 32⟩
def bodyB : GL := (.cons (.s (.ifs (.e (.cmp .Eq (.name 5 ⟨47, 11, 47, 21⟩) (.tok 0 ⟨47, 25, 47, 33⟩ ⟨47, 25, 47, 41⟩) ⟨47, 11, 47, 41⟩)) (.cons (.cont ⟨48, 12, 48, 20⟩)
  .nil) .nil ⟨47, 8, 48, 20⟩))
  (.cons (.ifs (.and (.cons (.or (.cons (.e (.cmp .In (.str ("\n" : Str) 0 ⟨49, 12, 49, 16⟩) (.name 6 ⟨49, 20, 49, 24⟩) ⟨49, 12, 49, 24⟩)) (.cons (.e (.cmp .In (.str ("\x0d" : Str) 0 ⟨49, 28, 49, 32⟩) (.name 6 ⟨49, 36, 49, 40⟩) ⟨49, 28, 49, 40⟩)) .nil)) ⟨49, 12, 49, 40⟩) (.cons (.e (.cmp .NotEq (.name 5 ⟨49, 46, 49, 56⟩) (.tok 2 ⟨49, 60, 49, 68⟩ ⟨49, 60, 49, 75⟩) ⟨49, 46, 49, 75⟩)) .nil)) ⟨49, 11, 49, 75⟩) (.cons (.s (.asg 1 ⟨50, 12, 50, 22⟩ (.bool true 0 ⟨50, 25, 50, 29⟩) ⟨50, 12, 50, 29⟩))
  .nil) (.cons (.y (.tup (.cons (.name 5 ⟨52, 19, 52, 29⟩) (.cons (.name 6 ⟨52, 31, 52, 35⟩) (.cons (.name 3 ⟨52, 37, 52, 56⟩) (.cons (.name 4 ⟨52, 58, 52, 71⟩) (.cons (.name 1 ⟨52, 73, 52, 83⟩) (.cons (.name 2 ⟨52, 85, 52, 98⟩) (.cons (.name 7 ⟨52, 100, 52, 105⟩) .nil))))))) 0 ⟨52, 18, 52, 106⟩) ⟨52, 12, 52, 106⟩ ⟨52, 12, 52, 106⟩)
  (.cons (.s (.asg 2 ⟨53, 12, 53, 25⟩ (.cmp .In (.name 6 ⟨53, 28, 53, 32⟩) (.str ("([{,;" : Str) 0 ⟨53, 36, 53, 43⟩) ⟨53, 28, 53, 43⟩) ⟨53, 12, 53, 43⟩))
  (.cons (.s (.asg 1 ⟨54, 12, 54, 22⟩ (.bool false 0 ⟨54, 25, 54, 30⟩) ⟨54, 12, 54, 30⟩))
  (.cons (.s (.asg 3 ⟨55, 12, 55, 31⟩ (.name 5 ⟨55, 34, 55, 44⟩) ⟨55, 12, 55, 44⟩))
  (.cons (.s (.asg 4 ⟨56, 12, 56, 25⟩ (.name 6 ⟨56, 28, 56, 32⟩) ⟨56, 12, 56, 32⟩))
  .nil))))) ⟨49, 8, 56, 32⟩)
  .nil))
def tgC : Tg := (.one 2 ⟨58, 8, 58, 15⟩)
def posC : Pos := ⟨58, 4, 61, 67⟩
def bodyC : GL := (.cons (.un [(3, ⟨59, 8, 59, 18⟩), (4, ⟨59, 20, 59, 24⟩), (5, ⟨59, 26, 59, 45⟩), (6, ⟨59, 47, 59, 60⟩), (7, ⟨59, 62, 59, 72⟩), (8, ⟨59, 74, 59, 87⟩), (9, ⟨59, 89, 59, 94⟩)] 0 ⟨59, 8, 59, 94⟩ 2 ⟨59, 97, 59, 104⟩ ⟨59, 8, 59, 104⟩)
  (.cons (.ifs (.and (.cons (.e (.isb (.name 3 ⟨60, 31, 60, 41⟩) (.name 4 ⟨60, 43, 60, 47⟩) ⟨60, 11, 60, 30⟩ ⟨60, 11, 60, 48⟩)) (.cons (.e (.name 7 ⟨60, 53, 60, 63⟩)) (.cons (.not (.e (.name 8 ⟨60, 73, 60, 86⟩)) ⟨60, 69, 60, 86⟩) (.cons (.not (.e (.isb (.name 5 ⟨60, 117, 60, 136⟩) (.name 6 ⟨60, 138, 60, 151⟩) ⟨60, 97, 60, 116⟩ ⟨60, 97, 60, 152⟩)) ⟨60, 93, 60, 152⟩) .nil)))) ⟨60, 11, 60, 153⟩) (.cons (.y (.tup (.cons (.name 9 ⟨61, 19, 61, 24⟩) (.cons (.str ("W503 line break before binary operator" : Str) 0 ⟨61, 26, 61, 66⟩) .nil)) 0 ⟨61, 18, 61, 67⟩) ⟨61, 12, 61, 67⟩ ⟨61, 12, 61, 67⟩)
  .nil) .nil ⟨60, 8, 61, 67⟩)
  .nil))
def tgA : Tg := (.one 3 ⟨64, 8, 64, 15⟩)
def posA : Pos := ⟨64, 4, 68, 26⟩
def bodyA : GL := (.cons (.un [(4, ⟨65, 8, 65, 18⟩), (5, ⟨65, 20, 65, 24⟩), (6, ⟨65, 26, 65, 45⟩), (7, ⟨65, 47, 65, 60⟩), (8, ⟨65, 62, 65, 72⟩), (9, ⟨65, 74, 65, 87⟩), (10, ⟨65, 89, 65, 94⟩)] 0 ⟨65, 8, 65, 94⟩ 3 ⟨65, 97, 65, 104⟩ ⟨65, 8, 65, 104⟩)
  (.cons (.ifs (.and (.cons (.e (.isb (.name 6 ⟨66, 31, 66, 50⟩) (.name 7 ⟨66, 52, 66, 65⟩) ⟨66, 11, 66, 30⟩ ⟨66, 11, 66, 66⟩)) (.cons (.e (.name 8 ⟨66, 71, 66, 81⟩)) (.cons (.not (.e (.name 9 ⟨66, 91, 66, 104⟩)) ⟨66, 87, 66, 104⟩) (.cons (.not (.e (.isb (.name 4 ⟨66, 135, 66, 145⟩) (.name 5 ⟨66, 147, 66, 151⟩) ⟨66, 115, 66, 134⟩ ⟨66, 115, 66, 152⟩)) ⟨66, 111, 66, 152⟩) .nil)))) ⟨66, 11, 66, 153⟩) (.cons (.y (.tup (.cons (.name 2 ⟨67, 19, 67, 29⟩) (.cons (.str ("W504 line break after binary operator" : Str) 0 ⟨67, 31, 67, 70⟩) .nil)) 0 ⟨67, 18, 67, 71⟩) ⟨67, 12, 67, 71⟩ ⟨67, 12, 67, 71⟩)
  .nil) .nil ⟨66, 8, 67, 71⟩)
  (.cons (.s (.asg 2 ⟨68, 8, 68, 18⟩ (.name 10 ⟨68, 21, 68, 26⟩) ⟨68, 8, 68, 26⟩))
  .nil)))

def nmrE : List Str := ["prev_start", "prev_end", "parens", "comment", "backslash", "token_type", "text", "start", "end", "line"]
def nmrC : List Str := ["context", "token_type", "text", "previous_token_type", "previous_text", "line_break", "unary_context", "start"]
def nmrA : List Str := ["prev_start", "context", "token_type", "text", "previous_token_type", "previous_text", "line_break", "unary_context", "start"]
def nmB : List Str := ["tokens", "line_break", "unary_context", "previous_token_type", "previous_text", "token_type", "text", "start", "end", "line"]

theorem bdE : (defOf "explicit_line_join").2.1 = headE.tr ("logical_line" :: "tokens" :: nmrE) ++ [.For (tgE.tr ("logical_line" :: "tokens" :: nmrE)) (.Name "tokens" ⟨18, 46, 18, 52⟩) (bodyE.tr ("logical_line" :: "tokens" :: nmrE)) [] posE] := by rfl
theorem bdB : (defOf "_break_around_binary_operators").2.1 = headB.tr nmB ++ [.For (tgB.tr nmB) (.Name "tokens" ⟨46, 46, 46, 52⟩) (bodyB.tr nmB) [] posB] := by rfl
theorem bdC : (defOf "break_before_binary_operator").2.1 = SL.nil.tr ("logical_line" :: "tokens" :: nmrC) ++ [.For (tgC.tr ("logical_line" :: "tokens" :: nmrC)) (.Call (.Name "_break_around_binary_operators" ⟨58, 19, 58, 49⟩) [.Name "tokens" ⟨58, 50, 58, 56⟩] [] ⟨58, 19, 58, 57⟩) (bodyC.tr ("logical_line" :: "tokens" :: nmrC)) [] posC] := by rfl
theorem bdA : (defOf "break_after_binary_operator").2.1 = headA.tr ("logical_line" :: "tokens" :: nmrA) ++ [.For (tgA.tr ("logical_line" :: "tokens" :: nmrA)) (.Call (.Name "_break_around_binary_operators" ⟨64, 19, 64, 49⟩) [.Name "tokens" ⟨64, 50, 64, 56⟩] [] ⟨64, 19, 64, 57⟩) (bodyA.tr ("logical_line" :: "tokens" :: nmrA)) [] posA] := by rfl
end Mine

namespace Mine
open PySem PySem.W PySem.Calls PyProof.Rows PySem.Spec

section
variable {prog : Program} {w : World} {hb : Heap} {mg mb : Str → Option Value}

def genRun (cf : Cfg) (head : SL) (tg : Tg) (body : GL) (items : List AV) (σ : St) : Option (List AV) := match head.ex cf 20 σ with
  | some (.next, σ₁) => match gloop cf tg body 20 items σ₁ with
    | some (_, outs) => some outs
    | none => none
  | _ => none
theorem genRun_spec {cf : Cfg} {head : SL} {tg : Tg} {body : GL} {items outs : List AV} {σ : St} (h : genRun cf head tg body items σ = some outs) : ∃ σ₁ σ', head.ex cf 20 σ = some (.next, σ₁) ∧ gloop cf tg body 20 items σ₁ = some (σ', outs) := by
  unfold genRun at h
  split at h
  · rename_i σ₁ e
    split at h
    · rename_i σ' o e'
      cases h
      exact ⟨σ₁, σ', e, e'⟩
    · cases h
  · cases h

def cfE : Cfg := genCf 12 true true false
def cfB : Cfg := genCf 10 false true false
def cfC : Cfg := genCf 10 false false true
def cfA : Cfg := genCf 11 false false true
def sigB (items : List AV) : St := ⟨.l items :: List.replicate 9 .u, (0, 0)⟩
def runE (items : List AV) : Option (List AV) := genRun cfE headE tgE bodyE items (sig0 items 10)
def runB (items : List AV) : Option (List AV) := genRun cfB headB tgB bodyB items (sigB items)
def runC (items ys : List AV) : Option (List AV) := genRun cfC .nil tgC bodyC ys (sig0 items 8)
def runA (items ys : List AV) : Option (List AV) := genRun cfA headA tgA bodyA ys (sig0 items 9)

def ListOk (prog : Program) (w : World) (hb : Heap) (f : Addr) (items outs : List AV) : Prop := ∀ (A : Around) (s : Shared) (tok : Addr) (ws : List Value) (u : Tok) (Q : Value → Shared → Prop) (Er : Value → Shared → Prop), AOk 8 A →
  (∀ b o, hb.get? b = some o → s.heap.get? b = some o) → s.heap.PlainList tok ws.toArray → Dens s.heap ws items → hb.get? tok = none →
  (∀ S s' ws', GarP (fun b => ∃ o, s.heap.get? b = some o) (fun i => i < s.gens.size) s s' → s.heap.get? S = none → s'.heap.PlainList S ws'.toArray → Dens s'.heap ws' outs → Q (.ref S) s') →
  wpAny (model prog w) A (call (.ref f) [.str "" u, .ref tok]) (fun v s₁ => wpAny (model prog w) A (call (.type "list") [v]) Q Er s₁) Er s

theorem list_E (W : WF prog w hb mg mb) {items outs : List AV} (h : runE items = some outs) (hn : outs.length ≤ 1000000) :
    ∃ f o fd, mg "explicit_line_join" = some (.ref f) ∧ hb.get? f = some o ∧ o.data = .func fd ∧ ListOk prog w hb f items outs := by
  obtain ⟨f, o, pm, cd, doc, hf, ho, hd, hcd⟩ := W.fnJoin
  refine ⟨f, o, _, hf, ho, hd, ?_⟩
  intro A s tok ws u Q Er hA hbk hl hden hbt hQ
  obtain ⟨σ₁, σ', h1, h2⟩ := genRun_spec h
  have hx : locL σ₁.loc 1 = some items := by
    have : headE.ex cfE 20 (sig0 items 10) = some (.next, ⟨[.v (.str ""), .l items, .v (.int 0), .v (.int 0), .v (.int 0), .v (.bool false), .v .none, .u, .u, .u, .u, .u], (0, 0)⟩) := by rfl
    rw [this] at h1
    cases h1
    rfl
  refine list_gen W "explicit_line_join" ho hd hcd (b1 := true) (b2 := true) (b3 := false) bdE (by rfl) (by rfl) (by rfl) (by decide +kernel) (by decide +kernel) (by decide +kernel) (by decide +kernel) (by decide +kernel) (by decide +kernel) (by decide +kernel) (fun a b => by rfl) (fun env x => by rfl)
    hA hbk hl hden hbt h1 h2 hn ?_ hQ
  intro L π LA ft hLA O s' hex hgx A' s₁ Q' hA' g hQ'
  exact iter_list (cf := cfE) O ft (fun it => (hLA it).1) (x := 1) hx hex A' s₁ Q' hA' g hQ'
end
end Mine

namespace Mine
open PySem PySem.W PySem.Calls PyProof.Rows PySem.Spec

section
variable {prog : Program} {w : World} {hb : Heap} {mg mb : Str → Option Value}

def nestPar (F : FC) (π : Par) (s : Shared) : Par where
  P := fun b => (∃ o, s.heap.get? b = some o) ∨ b = s.heap.objs.size + 1
  W := fun b => b = F.env.locals ∨ π.W b
  G := fun i => i < s.gens.size
  V := fun i => π.V i ∨ i = s.gens.size

theorem iter_nested (W : WF prog w hb mg mb) {n : Str} {sc : Scope} {L f₁ : Addr} {cd₁ : Value} {nm : List Str} {π : Par} {tok : Addr} {LA : Value → Around} {cf : Cfg} {items ys : List AV} {σ₁ : St} {p1 p2 p3 : Pos}
    (hkB : kindIs sc "_break_around_binary_operators" = true) (ft : π.Fits (genF prog w hb n sc L f₁ cd₁ nm) (fun _ => tok)) (hLA : ∀ it, AOk 4 (LA it)) (O : (genF prog w hb n sc L f₁ cd₁ nm).Ok)
    (hw : cf.wr = []) (hx : locL σ₁.loc 1 = some items) (hrun : runB items = some ys) :
    IterP (genF prog w hb n sc L f₁ cd₁ nm) cf π (fun _ => tok) LA (.Call (.Name "_break_around_binary_operators" p1) [.Name (nmAt nm 1) p2] [] p3) ys σ₁ := by
  intro s' hex hgx A' s₁ Q hA' g hQ
  obtain ⟨f, o, pm, cd, doc, hf, ho, hd, hcd⟩ := W.fnAround
  obtain ⟨l, d⟩ := σ₁
  have I := g.inv
  have hbk := I.base
  have st := g.stp
  have hg1 : s₁.gens = s'.gens := by obtain ⟨h', tk, e, _⟩ := st; rw [e]
  have hex1 : ∀ b, (π.P b ∨ π.W b ∨ FC.Need (genF prog w hb n sc L f₁ cd₁ nm) (fun _ => tok) b) → ∃ o, s₁.heap.get? b = some o := fun b h => let ⟨o, e⟩ := hex b h; g.ex b o e
  have hla := I.apart 1 items (locL_some hx)
  refine Call_ (ld_glob W.g hf hbk O.kind rfl (eq_of_beq hkB) (by decide +kernel) ?_)
  refine callWith_def (o := o) hd (spliced_more (load_l O I hx fun ws hp hden => spliced_none ⟨hbk _ _ ho, ?_⟩))
  have htok : ∃ o, s₁.heap.get? tok = some o := let ⟨n, ho⟩ := hp; ⟨_, ho⟩
  refine gen_make (binds := [(("tokens" : Str), Value.ref tok)]) (by have := hA'.2.1; omega) (hbk _ _ ho) hd (W.lim.keeps hbk) (hcd.keeps hbk) (by rfl) (locs (by rfl)) (by rfl) (by rfl) (by rfl) (by decide +kernel) fun h' tk hns hig hkp hsz => ?_
  generalize hs2 : ({ s₁ with heap := h', toks := tk, gens := s₁.gens.push (.fresh (.func (defOf "_break_around_binary_operators").2.1 (envOf "_break_around_binary_operators" (defOf "_break_around_binary_operators").2.2 s₁.heap.objs.size f cd))) } : Shared) = s2
  have hs2h : s2.heap = h' := by rw [← hs2]
  have hs2g : s2.gens = s₁.gens.push (.fresh (.func (defOf "_break_around_binary_operators").2.1 (envOf "_break_around_binary_operators" (defOf "_break_around_binary_operators").2.2 s₁.heap.objs.size f cd))) := by rw [← hs2]
  have lt : ∀ {b}, (∃ o, s₁.heap.get? b = some o) → b < s₁.heap.objs.size := fun ⟨_, e⟩ => Heap.lt_size e
  have nL : ∀ {b : Addr}, (∃ o, s₁.heap.get? b = some o) → b ≠ s₁.heap.objs.size := fun h e => absurd (lt h) (by rw [e]; exact Nat.lt_irrefl _)
  have nI : ∀ {b : Addr}, (∃ o, s₁.heap.get? b = some o) → b ≠ s₁.heap.objs.size + 1 := fun h e => absurd (lt h) (by rw [e]; exact Nat.not_lt.mpr (Nat.le_add_right _ _))
  have hLo : hb.get? s₁.heap.objs.size = none := by
    cases q : hb.get? s₁.heap.objs.size with
    | none => rfl
    | some o => exact absurd rfl (nL ⟨o, hbk _ _ q⟩)
  have hW : ∀ b, (nestPar (genF prog w hb n sc L f₁ cd₁ nm) π s₁).W b → ∃ o, s₁.heap.get? b = some o := by
    rintro b (h | h)
    · exact hex1 b (.inr (.inr (.inl h)))
    · exact hex1 b (.inr (.inl h))
  have O2 := genF_ok (prog := prog) (w := w) (n := "_break_around_binary_operators") (sc := (defOf "_break_around_binary_operators").2.2) (L := s₁.heap.objs.size) (f := f) (cd := cd) (nm := nmB) (hb := hb) (by rfl) (by decide +kernel) (by decide +kernel) (by decide +kernel) hLo W.lim
  have X2 := ext_of W (n := "_break_around_binary_operators") (sc := (defOf "_break_around_binary_operators").2.2) (L := s₁.heap.objs.size) (f := f) (cd := cd) (nm := nmB) (k := 10) (b1 := false) (b2 := true) (b3 := false) (by rfl) (by rfl) (by decide +kernel) (by decide +kernel) (by decide +kernel)
  have ft2 : (nestPar (genF prog w hb n sc L f₁ cd₁ nm) π s₁).Fits (genF prog w hb "_break_around_binary_operators" (defOf "_break_around_binary_operators").2.2 s₁.heap.objs.size f cd nmB) (fun _ => tok) := by
    refine ⟨rfl, rfl, ⟨?_, fun h => nL (hW _ h) rfl⟩, fun _ => ?_, fun b o e => ?_⟩
    · rintro (h | h)
      · exact nL h rfl
      · exact absurd h (Nat.ne_of_lt (Nat.lt_succ_self _))
    · rintro (h | h)
      · exact hla.1 (.inl h)
      · exact ft.adr 0 h
    · rintro (h | h)
      · have := O.fresh.1
        rw [show (genF prog w hb n sc L f₁ cd₁ nm).env.locals = b from h.symm] at this
        have e' : (genF prog w hb n sc L f₁ cd₁ nm).hb.get? b = some o := e
        rw [e'] at this; cases this
      · exact ft.base b o e h
  have K : GOk hb (nestPar (genF prog w hb n sc L f₁ cd₁ nm) π s₁) (s₁.heap.objs.size + 1) s₁.gens.size :=
    ⟨⟨.inr rfl, fun h => nI (hW _ h) rfl⟩, fun b o e => ⟨.inl ⟨o, hbk b o e⟩, ft2.base b o e⟩, ⟨.inr rfl, Nat.lt_irrefl _⟩, W.lim⟩
  have I0 : Inv (genF prog w hb "_break_around_binary_operators" (defOf "_break_around_binary_operators").2.2 s₁.heap.objs.size f cd nmB) (sigB items) (fun _ => tok) s2.heap := by
    rw [hs2h]
    refine ⟨fun b o e => hkp b o (hbk b o e), ⟨_, hns, ?_⟩, (fun x c e => by cases e), ?_, (fun t e => by cases e)⟩
    · intro x sl e
      match x with
      | 0 => cases e; exact ⟨⟨_, rfl, rfl⟩, ws, (let ⟨n, ho⟩ := hp; ⟨n, hkp _ _ ho⟩), hden.mono (.of_keeps hkp)⟩
      | x + 1 =>
        have : sl = .u := List.eq_of_mem_replicate (List.mem_of_getElem? (show (List.replicate 9 Slot.u)[x]? = some sl from e))
        subst this
        trivial
    · intro x vs e
      have h1' : ∀ x vs, (sigB items).loc[x]? = some (.l vs) → x = 0 := by
        intro x vs e
        match x with
        | 0 => rfl
        | x + 1 =>
          have : Slot.l vs = .u := List.eq_of_mem_replicate (List.mem_of_getElem? (show (List.replicate 9 Slot.u)[x]? = some (.l vs) from e))
          cases this
      refine ⟨?_, hla.2.1, fun y ws e' _ => (h1' x vs e).trans (h1' y ws e').symm⟩
      rintro (h | ⟨_, h⟩ | ⟨_, h, _⟩)
      · exact nL htok h
      · cases h
      · cases h
  obtain ⟨τ₁, τ', r1, r2⟩ := genRun_spec hrun
  have hx2 : locL τ₁.loc 0 = some items := by
    have : headB.ex cfB 20 (sigB items) = some (.next, ⟨[.l items, .v (.bool false), .v (.bool true), .v .none, .v .none, .u, .u, .u, .u, .u], (0, 0)⟩) := by rfl
    rw [this] at r1
    cases r1
    rfl
  have hig2 : s2.heap.IsGen (s₁.heap.objs.size + 1) s₁.gens.size := by rw [hs2h]; exact hig
  refine wpAny_pyIter_gen hig2 ?_
  have G12 : GarP π.P π.G s₁ s2 := by
    rw [← hs2]
    refine ⟨⟨_, _, _, rfl⟩, fun b o e _ => hkp b o e, .of_keeps hkp, ?_, fun i hi _ => ?_, fun z => z.push rfl⟩
    · show s₁.gens.size ≤ (s₁.gens.push _).size
      rw [Array.size_push]; omega
    · show (s₁.gens.push _)[i]? = _
      rw [Array.getElem?_push, if_neg (by omega)]
  refine hQ _ s2 _ (gen_it (F := genF prog w hb n sc L f₁ cd₁ nm) (π := π) (A := LA (.ref (s₁.heap.objs.size + 1))) ((hLA _).mono (by decide)) K (items := ys) ?_ ?_ (fun b h => h) (fun i h => .inl h) ?_) ⟨?_, ?_⟩ ?_ G12
  · rintro b (h | h)
    · exact .inl (hex1 b (.inl h))
    · exact .inl (hex1 b (.inr (.inr h)))
  · intro i h
    show i < s₁.gens.size
    rw [hg1]; exact hgx i (.inr h)
  · intro h
    have := hgx _ (.inl h)
    rw [hg1] at this
    exact Nat.lt_irrefl _ this
  · refine gen_fresh (F := genF prog w hb "_break_around_binary_operators" (defOf "_break_around_binary_operators").2.2 s₁.heap.objs.size f cd nmB) (adr := fun _ => tok) (cf := cfB) (A := LA (.ref (s₁.heap.objs.size + 1))) O2 X2 rfl ft2 (in1_ok (hLA _) (by decide)) (by rfl) (fun x => by rfl) bdB r1 r2 I0 hig2 (by rw [hs2g]; exact Array.getElem?_push_size) ?_
    intro s3 hr A3 s4 Q3 hA3 g3 hQ3
    have hex3 : ∀ b, ((nestPar (genF prog w hb n sc L f₁ cd₁ nm) π s₁).P b ∨ (nestPar (genF prog w hb n sc L f₁ cd₁ nm) π s₁).W b ∨ FC.Need (genF prog w hb "_break_around_binary_operators" (defOf "_break_around_binary_operators").2.2 s₁.heap.objs.size f cd nmB) (fun _ => tok) b) →
        ∃ o, (s3.setGen s₁.gens.size .running).heap.get? b = some o := by
      have hold : ∀ b, (∃ o, s₁.heap.get? b = some o) → ∃ o, s3.heap.get? b = some o := fun b ⟨o, e⟩ => hr.ex b o (by rw [hs2h]; exact hkp _ _ e)
      rintro b ((h | h) | h | h | ⟨x, h⟩ | ⟨o, h⟩)
      · exact hold b h
      · obtain ⟨o, _, _, ho, _⟩ := hig2
        rw [h]
        exact hr.ex _ _ ho
      · exact hold b (hW b h)
      · have h : b = s₁.heap.objs.size := h
        obtain ⟨oL, _, _, hoL, _⟩ := hns
        rw [h]
        exact hr.ex _ _ (by rw [hs2h]; exact hoL)
      · rw [h]; exact hold tok htok
      · exact hold b ⟨_, hbk b o h⟩
    exact iter_list (cf := cfB) O2 ft2 (LA := loopA (genF prog w hb "_break_around_binary_operators" (defOf "_break_around_binary_operators").2.2 s₁.heap.objs.size f cd nmB) (LA (.ref (s₁.heap.objs.size + 1))).in1 (defOf "_break_around_binary_operators").2.1 tgB bodyB) (fun it => (hLA _).1) (x := 0) hx2 hex3 A3 s4 Q3 hA3 g3 hQ3
  · rw [hs2g, Array.size_push]; omega
  · rw [hs2h]; exact I.grow O hkp

theorem list_C (W : WF prog w hb mg mb) {items ys outs : List AV} (hB : runB items = some ys) (h : runC items ys = some outs) (hn : outs.length ≤ 1000000) :
    ∃ f o fd, mg "break_before_binary_operator" = some (.ref f) ∧ hb.get? f = some o ∧ o.data = .func fd ∧ ListOk prog w hb f items outs := by
  obtain ⟨f, o, pm, cd, doc, hf, ho, hd, hcd⟩ := W.fnBefore
  refine ⟨f, o, _, hf, ho, hd, ?_⟩
  intro A s tok ws u Q Er hA hbk hl hden hbt hQ
  obtain ⟨σ₁, σ', h1, h2⟩ := genRun_spec h
  have hx : locL σ₁.loc 1 = some items := by
    have : SL.nil.ex cfC 20 (sig0 items 8) = some (.next, sig0 items 8) := by rfl
    rw [this] at h1
    cases h1
    rfl
  refine list_gen W "break_before_binary_operator" ho hd hcd (b1 := false) (b2 := false) (b3 := true) bdC (by rfl) (by rfl) (by rfl) (by decide +kernel) (by decide +kernel) (by decide +kernel) (by decide +kernel) (by decide +kernel) (by decide +kernel) (by decide +kernel) (fun a b => by rfl) (fun env x => by rfl)
    hA hbk hl hden hbt h1 h2 hn ?_ hQ
  intro L π LA ft hLA O
  exact iter_nested (cf := cfC) W (by decide +kernel) ft hLA O rfl hx hB

theorem list_A (W : WF prog w hb mg mb) {items ys outs : List AV} (hB : runB items = some ys) (h : runA items ys = some outs) (hn : outs.length ≤ 1000000) :
    ∃ f o fd, mg "break_after_binary_operator" = some (.ref f) ∧ hb.get? f = some o ∧ o.data = .func fd ∧ ListOk prog w hb f items outs := by
  obtain ⟨f, o, pm, cd, doc, hf, ho, hd, hcd⟩ := W.fnAfter
  refine ⟨f, o, _, hf, ho, hd, ?_⟩
  intro A s tok ws u Q Er hA hbk hl hden hbt hQ
  obtain ⟨σ₁, σ', h1, h2⟩ := genRun_spec h
  have hx : locL σ₁.loc 1 = some items := by
    have : headA.ex cfA 20 (sig0 items 9) = some (.next, ⟨[.v (.str ""), .l items, .v .none, .u, .u, .u, .u, .u, .u, .u, .u], (0, 0)⟩) := by rfl
    rw [this] at h1
    cases h1
    rfl
  refine list_gen W "break_after_binary_operator" ho hd hcd (b1 := false) (b2 := false) (b3 := true) bdA (by rfl) (by rfl) (by rfl) (by decide +kernel) (by decide +kernel) (by decide +kernel) (by decide +kernel) (by decide +kernel) (by decide +kernel) (by decide +kernel) (fun a b => by rfl) (fun env x => by rfl)
    hA hbk hl hden hbt h1 h2 hn ?_ hQ
  intro L π LA ft hLA O
  exact iter_nested (cf := cfA) W (by decide +kernel) ft hLA O rfl hx hB
end
end Mine

namespace Mine
open PySem PySem.W PySem.Calls PyProof.Rows PySem.Spec

section
variable {F : FC}

/-- an object that is not the frame's own may change -/
theorem Inv.but {σ : St} {adr : Nat → Addr} {h h' : Heap} {Z : Addr} (I : Inv F σ adr h) (hk : ∀ b o, h.get? b = some o → b ≠ Z → h'.get? b = some o) (tp : TP h h') (hz : ¬ F.own Z) (hb : F.hb.get? Z = none) (hl : ∀ x vs, σ.loc[x]? = some (.l vs) → adr x ≠ Z) :
    Inv F σ adr h' where
  base := fun b o e => hk b o (I.base b o e) fun eb => by rw [eb, hb] at e; cases e
  loc := by
    obtain ⟨m, ⟨o, es, ep, ho, q⟩, hs⟩ := I.loc
    refine ⟨m, ⟨o, es, ep, hk _ _ ho fun e => hz (.inl e.symm), q⟩, fun x sl e => ?_⟩
    have hv : ∀ v, VarIs F h m x v → VarIs F h' m x v := by
      intro v hv
      unfold VarIs at hv ⊢
      split
      · rename_i y c ec
        rw [ec] at hv
        simp only at hv
        split at hv
        · rename_i exy
          rw [if_pos exy]
          obtain ⟨o, ho, hd⟩ := hv
          exact ⟨o, hk c o ho fun e => hz (.inr (.inl ⟨y, by rw [ec, e]⟩)), hd⟩
        · rename_i exy
          rw [if_neg exy]
          exact hv
      · rename_i ec
        rw [ec] at hv
        exact hv
    have := hs x sl e
    cases sl with
    | u => trivial
    | v d => obtain ⟨v, h1, h2⟩ := this; exact ⟨v, hv v h1, h2.mono tp⟩
    | s => obtain ⟨t, h1, h2⟩ := this; exact ⟨t, h1, hv _ h2⟩
    | l vs => obtain ⟨h1, ws, ⟨n, h2⟩, h3⟩ := this; exact ⟨hv _ h1, ws, ⟨n, hk _ _ h2 (hl x vs e)⟩, h3.mono tp⟩
  cellIs := fun x c e => by
    obtain ⟨v, o, ho, hd⟩ := I.cellIs x c e
    exact ⟨v, o, hk _ _ ho fun ec => hz (.inr (.inl ⟨x, by rw [e, ec]⟩)), hd⟩
  apart := I.apart
  dr := fun t e => (I.dr t e).keep (fun o ho => hk _ o ho fun ea => hz (.inr (.inr ⟨t, e, .inl ea.symm⟩))) fun o ho => hk _ o ho fun eb => hz (.inr (.inr ⟨t, e, .inr eb.symm⟩))

theorem newl_sound (O : F.Ok) {cf : Cfg} (X : Ext F cf) {adr : Nat → Addr} {l : List Slot} {A : Around} (hA : AOk 2 A) {es : EL} {d : Dr} {ws : List AV} {d' : Dr} {lp : Pos} (ev : es.ev cf l d = some (ws, d')) (hle : ws.length ≤ 1000)
    {s : Shared} {Q : Value → Shared → Prop} {Er : Value → Shared → Prop} (I : Inv F ⟨l, d⟩ adr s.heap)
    (hQ : ∀ D us s', GoodS F cf.wr adr adr ⟨l, d'⟩ s s' → s'.heap.PlainList D us.toArray → Dens s'.heap us ws → (s.heap.get? D = none ∧ ¬ F.own D ∧ F.hb.get? D = none ∧ ∀ y vs, l[y]? = some (.l vs) → adr y ≠ D) → Q (.ref D) s') :
    wpAny (model F.prog F.w) A (eval (.List (es.tr F.nm) lp) F.env) Q Er s := by
  refine wpAny_List (EL.sound O X hA es ev I fun us₁ s₁ hus g₁ => ?_)
  have hl := hus.length
  refine ⟨by rw [hl]; exact Nat.le_trans hle (by decide), ?_⟩
  have G := g₁.S (wr := cf.wr) I
  have g₂ : GoodS F cf.wr adr adr ⟨l, d'⟩ s { s₁ with heap := s₁.heap.push { cls := .type "list", data := .seq us₁.toArray } } := G.grow O fun _ _ e => Heap.get?_push_of_some _ e
  have fr := Inv.fresh g₁.1
  refine hQ _ _ _ g₂ ⟨_, Heap.get?_push_size _ rfl⟩ (hus.mono (.of_keeps fun _ _ e => Heap.get?_push_of_some _ e)) ⟨?_, fr.2.1, fr.2.2.1, fr.2.2.2⟩
  cases q : s.heap.get? s₁.heap.objs.size with
  | none => rfl
  | some o =>
    obtain ⟨o', e'⟩ := G.ex _ o q
    exact absurd (fr.1.symm.trans e') (by simp)

/-- the sum of two lists -/
theorem add_lists {prog : Program} {w : World} {A : Around} {s : Shared} {a b : Addr} {us vs : List Value} {Q : Value → Shared → Prop} {Er : Value → Shared → Prop} (ha : s.heap.PlainList a us.toArray) (hb : s.heap.PlainList b vs.toArray) (hsz : us.length + vs.length ≤ 1000000)
    (hQ : Q (.ref s.heap.objs.size) { s with heap := s.heap.push { cls := .type "list", data := .seq (us ++ vs).toArray } }) : wpAny (model prog w) A (binaryOp .Add (.ref a) (.ref b)) Q Er s := by
  obtain ⟨n1, h1⟩ := ha
  obtain ⟨n2, h2⟩ := hb
  have hsz' : us.toArray.size + vs.toArray.size ≤ sizeLine := by
    simp only [List.size_toArray]
    exact Nat.le_trans hsz (by decide)
  refine concat_meets ⟨_, h1, rfl⟩ ⟨_, h2, rfl⟩ noFill_list_add seq_list_add PySem.F.slot_list_add PySem.F.entry_list_add (PySem.F.args_list_add_2 _ _)
    (list_addW a b us.toArray vs.toArray n1 n2 none none #[] #[] hsz') ⟨h1, h2, ?_⟩
  have e : us.toArray ++ vs.toArray = (us ++ vs).toArray := by simp
  rw [e]
  exact hQ

def crun (cf : Cfg) (tg : Tg) (elt : E) (dr : Dr) : List AV → List Slot → Option (List AV)
  | [], _ => some []
  | d :: ds, l => match tg.bind cf l d with
    | some l₁ => match elt.ev cf l₁ dr with
      | some (v, _) => match crun cf tg elt dr ds l₁ with
        | some vs => some (v :: vs)
        | none => none
      | none => none
    | none => none

theorem bindN_slots {cf : Cfg} : ∀ {ts : List (Nat × Pos)} {ds : List AV} {l l' : List Slot}, bindN cf ts ds l = some l' → ∀ {y : Nat} {vs : List AV}, l'[y]? = some (.l vs) → l[y]? = some (.l vs)
  | [], [], l, l', h, y, vs, e => by simp only [bindN] at h; cases h; exact e
  | t :: ts, d :: ds, l, l', h, y, vs, e => by
    simp only [bindN] at h
    split at h
    · have := bindN_slots h e
      rcases getElem?_set_cases this with ⟨_, q⟩ | ⟨_, q⟩
      · cases q
      · exact q
    · cases h
  | [], _ :: _, _, _, h, _, _, _ => by simp [bindN] at h
  | _ :: _, [], _, _, h, _, _, _ => by simp [bindN] at h
theorem Tg.bind_slots {cf : Cfg} {tg : Tg} {d : AV} {l l' : List Slot} (h : tg.bind cf l d = some l') {y : Nat} {vs : List AV} (e : l'[y]? = some (.l vs)) : l[y]? = some (.l vs) := by
  cases tg with
  | one x p =>
    simp only [Tg.bind] at h
    split at h
    · cases h
      rcases getElem?_set_cases e with ⟨_, q⟩ | ⟨_, q⟩
      · cases q
      · exact q
    · cases h
  | many ts k p =>
    cases d with
    | tup ds => exact bindN_slots h e
    | _ => simp [Tg.bind] at h

theorem compLoop_gen {prog : Program} {w : World} {A : Around} {s : Shared} {elt target iter : Expr} {scope : Scope} {pos : Pos} {it acc : Value} {env : Env} {R : Result → Shared → Prop} (I : Nat → Shared → Prop)
    (turn : ∀ n s, I n s → wpAny (model prog w) A (pyNext it) (fun r s₁ => match r with
      | none => R (.ok .next) s₁
      | some v => wpAny (model prog w) A (letOwnedTupleGo target it v) (fun _ s₁' => wpAny (model prog w) A (assign target env v) (fun _ s₂ =>
          wpAny (model prog w) A (eval elt env) (fun x s₄ =>
              wpAny (model prog w) A (call (.builtin "list.append") [acc, x]) (fun _ s₅ => ∃ m, m < n ∧ I m s₅) (notedBy (model prog w) A env fun e s' => R (.error e) s') s₄) (notedBy (model prog w) A env fun e s' => R (.error e) s') s₂)
          (notedBy (model prog w) A env fun e s' => R (.error e) s') s₁') (notedBy (model prog w) A env fun e s' => R (.error e) s') s₁) (notedBy (model prog w) A env fun e s' => R (.error e) s') s)
    (n : Nat) (h : I n s) : codeAny (model prog w) A (.compLoop (.ListComp elt [⟨target, iter, [], 0⟩] scope pos) 0 it acc env) R s := by
  refine codeAny_loop rfl I (fun n s hI => ?_) n h
  show wpAny _ _ ((compTurn (.ListComp elt [⟨target, iter, [], 0⟩] scope pos) 0 it acc env).onRaise (fun x => do noteFrame x env; theTreesLotGoes x)) _ _ s
  refine wpAny_noted ?_
  rw [compTurn_list1]
  refine wpAny_bind (wpAny_standAt (wpAny_bind (wpAny_mono (turn n s hI) (fun r s₁ h₁ => ?_) fun _ _ h' => h')))
  cases r with
  | none => exact wpAny_pure h₁
  | some v =>
    refine wpAny_bind (wpAny_mono h₁ (fun _ s₁' h₁' => ?_) fun _ _ h' => h')
    exact wpAny_bind (wpAny_mono h₁' (fun _ s₂ h₂ => wpAny_bind (wpAny_bind (wpAny_mono h₂ (fun x s₃ h₃ => wpAny_bind (wpAny_mono h₃
      (fun _ s₄ h₄ => wpAny_pure (wpAny_pure ⟨rfl, h₄⟩)) fun _ _ h' => h')) fun _ _ h' => h'))) fun _ _ h' => h')

theorem comp_code (O : F.Ok) {cf : Cfg} (X : Ext F cf) (hw : cf.wr = []) (hst : F.st = none) {A : Around} (hA : AOk 2 A) {It D : Addr} {fp : List Addr} {P : Nat → Value → Prop} {T : Nat → Heap → Prop} {items outs : List AV} {s : Shared} {adr : Nat → Addr} {l₀ : List Slot} {dr : Dr} {tg : Tg} {elt : E} {iter : Expr} {scope : Scope} {pos : Pos} {R : Result → Shared → Prop}
    (W : Walks F.prog F.w A It fp [It] items.length P T) (hP : ∀ i v, P i v → ∃ d, items[i]? = some d ∧ Den s.heap v d) (hrun : crun cf tg elt dr items l₀ = some outs) (I₀ : Inv F ⟨l₀, dr⟩ adr s.heap) (hT : T 0 s.heap) (hD : s.heap.PlainList D #[])
    (hIt : ¬ F.own It ∧ F.hb.get? It = none ∧ (∀ x vs, l₀[x]? = some (.l vs) → adr x ≠ It) ∧ (∀ o, s.heap.get? It = some o → o.cls ≠ .type "tuple")) (hDo : ¬ F.own D ∧ F.hb.get? D = none ∧ (∀ x vs, l₀[x]? = some (.l vs) → adr x ≠ D) ∧ D ≠ It) (hfp : D ∉ fp ∧ F.env.locals ∉ fp)
    (hItP : ∀ (i : Nat) (h : Heap), T i h → ∀ o, h.get? It = some o → o.cls ≠ .type "tuple") (hn : items.length ≤ 1000000) (hown : ∀ (tgE : Expr) (i : Nat) (s' : Shared) (v : Value) (Q : Unit → Shared → Prop) (Er : Value → Shared → Prop), T i s'.heap → Q () s' → wpAny (model F.prog F.w) A (letOwnedTupleGo tgE (.ref It) v) Q Er s')
    (hR : ∀ h' tk ws l', h'.PlainList D ws.toArray → Dens h' ws outs → Inv F ⟨l', dr⟩ adr h' → (∀ b o, s.heap.get? b = some o → b ≠ It → b ≠ D → b ≠ F.env.locals → h'.get? b = some o) → TP s.heap h' → R (.ok .next) { s with heap := h', toks := tk }) :
    codeAny (model F.prog F.w) A (.compLoop (.ListComp (elt.tr F.nm) [⟨tg.tr F.nm, iter, [], 0⟩] scope pos) 0 (.ref It) (.ref D) F.env) R s := by
  have tpIt : ∀ {i : Nat} {h h' : Heap}, T i h → (∀ b o, b ∉ [It] → h.get? b = some o → h'.get? b = some o) → TP h h' := fun t k b o e hc _ => k b o (by
    intro hm
    have : b = It := by simpa using hm
    subst this
    exact hItP _ _ t o e hc) e
  let J : Nat → Shared → Prop := fun k s' => ∃ (i : Nat) (h : Heap) (tk : Nat) (l : List Slot) (ws : List Value) (os : List AV), s' = { s with heap := h, toks := tk } ∧ k = items.length + 1 - i ∧ i ≤ items.length ∧ T i h ∧ Inv F ⟨l, dr⟩ adr h ∧ h.PlainList D ws.toArray ∧ Dens h ws os ∧
    (∃ r, crun cf tg elt dr (items.drop i) l = some r ∧ outs = os ++ r) ∧ os.length = i ∧ (∀ (x : Nat) (vs : List AV), l[x]? = some (Slot.l vs) → l₀[x]? = some (Slot.l vs)) ∧ (∀ b o, s.heap.get? b = some o → b ≠ It → b ≠ D → b ≠ F.env.locals → h.get? b = some o) ∧ TP s.heap h
  have hJ0 : J (items.length + 1) s := ⟨0, s.heap, s.toks, l₀, [], [], rfl, rfl, Nat.zero_le _, hT, I₀, hD, .nil, ⟨outs, hrun, rfl⟩, rfl, fun _ _ e => e, fun _ _ e _ _ _ => e, .refl _⟩
  have turn : ∀ k s', J k s' → wpAny (model F.prog F.w) A (pyNext (.ref It)) (fun r s₁ => match r with
      | none => R (.ok .next) s₁
      | some v => wpAny (model F.prog F.w) A (letOwnedTupleGo (tg.tr F.nm) (.ref It) v) (fun _ s₁' => wpAny (model F.prog F.w) A (assign (tg.tr F.nm) F.env v) (fun _ s₂ =>
          wpAny (model F.prog F.w) A (eval (elt.tr F.nm) F.env) (fun x s₄ =>
              wpAny (model F.prog F.w) A (call (.builtin "list.append") [.ref D, x]) (fun _ s₅ => ∃ m, m < k ∧ J m s₅) (notedBy (model F.prog F.w) A F.env fun e s' => R (.error e) s') s₄) (notedBy (model F.prog F.w) A F.env fun e s' => R (.error e) s') s₂)
          (notedBy (model F.prog F.w) A F.env fun e s' => R (.error e) s') s₁') (notedBy (model F.prog F.w) A F.env fun e s' => R (.error e) s') s₁) (notedBy (model F.prog F.w) A F.env fun e s' => R (.error e) s') s' := by
    rintro k s' ⟨i, h, tk, l, ws, os, rfl, rfl, hi, hTi, I, hDl, hden, ⟨r, hr, hout⟩, hos, hsl, hk, htp⟩
    have itl : ∀ x vs, l[x]? = some (.l vs) → adr x ≠ It := fun x vs e => hIt.2.2.1 x vs (hsl x vs e)
    have dl : ∀ x vs, l[x]? = some (.l vs) → adr x ≠ D := fun x vs e => hDo.2.2.1 x vs (hsl x vs e)
    by_cases hlt : i < items.length
    · have hdrop : items.drop i = items[i] :: items.drop (i + 1) := List.drop_eq_getElem_cons hlt
      rw [hdrop] at hr
      simp only [crun] at hr
      split at hr
      · rename_i l₁ el
        split at hr
        · rename_i v₁ dr₁ ev
          split at hr
          · rename_i r₁ er
            cases hr
            refine W.item i _ _ _ hlt hTi fun v h₁ tk₁ hPv hT₁ hk₁ => ?_
            have tp₁ : TP h h₁ := tpIt hTi hk₁
            have hk₁' : ∀ b o, h.get? b = some o → b ≠ It → h₁.get? b = some o := fun b o e hb => hk₁ b o (by simpa using hb) e
            have I₁ := I.but hk₁' tp₁ hIt.1 hIt.2.1 itl
            refine hown _ _ _ _ _ _ hT₁ ?_
            obtain ⟨d, hd1, hd2⟩ := hP i v hPv
            rw [List.getElem?_eq_getElem hlt] at hd1
            cases hd1
            refine Tg.sound (s := { s with heap := h₁, toks := tk₁ }) O X hA.1 tg el I₁ ((hd2.mono htp).mono tp₁) fun s₂ g₂ hk₂ => ?_
            refine E.sound O X hA elt ev g₂.inv fun u s₃ hu g₃ => ?_
            have hk₃ : ∀ b o, s₂.heap.get? b = some o → s₃.heap.get? b = some o := fun b o e => g₃.2.keep b o e fun ⟨t, ht, _⟩ => by rw [hst] at ht; cases ht
            have hkD : ∀ o, h.get? D = some o → s₃.heap.get? D = some o := fun o e => hk₃ _ _ (hk₂ _ _ (hk₁' _ _ e hDo.2.2.2) fun e => hDo.1 (.inl e))
            have hDl₃ := hDl.at hkD
            have tp₃ : TP h s₃.heap := (tp₁.trans g₂.tp).trans (.of_keeps hk₃)
            refine wpAny_list_append_plain hDl₃ (fun h₄ hp₄ hs₄ => ?_) (by rw [List.size_toArray, hden.length, hos]; exact Nat.le_trans (Nat.le_of_lt hlt) (Nat.le_trans hn (by decide)))
            have hp₄' : h₄.PlainList D (ws ++ [u]).toArray := by simpa using hp₄
            obtain ⟨nD, hDo₃⟩ := hDl₃
            have tp₄ : TP s₃.heap h₄ := TP.of_list hDo₃ rfl fun b o hb e => (hs₄.2 b hb).trans e
            have hk₄ : ∀ b o, s₃.heap.get? b = some o → b ≠ D → h₄.get? b = some o := fun b o e hb => (hs₄.2 b hb).trans e
            obtain ⟨h₂, tk₂, e₂, _⟩ := g₂.stp
            obtain ⟨h₃, tk₃, e₃, _⟩ := g₃.2
            subst e₂; subst e₃
            have dr₁e : dr₁ = dr ∨ True := .inr trivial
            have I₃ : Inv F ⟨l₁, dr⟩ adr h₃ := by
              have := g₃.1
              exact ⟨this.base, this.loc, this.cellIs, this.apart, fun t e => by rw [hst] at e; cases e⟩
            refine ⟨items.length + 1 - (i + 1), by omega, i + 1, h₄, _, l₁, ws ++ [u], os ++ [v₁], rfl, rfl, hlt, ?_, ?_, hp₄', ?_, ⟨r₁, er, by rw [hout]; simp⟩, by rw [List.length_append, hos]; rfl, fun x vs e => hsl x vs (Tg.bind_slots el e), fun b o e a1 a2 a3 => ?_, (htp.trans tp₃).trans tp₄⟩
            · refine W.frame _ _ _ hT₁ fun b hb o e => ?_
              exact hk₄ b o (hk₃ b o (hk₂ b o e fun eb => hfp.2 (eb ▸ hb))) fun eb => hfp.1 (eb ▸ hb)
            · exact I₃.but hk₄ tp₄ hDo.1 hDo.2.1 fun x vs e => dl x vs (Tg.bind_slots el e)
            · exact ((hden.mono tp₃).mono tp₄).append (.one (hu.mono tp₄))
            · exact hk₄ b o (hk₃ b o (hk₂ b o (hk₁' b o (hk b o e a1 a2 a3) a1) a3)) a2
          · cases hr
        · cases hr
      · cases hr
    · have hie : i = items.length := by omega
      subst hie
      rw [List.drop_length] at hr
      simp only [crun] at hr
      cases hr
      rw [List.append_nil] at hout
      subst hout
      refine W.done _ _ _ hTi fun h₁ tk₁ hk₁ => ?_
      have tp₁ : TP h h₁ := tpIt hTi hk₁
      have hk₁' : ∀ b o, h.get? b = some o → b ≠ It → h₁.get? b = some o := fun b o e hb => hk₁ b o (by simpa using hb) e
      exact hR h₁ tk₁ ws l (hDl.at fun o e => hk₁' _ _ e hDo.2.2.2) (hden.mono tp₁) (I.but hk₁' tp₁ hIt.1 hIt.2.1 itl) (fun b o e a1 a2 a3 => hk₁' b o (hk b o e a1 a2 a3) a1) (htp.trans tp₁)
  exact compLoop_gen J turn _ hJ0
end
end Mine

namespace Mine
open PySem PySem.W PySem.Calls PyProof.Rows PySem.Spec

/-- the frame of a comprehension -/
def compF (F : FC) (sc : Scope) (cl : List (Str × Addr)) (C : Addr) (nm : List Str) (cell : Option (Nat × Addr)) : FC :=
  { prog := F.prog, w := F.w, env := compEnvC sc cl C F.env, hb := F.hb, nm := nm, st := none, cell := cell }

theorem comp_core {F : FC} {sc : Scope} {cl : List (Str × Addr)} {nm : List Str} {cell : Option (Nat × Addr)} {cf : Cfg} {A : Around} (hA : AOk 2 A) {It : Addr} {fp : List Addr} {P : Nat → Value → Prop} {T : Nat → Heap → Prop} {items outs : List AV} {s : Shared} {adr : Nat → Addr}
    {l₀ : List Slot} {dr : Dr} {tg : Tg} {elt : E} {iter : Expr} {pos : Pos} {RR : Value → Addr → Result → Shared → Prop} {Er : Value → Shared → Prop}
    (hcell : ∀ y ∈ sc.names, y.2 ≠ .cell) (hkind : sc.kind = .function) (hw : cf.wr = [])
    (hO : ∀ C, s.heap.get? C = none → (compF F sc cl C nm cell).Ok) (hX : ∀ C, Ext (compF F sc cl C nm cell) cf)
    (hI : ∀ C h' m, s.heap.get? C = none → h'.Ns C m → (∀ b o, s.heap.get? b = some o → h'.get? b = some o) → Inv (compF F sc cl C nm cell) ⟨l₀, dr⟩ adr h')
    (hbk : ∀ b o, F.hb.get? b = some o → s.heap.get? b = some o) (hcl : ∀ x c, cell = some (x, c) → ∃ o, s.heap.get? c = some o)
    (W : Walks F.prog F.w A It fp [It] items.length P T) (hP : ∀ i v, P i v → ∃ d, items[i]? = some d ∧ Den s.heap v d) (hrun : crun cf tg elt dr items l₀ = some outs) (hT : T 0 s.heap)
    (hIt : (∀ x c, cell = some (x, c) → It ≠ c) ∧ F.hb.get? It = none ∧ (∀ x vs, l₀[x]? = some (.l vs) → adr x ≠ It)) (hIo : ∃ o, s.heap.get? It = some o) (hfp : ∀ b ∈ fp, ∃ o, s.heap.get? b = some o) (hadr : ∀ x vs, l₀[x]? = some (.l vs) → ∃ o, s.heap.get? (adr x) = some o)
    (hItP : ∀ (i : Nat) (h : Heap), T i h → ∀ o, h.get? It = some o → o.cls ≠ .type "tuple") (hn : items.length ≤ 1000000) (hown : ∀ (tgE : Expr) (i : Nat) (s' : Shared) (v : Value) (Q : Unit → Shared → Prop) (Er : Value → Shared → Prop), T i s'.heap → Q () s' → wpAny (model F.prog F.w) A (letOwnedTupleGo tgE (.ref It) v) Q Er s')
    (hRR : ∀ D C h' tk m' ws, s.heap.get? D = none → s.heap.get? C = none → D ≠ C → h'.Ns C m' → h'.PlainList D ws.toArray → Dens h' ws outs → (∀ b o, b ≠ It → s.heap.get? b = some o → h'.get? b = some o) → TP s.heap h' → RR (.ref D) C (.ok .next) { s with heap := h', toks := tk }) :
    wpAny (model F.prog F.w) A (newList []) (fun acc s₃ => wpAny (model F.prog F.w) A (newFunctionEnv sc F.env.globals cl [] F.env.qual none .none (some F.env)) (fun cenv s₄ =>
      codeAny (model F.prog F.w) A (.compStart (.ListComp (elt.tr nm) [⟨tg.tr nm, iter, [], 0⟩] sc pos) 0 (.ref It) acc { cenv with scope := relabel sc F.env }) (RR acc cenv.locals) s₄) Er s₃) Er s := by
  refine wpAny_newObj_type (wpAny_newFunctionEnv hcell (by intro y hy; simp at hy) (fun h₁ hns₁ hsb₁ => ?_) hkind)
  dsimp only at hns₁ hsb₁ ⊢
  generalize hH2 : s.heap.push { cls := .type "list", dict := none, data := .seq ([] : List Value).toArray } = H2 at hns₁ hsb₁ ⊢
  have hC : H2.objs.size = s.heap.objs.size + 1 := by rw [← hH2, Heap.size_push]
  have nD : ∀ {b : Addr}, (∃ o, s.heap.get? b = some o) → b ≠ s.heap.objs.size := fun ⟨o, e⟩ => lt_none e
  have nC : ∀ {b : Addr}, (∃ o, s.heap.get? b = some o) → b ≠ H2.objs.size := fun ⟨o, e⟩ eb => absurd (Heap.lt_size e) (by rw [eb, hC]; exact Nat.not_lt.mpr (Nat.le_succ _))
  have hDC : s.heap.objs.size ≠ H2.objs.size := by rw [hC]; exact Nat.ne_of_lt (Nat.lt_succ_self _)
  have keep1 : ∀ b o, H2.get? b = some o → h₁.get? b = some o := fun b o e => hsb₁.extBut b o (Nat.ne_of_lt (Heap.lt_size e)) (Heap.get?_push_of_some _ e)
  have keep0 : ∀ b o, s.heap.get? b = some o → h₁.get? b = some o := fun b o e => keep1 b o (by rw [← hH2]; exact Heap.get?_push_of_some _ e)
  have hDl : h₁.PlainList s.heap.objs.size #[] := ⟨0, keep1 _ _ (by rw [← hH2]; exact Heap.get?_push_size _ rfl)⟩
  have none1 : s.heap.get? H2.objs.size = none := by
    cases q : s.heap.get? H2.objs.size with
    | none => rfl
    | some o => exact absurd rfl (nC ⟨o, q⟩)
  have none0 : s.heap.get? s.heap.objs.size = none := by
    cases q : s.heap.get? s.heap.objs.size with
    | none => rfl
    | some o => exact absurd rfl (nD ⟨o, q⟩)
  have O₂ := hO _ none1
  have hT₁ : T 0 h₁ := W.frame _ _ _ hT fun b _ o e => keep0 b o e
  have loop : ∀ R : Result → Shared → Prop, (∀ h' tk ws l', h'.PlainList s.heap.objs.size ws.toArray → Dens h' ws outs → Inv (compF F sc cl H2.objs.size nm cell) ⟨l', dr⟩ adr h' → (∀ b o, h₁.get? b = some o → b ≠ It → b ≠ s.heap.objs.size → b ≠ H2.objs.size → h'.get? b = some o) → TP h₁ h' → R (.ok .next) { s with heap := h', toks := tk }) →
      codeAny (model F.prog F.w) A (.compLoop (.ListComp (elt.tr nm) [⟨tg.tr nm, iter, [], 0⟩] sc pos) 0 (.ref It) (.ref s.heap.objs.size) (compEnvC sc cl H2.objs.size F.env)) R { s with heap := h₁, toks := s.toks + ([] : List (Str × Value)).length } := by
    intro R hR
    refine comp_code (F := compF F sc cl H2.objs.size nm cell) (s := { s with heap := h₁, toks := s.toks + ([] : List (Str × Value)).length }) O₂ (hX _) hw rfl hA (adr := adr) (l₀ := l₀) (dr := dr) W (fun i v hv => let ⟨d, h1, h2⟩ := hP i v hv; ⟨d, h1, h2.mono (.of_keeps keep0)⟩) hrun (hI _ _ _ none1 hns₁ keep0) hT₁ hDl ⟨?_, hIt.2.1, hIt.2.2, hItP _ _ hT₁⟩ ⟨?_, ?_, fun x vs e => nD (hadr x vs e), fun e => nD hIo e.symm⟩ ⟨fun h => nD (hfp _ h) rfl, fun h => nC (hfp _ h) rfl⟩ hItP hn hown ?_
    · rintro (h | ⟨x, h⟩ | ⟨t, h, _⟩)
      · exact nC hIo h
      · exact hIt.1 x It h rfl
      · cases h
    · rintro (h | ⟨x, h⟩ | ⟨t, h, _⟩)
      · exact hDC h
      · exact nD (hcl x _ h) rfl
      · cases h
    · show F.hb.get? s.heap.objs.size = none
      cases q : F.hb.get? s.heap.objs.size with
      | none => rfl
      | some o => exact absurd rfl (nD ⟨o, hbk _ _ q⟩)
    · intro h' tk ws l' a1 a2 a3 a4 a5
      exact hR h' tk ws l' a1 a2 a3 a4 a5
  have fin : ∀ h' tk ws l', h'.PlainList s.heap.objs.size ws.toArray → Dens h' ws outs → Inv (compF F sc cl H2.objs.size nm cell) ⟨l', dr⟩ adr h' → (∀ b o, h₁.get? b = some o → b ≠ It → b ≠ s.heap.objs.size → b ≠ H2.objs.size → h'.get? b = some o) → TP h₁ h' → RR (.ref s.heap.objs.size) H2.objs.size (.ok .next) { s with heap := h', toks := tk } := by
    intro h' tk ws l' a1 a2 a3 a4 a5
    obtain ⟨m', hn', _⟩ := a3.loc
    exact hRR _ _ h' tk m' ws none0 none1 hDC hn' a1 a2 (fun b o hb e => a4 b o (keep0 b o e) hb (nD ⟨o, e⟩) (nC ⟨o, e⟩)) ((TP.of_keeps keep0).trans a5)
  exact codeAny_compStart_list (loop _ fin) (W.self 0 _ _ _ hT₁ (loop _ fin))
end Mine

namespace Mine
open PySem PySem.W PySem.Calls PyProof.Rows PySem.Spec

section
variable {F : FC}

/-- the frame as its caller sees it -/
structure Fx (F : FC) (s₀ s : Shared) (adr : Nat → Addr) : Prop where
  shape : ∃ h tk, s = { s₀ with heap := h, toks := tk }
  keep : ∀ b o, s₀.heap.get? b = some o → ¬ F.W0 b → s.heap.get? b = some o
  ex : ∀ b o, s₀.heap.get? b = some o → ∃ o', s.heap.get? b = some o'
  tp : TP s₀.heap s.heap
  adr : ∀ x, s₀.heap.get? (adr x) = none
  loc : s₀.heap.get? F.env.locals = none
  cell : ∀ x c, F.cell = some (x, c) → s₀.heap.get? c = none

theorem Fx.step {s₀ s s' : Shared} {adr adr' : Nat → Addr} {wr : List Nat} {σ' : St} (x : Fx F s₀ s adr) (g : GoodS F wr adr adr' σ' s s') : Fx F s₀ s' adr' where
  shape := by
    obtain ⟨h, tk, e⟩ := x.shape
    obtain ⟨h', tk', e', _⟩ := g.stp
    exact ⟨h', tk', by rw [e', e]⟩
  keep := fun b o e hw => g.stp.keep b o (x.keep b o e hw) (by
    rintro (h | ⟨y, h⟩ | h | ⟨y, _, h⟩)
    · rw [h, x.loc] at e; cases e
    · rw [x.cell y b h] at e; cases e
    · exact hw h
    · rw [h, x.adr y] at e; cases e)
  ex := fun b o e => let ⟨o', e'⟩ := x.ex b o e; g.ex b o' e'
  tp := x.tp.trans g.tp
  adr := fun y => by
    rcases g.adr y with h | ⟨_, h⟩
    · rw [h]; exact x.adr y
    · cases q : s₀.heap.get? (adr' y) with
      | none => rfl
      | some o =>
        obtain ⟨o', e'⟩ := x.ex _ o q
        rw [h] at e'; cases e'
  loc := x.loc
  cell := x.cell

theorem Fx.but {s₀ s : Shared} {adr : Nat → Addr} {h' : Heap} {tk : Nat} {Z : Addr} (x : Fx F s₀ s adr) (hk : ∀ b o, s.heap.get? b = some o → b ≠ Z → h'.get? b = some o) (tp : TP s.heap h') (hz : s₀.heap.get? Z = none) : Fx F s₀ { s with heap := h', toks := tk } adr where
  shape := by
    obtain ⟨h, tk', e⟩ := x.shape
    exact ⟨h', tk, by rw [e]⟩
  keep := fun b o e hw => hk b o (x.keep b o e hw) fun eb => by rw [eb, hz] at e; cases e
  ex := fun b o e => let ⟨o', e'⟩ := x.ex b o e; ⟨o', hk b o' e' fun eb => by rw [eb, hz] at e; cases e⟩
  tp := x.tp.trans tp
  adr := x.adr
  loc := x.loc
  cell := x.cell

/-- a foreign iterator beside the frame -/
structure Aside (F : FC) (adr : Nat → Addr) (It : Addr) : Prop where
  own : ¬ F.own It
  base : F.hb.get? It = none
  adr : ∀ x, adr x ≠ It

theorem Aside.w1 {adr : Nat → Addr} {It : Addr} (a : Aside F adr It) {wr : List Nat} : ¬ F.W1 adr wr It := by
  rintro (h | ⟨x, h⟩ | ⟨t, h, e⟩ | ⟨x, _, h⟩)
  · exact a.own (.inl h)
  · exact a.own (.inr (.inl ⟨x, h⟩))
  · exact a.own (.inr (.inr ⟨t, h, .inl e⟩))
  · exact a.adr x h.symm
theorem Aside.step {adr adr' : Nat → Addr} {It : Addr} (a : Aside F adr It) {wr : List Nat} {σ' : St} {s s' : Shared} (g : GoodS F wr adr adr' σ' s s') (hi : ∃ o, s.heap.get? It = some o) : Aside F adr' It where
  own := a.own
  base := a.base
  adr := fun x e => by
    rcases g.adr x with h | ⟨_, h⟩
    · exact a.adr x (h ▸ e)
    · obtain ⟨o, ho⟩ := hi
      rw [e, ho] at h; cases h

def rloop (cf : Cfg) (x : Nat) (body : SL) (k : Nat) : List Int → St → Option St
  | [], σ => some σ
  | i :: is, σ => if canV cf σ.loc x = true then (match body.ex cf k ⟨σ.loc.set x (.v (.int i)), σ.dr⟩ with
    | some (_, σ') => rloop cf x body k is σ'
    | none => none) else none

theorem range_loop (O : F.Ok) {cf : Cfg} (X : Ext F cf) {A : Around} (hA : AOk 2 A) {x : Nat} {xp : Pos} {body : SL} {k n : Nat} {s₀ : Shared} {σ' : St} {It : Addr} {R : Result → Shared → Prop}
    (h₀ : s₀.heap.get? It = none) (hR : ∀ adr' s', Inv F σ' adr' s'.heap → Fx F s₀ s' adr' → (∀ y, y ∉ cf.wr → True) → R (.ok .next) s')
    {s : Shared} {σ : St} {adr : Nat → Addr} (I : Inv F σ adr s.heap) (f : Fx F s₀ s adr) (a : Aside F adr It) (hit : IsRangeIter s.heap It 0 n 1)
    (hrun : rloop cf x body k ((List.range n).map fun i : Nat => (i : Int)) σ = some σ') :
    codeAny (model F.prog F.w) A (.forLoop (.Name (nmAt F.nm x) xp) (.ref It) (body.tr F.nm) [] F.env) R s := by
  have W := Walks.range (prog := F.prog) (w := F.w) (A := A) hA.1 It 0 1 n
  refine codeAny_forLoop (fun k' s' => ∃ (i : Nat) (σ₁ : St) (adr₁ : Nat → Addr), k' = n - i ∧ i ≤ n ∧ IsRangeIter s'.heap It (0 + (i : Nat) * 1) ((n : Int) - (i : Nat)) 1 ∧ rloop cf x body k (((List.range n).drop i).map fun i : Nat => (i : Int)) σ₁ = some σ' ∧
    Inv F σ₁ adr₁ s'.heap ∧ Fx F s₀ s' adr₁ ∧ Aside F adr₁ It) ?_ n ⟨0, σ, adr, rfl, Nat.zero_le _, by simpa using hit, hrun, I, f, a⟩
  rintro k' s₁ ⟨i, σ₁, adr₁, rfl, hi, hit₁, hr, I₁, f₁, a₁⟩
  have hItP : ∀ {h : Heap} {u v c : Int}, IsRangeIter h It u v c → ∀ o, h.get? It = some o → o.cls ≠ .type "tuple" := by
    intro h u v c hi o e hc
    have hi' : h.get? It = some _ := hi
    rw [hi'] at e
    cases e
    exact absurd (Value.type.inj hc) (by decide)
  have tpIt : ∀ {h h' : Heap} {u v c : Int}, IsRangeIter h It u v c → (∀ b o, b ∉ [It] → h.get? b = some o → h'.get? b = some o) → TP h h' := fun t k b o e hc _ => k b o (by
    intro hm
    have : b = It := by simpa using hm
    subst this
    exact hItP t o e hc) e
  by_cases hlt : i < n
  · have hdrop : (List.range n).drop i = i :: (List.range n).drop (i + 1) := range_drop hlt
    rw [hdrop, List.map_cons] at hr
    simp only [rloop] at hr
    split at hr
    · rename_i hc
      split at hr
      · rename_i fl σ₂ eb
        refine W.item i s₁ _ _ hlt hit₁ fun v h₂ tk₂ hv hit₂ hk₂ => ?_
        obtain ⟨tk, rfl⟩ := hv
        have hk₂' : ∀ b o, s₁.heap.get? b = some o → b ≠ It → h₂.get? b = some o := fun b o e hb => hk₂ b o (by simpa using hb) e
        have tp₂ := tpIt hit₁ hk₂
        obtain ⟨l₁, d₁⟩ := σ₁
        have I₂ := I₁.but hk₂' tp₂ a₁.own a₁.base fun y vs _ => a₁.adr y
        have f₂ : Fx F s₀ { s₁ with heap := h₂, toks := tk₂ } adr₁ := f₁.but hk₂' tp₂ h₀
        have e0 : (0 : Int) + (i : Int) * 1 = (i : Int) := by omega
        refine tr_assign1 (s := { s₁ with heap := h₂, toks := tk₂ }) O X hc I₂ (by rw [e0]; exact .int _ _) fun s₃ g₃ hk₃ => ?_
        have hItx : ∀ {sA sB : Shared} {adrA adrB : Nat → Addr} {σB : St}, GoodS F cf.wr adrA adrB σB sA sB → Aside F adrA It → ∀ {u v c}, IsRangeIter sA.heap It u v c → IsRangeIter sB.heap It u v c := by
          intro sA sB adrA adrB σB g a u v c hi
          exact g.stp.keep _ _ hi a.w1
        have hit₃ := hItx g₃ a₁ hit₂
        have a₃ := a₁.step g₃ ⟨_, hit₂⟩
        refine (ex_sound O X hA k).2 body _ _ _ eb adr₁ s₃ _ _ g₃.inv fun adr₄ s₄ g₄ => ?_
        have hit₄ := hItx g₄ a₃ hit₃
        have a₄ := a₃.step g₄ ⟨_, hit₃⟩
        have done : ∃ m, m < n - i ∧ ∃ (i : Nat) (σ₁ : St) (adr₁ : Nat → Addr), m = n - i ∧ i ≤ n ∧ IsRangeIter s₄.heap It (0 + (i : Nat) * 1) ((n : Int) - (i : Nat)) 1 ∧ rloop cf x body k (((List.range n).drop i).map fun i : Nat => (i : Int)) σ₁ = some σ' ∧
          Inv F σ₁ adr₁ s₄.heap ∧ Fx F s₀ s₄ adr₁ ∧ Aside F adr₁ It :=
          ⟨n - (i + 1), by omega, i + 1, σ₂, adr₄, rfl, hlt, hit₄, hr, g₄.inv, (f₂.step g₃).step g₄, a₄⟩
        cases fl <;> exact done
      · cases hr
    · cases hr
  · have hie : i = n := by omega
    subst hie
    rw [List.drop_eq_nil_of_le (by simp)] at hr
    simp only [List.map_nil, rloop] at hr
    cases hr
    refine W.done s₁ _ _ hit₁ fun h₂ tk₂ hk₂ => wpAny_execs_nil ?_
    have hk₂' : ∀ b o, s₁.heap.get? b = some o → b ≠ It → h₂.get? b = some o := fun b o e hb => hk₂ b o (by simpa using hb) e
    have tp₂ := tpIt hit₁ hk₂
    exact hR adr₁ _ (I₁.but hk₂' tp₂ a₁.own a₁.base fun y vs _ => a₁.adr y) (f₁.but hk₂' tp₂ h₀) fun _ _ => trivial
end
end Mine

namespace Mine
open PySem PySem.W PySem.Calls PyProof.Rows PySem.Spec

/- the mini bodies of _law_pieces and law, printed by Tool3 -/
def bodyP : SL := (.cons (.whl (.and (.cons (.e (.cmp .Lt (.len (.name 2 ⟨81, 18, 81, 22⟩) ⟨81, 14, 81, 17⟩ ⟨81, 14, 81, 23⟩) (.int 2 0 ⟨81, 26, 81, 27⟩) ⟨81, 14, 81, 27⟩)) (.cons (.e (.cmp .Eq (.next 0 3 0 ⟨81, 49, 81, 50⟩ ⟨81, 42, 81, 47⟩ ⟨81, 32, 81, 41⟩ ⟨81, 32, 81, 51⟩) (.int 0 0 ⟨81, 55, 81, 56⟩) ⟨81, 32, 81, 56⟩)) .nil)) ⟨81, 14, 81, 56⟩) (.cons (.asg 4 ⟨82, 12, 82, 13⟩ (.next 0 3 0 ⟨82, 33, 82, 34⟩ ⟨82, 26, 82, 31⟩ ⟨82, 16, 82, 25⟩ ⟨82, 16, 82, 35⟩) ⟨82, 12, 82, 35⟩)
  (.cons (.cat2 1 2 ⟨83, 12, 83, 18⟩ ⟨83, 20, 83, 24⟩ ⟨83, 12, 83, 24⟩ 0 (.cons (.tup (.cons (.int 54 0 ⟨83, 39, 83, 41⟩) (.cons (.get (.str ("([{" : Str) 0 ⟨83, 43, 83, 48⟩) (.name 4 ⟨83, 49, 83, 50⟩) ⟨83, 43, 83, 51⟩) (.cons (.str ("open" : Str) 0 ⟨83, 53, 83, 59⟩) .nil))) 0 ⟨83, 38, 83, 60⟩) .nil) ⟨83, 37, 83, 61⟩ ⟨83, 28, 83, 34⟩ ⟨83, 28, 83, 61⟩ (.bin .Add (.get (.str (")]}" : Str) 0 ⟨83, 63, 83, 68⟩) (.name 4 ⟨83, 69, 83, 70⟩) ⟨83, 63, 83, 71⟩) (.name 2 ⟨83, 74, 83, 78⟩) ⟨83, 63, 83, 78⟩) 0 ⟨83, 27, 83, 79⟩ ⟨83, 12, 83, 79⟩)
  .nil)) ⟨81, 8, 83, 79⟩)
  (.cons (.ifs (.and (.cons (.e (.cmp .In (.get (.lget 1 ⟨84, 11, 84, 17⟩ (.neg (.int 1 0 ⟨84, 19, 84, 20⟩) ⟨84, 18, 84, 20⟩) ⟨84, 11, 84, 21⟩) (.int 2 0 ⟨84, 22, 84, 23⟩) ⟨84, 11, 84, 24⟩) (.tup (.cons (.str ("open" : Str) 0 ⟨84, 29, 84, 35⟩) (.cons (.str ("comma" : Str) 0 ⟨84, 37, 84, 44⟩) (.cons (.str ("operator" : Str) 0 ⟨84, 46, 84, 56⟩) .nil))) 0 ⟨84, 28, 84, 57⟩) ⟨84, 11, 84, 57⟩)) (.cons (.e (.cmp .Eq (.next 0 4 0 ⟨84, 79, 84, 80⟩ ⟨84, 72, 84, 77⟩ ⟨84, 62, 84, 71⟩ ⟨84, 62, 84, 81⟩) (.int 0 0 ⟨84, 85, 84, 86⟩) ⟨84, 62, 84, 86⟩)) .nil)) ⟨84, 11, 84, 86⟩) (.cons (.app 1 ⟨85, 12, 85, 18⟩ ⟨85, 12, 85, 25⟩ (.tup (.cons (.int 54 0 ⟨85, 27, 85, 29⟩) (.cons (.menu (.cons (.str ("-" : Str) 0 ⟨85, 32, 85, 35⟩) (.cons (.str ("+" : Str) 0 ⟨85, 37, 85, 40⟩) .nil)) ⟨85, 31, 85, 41⟩ (.next 0 2 0 ⟨85, 59, 85, 60⟩ ⟨85, 52, 85, 57⟩ ⟨85, 42, 85, 51⟩ ⟨85, 42, 85, 61⟩) ⟨85, 31, 85, 62⟩) (.cons (.str ("sign" : Str) 0 ⟨85, 64, 85, 70⟩) .nil))) 0 ⟨85, 26, 85, 71⟩) ⟨85, 12, 85, 72⟩ ⟨85, 12, 85, 72⟩)
  .nil) .nil ⟨84, 8, 85, 72⟩)
  (.cons (.app 1 ⟨86, 8, 86, 14⟩ ⟨86, 8, 86, 21⟩ (.menu (.cons (.tup (.cons (.int 1 0 ⟨86, 24, 86, 25⟩) (.cons (.str ("ab" : Str) 0 ⟨86, 27, 86, 31⟩) (.cons (.str ("operand" : Str) 0 ⟨86, 33, 86, 42⟩) .nil))) 0 ⟨86, 23, 86, 43⟩) (.cons (.tup (.cons (.int 2 0 ⟨86, 46, 86, 47⟩) (.cons (.str ("10" : Str) 0 ⟨86, 49, 86, 53⟩) (.cons (.str ("operand" : Str) 0 ⟨86, 55, 86, 64⟩) .nil))) 0 ⟨86, 45, 86, 65⟩) (.cons (.tup (.cons (.int 3 0 ⟨86, 68, 86, 69⟩) (.cons (.str ("'it'" : Str) 0 ⟨86, 71, 86, 77⟩) (.cons (.str ("operand" : Str) 0 ⟨86, 79, 86, 88⟩) .nil))) 0 ⟨86, 67, 86, 89⟩) .nil))) ⟨86, 22, 86, 90⟩ (.next 0 3 0 ⟨86, 108, 86, 109⟩ ⟨86, 101, 86, 106⟩ ⟨86, 91, 86, 100⟩ ⟨86, 91, 86, 110⟩) ⟨86, 22, 86, 111⟩) ⟨86, 8, 86, 112⟩ ⟨86, 8, 86, 112⟩)
  (.cons (.whl (.and (.cons (.e (.cmp .NotEq (.name 2 ⟨87, 14, 87, 18⟩) (.str ("" : Str) 0 ⟨87, 22, 87, 24⟩) ⟨87, 14, 87, 24⟩)) (.cons (.e (.cmp .Eq (.next 0 3 0 ⟨87, 46, 87, 47⟩ ⟨87, 39, 87, 44⟩ ⟨87, 29, 87, 38⟩ ⟨87, 29, 87, 48⟩) (.int 0 0 ⟨87, 52, 87, 53⟩) ⟨87, 29, 87, 53⟩)) .nil)) ⟨87, 14, 87, 53⟩) (.cons (.cat2 1 2 ⟨88, 12, 88, 18⟩ ⟨88, 20, 88, 24⟩ ⟨88, 12, 88, 24⟩ 0 (.cons (.tup (.cons (.int 54 0 ⟨88, 39, 88, 41⟩) (.cons (.get (.name 2 ⟨88, 43, 88, 47⟩) (.int 0 0 ⟨88, 48, 88, 49⟩) ⟨88, 43, 88, 50⟩) (.cons (.str ("close" : Str) 0 ⟨88, 52, 88, 59⟩) .nil))) 0 ⟨88, 38, 88, 60⟩) .nil) ⟨88, 37, 88, 61⟩ ⟨88, 28, 88, 34⟩ ⟨88, 28, 88, 61⟩ (.tail (.name 2 ⟨88, 63, 88, 67⟩) 1 0 ⟨88, 68, 88, 69⟩ ⟨88, 68, 88, 70⟩ ⟨88, 63, 88, 71⟩) 0 ⟨88, 27, 88, 72⟩ ⟨88, 12, 88, 72⟩)
  .nil) ⟨87, 8, 88, 72⟩)
  (.cons (.asg 5 ⟨89, 8, 89, 12⟩ (.menu (.cons (.str ("+" : Str) 0 ⟨89, 16, 89, 19⟩) (.cons (.str ("," : Str) 0 ⟨89, 21, 89, 24⟩) (.cons (.str ("and" : Str) 0 ⟨89, 26, 89, 31⟩) (.cons (.str ("%" : Str) 0 ⟨89, 33, 89, 36⟩) (.cons (.str ("==" : Str) 0 ⟨89, 38, 89, 42⟩) (.cons (.str ("or" : Str) 0 ⟨89, 44, 89, 48⟩) (.cons (.str ("." : Str) 0 ⟨89, 50, 89, 53⟩) (.cons (.str ("//" : Str) 0 ⟨89, 55, 89, 59⟩) (.cons (.str ("," : Str) 0 ⟨89, 61, 89, 64⟩) (.cons (.str ("in" : Str) 0 ⟨89, 66, 89, 70⟩) .nil)))))))))) ⟨89, 15, 89, 71⟩ (.next 0 10 0 ⟨89, 89, 89, 91⟩ ⟨89, 82, 89, 87⟩ ⟨89, 72, 89, 81⟩ ⟨89, 72, 89, 92⟩) ⟨89, 15, 89, 93⟩) ⟨89, 8, 89, 93⟩)
  (.cons (.asg 6 ⟨90, 8, 90, 12⟩ (.ite (.e (.cmp .Eq (.name 5 ⟨90, 26, 90, 30⟩) (.str ("," : Str) 0 ⟨90, 34, 90, 37⟩) ⟨90, 26, 90, 37⟩)) (.str ("comma" : Str) 0 ⟨90, 15, 90, 22⟩) (.ite (.e (.cmp .In (.name 5 ⟨90, 54, 90, 58⟩) (.tup (.cons (.str ("%" : Str) 0 ⟨90, 63, 90, 66⟩) (.cons (.str ("." : Str) 0 ⟨90, 68, 90, 71⟩) (.cons (.str ("in" : Str) 0 ⟨90, 73, 90, 77⟩) .nil))) 0 ⟨90, 62, 90, 78⟩) ⟨90, 54, 90, 78⟩)) (.str ("plain" : Str) 0 ⟨90, 43, 90, 50⟩) (.str ("operator" : Str) 0 ⟨90, 84, 90, 94⟩) ⟨90, 43, 90, 94⟩) ⟨90, 15, 90, 94⟩) ⟨90, 8, 90, 94⟩)
  (.cons (.app 1 ⟨91, 8, 91, 14⟩ ⟨91, 8, 91, 21⟩ (.tup (.cons (.ite (.e (.cmp .In (.name 5 ⟨91, 28, 91, 32⟩) (.tup (.cons (.str ("and" : Str) 0 ⟨91, 37, 91, 42⟩) (.cons (.str ("or" : Str) 0 ⟨91, 44, 91, 48⟩) (.cons (.str ("in" : Str) 0 ⟨91, 50, 91, 54⟩) .nil))) 0 ⟨91, 36, 91, 55⟩) ⟨91, 28, 91, 55⟩)) (.int 1 0 ⟨91, 23, 91, 24⟩) (.int 54 0 ⟨91, 61, 91, 63⟩) ⟨91, 23, 91, 63⟩) (.cons (.name 5 ⟨91, 65, 91, 69⟩) (.cons (.name 6 ⟨91, 71, 91, 75⟩) .nil))) 0 ⟨91, 22, 91, 76⟩) ⟨91, 8, 91, 77⟩ ⟨91, 8, 91, 77⟩)
  .nil)))))))
def bodyL : SL := (.cons (.asgN2 14 15 ⟨99, 8, 99, 11⟩ ⟨99, 13, 99, 19⟩ ⟨99, 8, 99, 19⟩ 0 1 5 0 ⟨99, 40, 99, 41⟩ ⟨99, 33, 99, 38⟩ ⟨99, 23, 99, 32⟩ ⟨99, 23, 99, 42⟩ (.ite (.e (.cmp .Gt (.name 10 ⟨99, 64, 99, 65⟩) (.int 0 0 ⟨99, 68, 99, 69⟩) ⟨99, 64, 99, 69⟩)) (.get (.lget 9 ⟨99, 44, 99, 50⟩ (.bin .Sub (.name 10 ⟨99, 51, 99, 52⟩) (.int 1 0 ⟨99, 55, 99, 56⟩) ⟨99, 51, 99, 56⟩) ⟨99, 44, 99, 57⟩) (.int 2 0 ⟨99, 58, 99, 59⟩) ⟨99, 44, 99, 60⟩) (.str ("sign" : Str) 0 ⟨99, 75, 99, 81⟩) ⟨99, 44, 99, 81⟩) 0 ⟨99, 22, 99, 82⟩ ⟨99, 8, 99, 82⟩)
  (.cons (.ifs (.and (.cons (.e (.cmp .NotEq (.name 15 ⟨100, 11, 100, 17⟩) (.str ("sign" : Str) 0 ⟨100, 21, 100, 27⟩) ⟨100, 11, 100, 27⟩)) (.cons (.e (.cmp .Lt (.name 14 ⟨100, 32, 100, 35⟩) (.int 2 0 ⟨100, 38, 100, 39⟩) ⟨100, 32, 100, 39⟩)) (.cons (.e (.cmp .Lt (.llen 3 ⟨100, 49, 100, 54⟩ ⟨100, 45, 100, 48⟩ ⟨100, 45, 100, 55⟩) (.int 5 0 ⟨100, 58, 100, 59⟩) ⟨100, 45, 100, 59⟩)) (.cons (.or (.cons (.e (.cmp .Eq (.name 14 ⟨100, 66, 100, 69⟩) (.int 1 0 ⟨100, 73, 100, 74⟩) ⟨100, 66, 100, 74⟩)) (.cons (.e (.cmp .Gt (.name 5 ⟨100, 78, 100, 83⟩) (.int 0 0 ⟨100, 86, 100, 87⟩) ⟨100, 78, 100, 87⟩)) .nil)) ⟨100, 66, 100, 87⟩) .nil)))) ⟨100, 11, 100, 88⟩) (.cons (.ifs (.e (.cmp .Eq (.name 14 ⟨101, 15, 101, 18⟩) (.int 1 0 ⟨101, 22, 101, 23⟩) ⟨101, 15, 101, 23⟩)) (.cons (.ifs (.e (.cmp .Gt (.name 5 ⟨102, 19, 102, 24⟩) (.int 0 0 ⟨102, 27, 102, 28⟩) ⟨102, 19, 102, 28⟩)) (.cons (.app 8 ⟨103, 20, 103, 25⟩ ⟨103, 20, 103, 32⟩ (.tup (.cons (.tup (.cons (.bin .Add (.llen 3 ⟨103, 39, 103, 44⟩ ⟨103, 35, 103, 38⟩ ⟨103, 35, 103, 45⟩) (.int 1 0 ⟨103, 48, 103, 49⟩) ⟨103, 35, 103, 49⟩) (.cons (.bin .Add (.len (.name 4 ⟨103, 55, 103, 59⟩) ⟨103, 51, 103, 54⟩ ⟨103, 51, 103, 60⟩) (.int 1 0 ⟨103, 63, 103, 64⟩) ⟨103, 51, 103, 64⟩) .nil)) 0 ⟨103, 34, 103, 65⟩) (.cons (.str ("E502 the backslash is redundant between brackets" : Str) 0 ⟨103, 67, 103, 117⟩) .nil)) 0 ⟨103, 33, 103, 118⟩) ⟨103, 20, 103, 119⟩ ⟨103, 20, 103, 119⟩)
  .nil) .nil ⟨102, 16, 103, 119⟩)
  (.cons (.cat 3 ⟨104, 16, 104, 21⟩ (.cons (.bin .Add (.name 4 ⟨104, 33, 104, 37⟩) (.str (" \\\n" : Str) 0 ⟨104, 40, 104, 47⟩) ⟨104, 33, 104, 47⟩) .nil) ⟨104, 32, 104, 48⟩ ⟨104, 24, 104, 29⟩ ⟨104, 24, 104, 48⟩ ⟨104, 16, 104, 48⟩)
  .nil)) (.cons (.ifs (.e (.cmp .Eq (.next 1 3 0 ⟨106, 36, 106, 37⟩ ⟨106, 29, 106, 34⟩ ⟨106, 19, 106, 28⟩ ⟨106, 19, 106, 38⟩) (.int 0 0 ⟨106, 42, 106, 43⟩) ⟨106, 19, 106, 43⟩)) (.cons (.app 2 ⟨107, 20, 107, 25⟩ ⟨107, 20, 107, 32⟩ (.tup (.cons (.int 61 0 ⟨107, 34, 107, 36⟩) (.cons (.str ("# \\" : Str) 0 ⟨107, 38, 107, 44⟩) (.cons (.llen 3 ⟨107, 50, 107, 55⟩ ⟨107, 46, 107, 49⟩ ⟨107, 46, 107, 56⟩) (.cons (.bin .Add (.len (.name 4 ⟨107, 62, 107, 66⟩) ⟨107, 58, 107, 61⟩ ⟨107, 58, 107, 67⟩) (.int 2 0 ⟨107, 70, 107, 71⟩) ⟨107, 58, 107, 71⟩) .nil)))) 0 ⟨107, 33, 107, 72⟩) ⟨107, 20, 107, 73⟩ ⟨107, 20, 107, 73⟩)
  (.cons (.asg 4 ⟨108, 20, 108, 24⟩ (.bin .Add (.name 4 ⟨108, 27, 108, 31⟩) (.str ("  # \\" : Str) 0 ⟨108, 34, 108, 42⟩) ⟨108, 27, 108, 42⟩) ⟨108, 20, 108, 42⟩)
  .nil)) .nil ⟨106, 16, 108, 42⟩)
  (.cons (.app 2 ⟨109, 16, 109, 21⟩ ⟨109, 16, 109, 28⟩ (.tup (.cons (.int 62 0 ⟨109, 30, 109, 32⟩) (.cons (.str ("\n" : Str) 0 ⟨109, 34, 109, 38⟩) (.cons (.llen 3 ⟨109, 44, 109, 49⟩ ⟨109, 40, 109, 43⟩ ⟨109, 40, 109, 50⟩) (.cons (.len (.name 4 ⟨109, 56, 109, 60⟩) ⟨109, 52, 109, 55⟩ ⟨109, 52, 109, 61⟩) .nil)))) 0 ⟨109, 29, 109, 62⟩) ⟨109, 16, 109, 63⟩ ⟨109, 16, 109, 63⟩)
  (.cons (.cat 3 ⟨110, 16, 110, 21⟩ (.cons (.bin .Add (.name 4 ⟨110, 33, 110, 37⟩) (.str ("\n" : Str) 0 ⟨110, 40, 110, 44⟩) ⟨110, 33, 110, 44⟩) .nil) ⟨110, 32, 110, 45⟩ ⟨110, 24, 110, 29⟩ ⟨110, 24, 110, 45⟩ ⟨110, 16, 110, 45⟩)
  (.cons (.ifs (.and (.cons (.e (.cmp .Eq (.name 13 ⟨111, 19, 111, 23⟩) (.str ("operator" : Str) 0 ⟨111, 27, 111, 37⟩) ⟨111, 19, 111, 37⟩)) (.cons (.e (.cmp .In (.name 15 ⟨111, 42, 111, 48⟩) (.tup (.cons (.str ("operand" : Str) 0 ⟨111, 53, 111, 62⟩) (.cons (.str ("close" : Str) 0 ⟨111, 64, 111, 71⟩) (.cons (.str ("plain" : Str) 0 ⟨111, 73, 111, 80⟩) .nil))) 0 ⟨111, 52, 111, 81⟩) ⟨111, 42, 111, 81⟩)) .nil)) ⟨111, 19, 111, 81⟩) (.cons (.app 6 ⟨112, 20, 112, 26⟩ ⟨112, 20, 112, 33⟩ (.tup (.cons (.tup (.cons (.bin .Add (.llen 3 ⟨112, 40, 112, 45⟩ ⟨112, 36, 112, 39⟩ ⟨112, 36, 112, 46⟩) (.int 1 0 ⟨112, 49, 112, 50⟩) ⟨112, 36, 112, 50⟩) (.cons (.int 2 0 ⟨112, 52, 112, 53⟩) .nil)) 0 ⟨112, 35, 112, 54⟩) (.cons (.str ("W503 line break before binary operator" : Str) 0 ⟨112, 56, 112, 96⟩) .nil)) 0 ⟨112, 34, 112, 97⟩) ⟨112, 20, 112, 98⟩ ⟨112, 20, 112, 98⟩)
  .nil) .nil ⟨111, 16, 112, 98⟩)
  (.cons (.ifs (.and (.cons (.e (.cmp .Eq (.name 15 ⟨113, 19, 113, 25⟩) (.str ("operator" : Str) 0 ⟨113, 29, 113, 39⟩) ⟨113, 19, 113, 39⟩)) (.cons (.e (.cmp .In (.name 13 ⟨113, 44, 113, 48⟩) (.tup (.cons (.str ("operand" : Str) 0 ⟨113, 53, 113, 62⟩) (.cons (.str ("open" : Str) 0 ⟨113, 64, 113, 70⟩) .nil)) 0 ⟨113, 52, 113, 71⟩) ⟨113, 44, 113, 71⟩)) .nil)) ⟨113, 19, 113, 71⟩) (.cons (.app 7 ⟨114, 20, 114, 25⟩ ⟨114, 20, 114, 32⟩ (.tup (.cons (.name 16 ⟨114, 34, 114, 38⟩) (.cons (.str ("W504 line break after binary operator" : Str) 0 ⟨114, 40, 114, 79⟩) .nil)) 0 ⟨114, 33, 114, 80⟩) ⟨114, 20, 114, 81⟩ ⟨114, 20, 114, 81⟩)
  .nil) .nil ⟨113, 16, 114, 81⟩)
  .nil))))) ⟨101, 12, 114, 81⟩)
  (.cons (.asg 4 ⟨115, 12, 115, 16⟩ (.str ("  " : Str) 0 ⟨115, 19, 115, 23⟩) ⟨115, 12, 115, 23⟩)
  .nil)) (.cons (.ifs (.e (.cmp .Gt (.name 10 ⟨116, 13, 116, 14⟩) (.int 0 0 ⟨116, 17, 116, 18⟩) ⟨116, 13, 116, 18⟩)) (.cons (.asg 4 ⟨117, 12, 117, 16⟩ (.bin .Add (.name 4 ⟨117, 19, 117, 23⟩) (.str (" " : Str) 0 ⟨117, 26, 117, 29⟩) ⟨117, 19, 117, 29⟩) ⟨117, 12, 117, 29⟩)
  .nil) .nil ⟨116, 8, 117, 29⟩)
  .nil) ⟨100, 8, 117, 29⟩)
  (.cons (.asg 16 ⟨118, 8, 118, 12⟩ (.tup (.cons (.bin .Add (.llen 3 ⟨118, 20, 118, 25⟩ ⟨118, 16, 118, 19⟩ ⟨118, 16, 118, 26⟩) (.int 1 0 ⟨118, 29, 118, 30⟩) ⟨118, 16, 118, 30⟩) (.cons (.len (.name 4 ⟨118, 36, 118, 40⟩) ⟨118, 32, 118, 35⟩ ⟨118, 32, 118, 41⟩) .nil)) 0 ⟨118, 15, 118, 42⟩) ⟨118, 8, 118, 42⟩)
  (.cons (.app 2 ⟨119, 8, 119, 13⟩ ⟨119, 8, 119, 20⟩ (.tup (.cons (.name 11 ⟨119, 22, 119, 26⟩) (.cons (.name 12 ⟨119, 28, 119, 32⟩) (.cons (.llen 3 ⟨119, 38, 119, 43⟩ ⟨119, 34, 119, 37⟩ ⟨119, 34, 119, 44⟩) (.cons (.len (.name 4 ⟨119, 50, 119, 54⟩) ⟨119, 46, 119, 49⟩ ⟨119, 46, 119, 55⟩) .nil)))) 0 ⟨119, 21, 119, 56⟩) ⟨119, 8, 119, 57⟩ ⟨119, 8, 119, 57⟩)
  (.cons (.asg 4 ⟨120, 8, 120, 12⟩ (.bin .Add (.name 4 ⟨120, 15, 120, 19⟩) (.name 12 ⟨120, 22, 120, 26⟩) ⟨120, 15, 120, 26⟩) ⟨120, 8, 120, 26⟩)
  (.cons (.asg 5 ⟨121, 8, 121, 13⟩ (.bin .Sub (.bin .Add (.name 5 ⟨121, 16, 121, 21⟩) (.cmp .Eq (.name 13 ⟨121, 25, 121, 29⟩) (.str ("open" : Str) 0 ⟨121, 33, 121, 39⟩) ⟨121, 25, 121, 39⟩) ⟨121, 16, 121, 40⟩) (.cmp .Eq (.name 13 ⟨121, 44, 121, 48⟩) (.str ("close" : Str) 0 ⟨121, 52, 121, 59⟩) ⟨121, 44, 121, 59⟩) ⟨121, 16, 121, 60⟩) ⟨121, 8, 121, 60⟩)
  .nil))))))
def tailL : SL := (.cons (.app 2 ⟨122, 4, 122, 9⟩ ⟨122, 4, 122, 16⟩ (.tup (.cons (.int 4 0 ⟨122, 18, 122, 19⟩) (.cons (.str ("\n" : Str) 0 ⟨122, 21, 122, 25⟩) (.cons (.llen 3 ⟨122, 31, 122, 36⟩ ⟨122, 27, 122, 30⟩ ⟨122, 27, 122, 37⟩) (.cons (.len (.name 4 ⟨122, 43, 122, 47⟩) ⟨122, 39, 122, 42⟩ ⟨122, 39, 122, 48⟩) .nil)))) 0 ⟨122, 17, 122, 49⟩) ⟨122, 4, 122, 50⟩ ⟨122, 4, 122, 50⟩)
  (.cons (.cat 3 ⟨123, 4, 123, 9⟩ (.cons (.bin .Add (.name 4 ⟨123, 21, 123, 25⟩) (.str ("\n" : Str) 0 ⟨123, 28, 123, 32⟩) ⟨123, 21, 123, 32⟩) .nil) ⟨123, 20, 123, 33⟩ ⟨123, 12, 123, 17⟩ ⟨123, 12, 123, 33⟩ ⟨123, 4, 123, 33⟩)
  .nil))
def esP : EL := (.cons (.tup (.cons (.int 1 0 ⟨79, 22, 79, 23⟩) (.cons (.str ("x" : Str) 0 ⟨79, 25, 79, 28⟩) (.cons (.str ("operand" : Str) 0 ⟨79, 30, 79, 39⟩) .nil))) 0 ⟨79, 21, 79, 40⟩) (.cons (.tup (.cons (.int 54 0 ⟨79, 43, 79, 45⟩) (.cons (.str ("=" : Str) 0 ⟨79, 47, 79, 50⟩) (.cons (.str ("plain" : Str) 0 ⟨79, 52, 79, 59⟩) .nil))) 0 ⟨79, 42, 79, 60⟩) .nil))
def rngP : E := (.bin .Add (.int 1 0 ⟨80, 19, 80, 20⟩) (.next 0 6 0 ⟨80, 40, 80, 41⟩ ⟨80, 33, 80, 38⟩ ⟨80, 23, 80, 32⟩ ⟨80, 23, 80, 42⟩) ⟨80, 19, 80, 42⟩)
def esR : EL := (.cons (.tup (.cons (.int 1 0 ⟨92, 22, 92, 23⟩) (.cons (.str ("e" : Str) 0 ⟨92, 25, 92, 28⟩) (.cons (.str ("operand" : Str) 0 ⟨92, 30, 92, 39⟩) .nil))) 0 ⟨92, 21, 92, 40⟩) .nil)
def eltR : E := (.tup (.cons (.int 54 0 ⟨92, 46, 92, 48⟩) (.cons (.name 0 ⟨92, 50, 92, 53⟩) (.cons (.str ("close" : Str) 0 ⟨92, 55, 92, 62⟩) .nil))) 0 ⟨92, 45, 92, 63⟩)
def eltT : E := (.tup (.cons (.name 0 ⟨124, 15, 124, 19⟩) (.cons (.name 1 ⟨124, 21, 124, 25⟩) (.cons (.tup (.cons (.bin .Add (.int 1 0 ⟨124, 28, 124, 29⟩) (.name 2 ⟨124, 32, 124, 34⟩) ⟨124, 28, 124, 34⟩) (.cons (.name 3 ⟨124, 36, 124, 41⟩) .nil)) 0 ⟨124, 27, 124, 42⟩) (.cons (.tup (.cons (.bin .Add (.int 1 0 ⟨124, 45, 124, 46⟩) (.name 2 ⟨124, 49, 124, 51⟩) ⟨124, 45, 124, 51⟩) (.cons (.bin .Add (.name 3 ⟨124, 53, 124, 58⟩) (.len (.name 1 ⟨124, 65, 124, 69⟩) ⟨124, 61, 124, 64⟩ ⟨124, 61, 124, 70⟩) ⟨124, 53, 124, 70⟩) .nil)) 0 ⟨124, 44, 124, 71⟩) (.cons (.lget 4 ⟨124, 73, 124, 78⟩ (.name 2 ⟨124, 79, 124, 81⟩) ⟨124, 73, 124, 82⟩) .nil))))) 0 ⟨124, 14, 124, 83⟩)
def tgT : Tg := (.many [(0, ⟨124, 88, 124, 92⟩), (1, ⟨124, 94, 124, 98⟩), (2, ⟨124, 100, 124, 102⟩), (3, ⟨124, 104, 124, 109⟩)] 0 ⟨124, 88, 124, 109⟩)
def tgK : Tg := (.many [(11, ⟨98, 12, 98, 16⟩), (12, ⟨98, 18, 98, 22⟩), (13, ⟨98, 24, 98, 28⟩)] 0 ⟨98, 11, 98, 29⟩)

def nmP : List Str := ["state", "pieces", "ends", "_", "k", "word", "what"]
def nmL : List Str := ["script", "state", "spans", "lines", "line", "depth", "before", "after", "joins", "pieces", "k", "kind", "word", "what", "way", "former", "last", "tokens"]
def nmT : List Str := ["kind", "word", "at", "start", "lines"]
def scP : Scope := match (defOf "_law_pieces").2.1 with
  | [_, _, Stmt.Return (some (Expr.BinOp _ _ (Expr.ListComp _ _ sc _) _)) _] => sc
  | _ => default
def scT : Scope := match (defOf "law").2.1 with
  | _ :: _ :: _ :: _ :: _ :: _ :: _ :: Stmt.Assign _ (Expr.ListComp _ _ sc _) _ :: _ => sc
  | _ => default

theorem bdP : (defOf "_law_pieces").2.1 = [
    .Assign [.Tuple [.Name (nmAt nmP 1) ⟨79, 4, 79, 10⟩, .Name (nmAt nmP 2) ⟨79, 12, 79, 16⟩] 0 ⟨79, 4, 79, 16⟩] (.Tuple [.List (esP.tr nmP) ⟨79, 20, 79, 61⟩, (E.str "" 0 ⟨79, 63, 79, 65⟩).tr nmP] 0 ⟨79, 19, 79, 66⟩) ⟨79, 4, 79, 66⟩,
    .For (.Name (nmAt nmP 3) ⟨80, 8, 80, 9⟩) (.Call (.Name "range" ⟨80, 13, 80, 18⟩) [rngP.tr nmP] [] ⟨80, 13, 80, 43⟩) (bodyP.tr nmP) [] ⟨80, 4, 91, 77⟩,
    .Return (some (.BinOp (.BinOp (.Name (nmAt nmP 1) ⟨92, 11, 92, 17⟩) .Add (.List (esR.tr nmP) ⟨92, 20, 92, 41⟩) ⟨92, 11, 92, 41⟩) .Add (.ListComp (eltR.tr ["end"]) [⟨(Tg.one 0 ⟨92, 68, 92, 71⟩).tr ["end"], .Name (nmAt nmP 2) ⟨92, 75, 92, 79⟩, [], 0⟩] scP ⟨92, 44, 92, 80⟩) ⟨92, 11, 92, 80⟩)) ⟨92, 4, 92, 80⟩] := by rfl

theorem bdL : (defOf "law").2.1.length = 10 := by rfl
end Mine

namespace Mine
open PySem PySem.W PySem.Calls PyProof.Rows PySem.Spec

def cfP (xs : List Int) : Cfg := { n := 7, cell := none, wr := [1], len := true, next := some xs, tok := false, isb := false }
def cfR : Cfg := { n := 1, cell := none, wr := [], len := false, next := none, tok := false, isb := false }
def locP0 : List Slot := [.s, .u, .u, .u, .u, .u, .u]
def strItems (y : Str) : List AV := y.cps.toList.map fun c => .str ⟨#[c]⟩

/-- what _law_pieces computes -/
def piecesRun (xs : List Int) (d : Dr) : Option (List AV × Dr) := match esP.ev (cfP xs) locP0 d with
  | some (ps, d₁) => match rngP.ev (cfP xs) ((locP0.set 2 (.v (.str ""))).set 1 (.l ps)) d₁ with
    | some (.int n, d₂) => match rloop (cfP xs) 3 bodyP 40 ((List.range n.toNat).map fun i : Nat => (i : Int)) ⟨(locP0.set 2 (.v (.str ""))).set 1 (.l ps), d₂⟩ with
      | some σ => match locL σ.loc 1, locV σ.loc 2 with
        | some qs, some (.str y) => match esR.ev (cfP xs) σ.loc σ.dr with
          | some (rs, d₃) => match crun cfR (.one 0 ⟨92, 68, 92, 71⟩) eltR (0, 0) (strItems y) [.u] with
            | some cs => some ((qs ++ rs) ++ cs, d₃)
            | none => none
          | none => none
        | _, _ => none
      | none => none
    | _ => none
  | none => none

theorem own_of {prog : Program} {w : World} {A : Around} {s : Shared} {It : Addr} {o : Obj} {ty : String} (ho : s.heap.get? It = some o) (hc : o.cls = .type ty)
    (hty : (["enumerate", "zip", "dict_itemiterator", "dict_reverseitemiterator", "odict_iterator", "itertools.zip_longest", "itertools.pairwise"] : List String).contains ty = false) {tg : Expr} {v : Value} {Q : Unit → Shared → Prop} {Er : Value → Shared → Prop} (hQ : Q () s) :
    wpAny (model prog w) A (letOwnedTupleGo tg (.ref It) v) Q Er s := by
  have key : ∀ a : Addr, wpAny (model prog w) A (do
      let o ← load It
      match o.cls, o.data with
      | .type n, .fields vs =>
        if ["enumerate", "zip", "dict_itemiterator", "dict_reverseitemiterator", "odict_iterator", "itertools.zip_longest", "itertools.pairwise"].contains n && vs[0]? == some (rawInt a) then
          rule "for.unpacks-the-owned-tuple"
          updateField It 0 .none
      | _, _ => pure ()) Q Er s := by
    intro a
    refine wpAny_bind (wpAny_load ho ?_)
    rw [hc]
    cases o.data with
    | fields vs =>
      dsimp only
      rw [hty, Bool.false_and]
      exact wpAny_pure hQ
    | _ => exact wpAny_pure hQ
  cases tg with
  | Tuple es k p => cases v <;> first | exact key _ | exact wpAny_pure hQ
  | List es p => cases v <;> first | exact key _ | exact wpAny_pure hQ
  | _ => exact wpAny_pure hQ

theorem pyIter_str2 {prog : Program} {w : World} {A : Around} {s : Shared} {x : Str} {t : Tok} {Q : Value → Shared → Prop} {Er : Value → Shared → Prop}
    (hQ : ∀ (ty : String) (o : Obj), o.cls = .type ty → (["enumerate", "zip", "dict_itemiterator", "dict_reverseitemiterator", "odict_iterator", "itertools.zip_longest", "itertools.pairwise"] : List String).contains ty = false → ty ≠ "tuple" →
      (∀ A' : Around, A'.handled = none → Walks prog w A' s.heap.objs.size [s.heap.objs.size] [s.heap.objs.size] x.cps.size (SignAt x) (fun i h => h.IsStrIter s.heap.objs.size ty x t i)) → (s.heap.push o).IsStrIter s.heap.objs.size ty x t 0 → o.isFreed = false →
      Q (.ref s.heap.objs.size) { s with heap := s.heap.push o }) : wpAny (model prog w) A (pyIter (.str x t)) Q Er s := by
  cases ha : x.cps.all (· < 128)
  · exact wpAny_pyIter_wide ha (hQ "str_iterator" _ rfl (by decide) (by decide) (fun A' hA => Walks.strWide hA _ x t) ⟨_, Heap.get?_push_size _ rfl, rfl, rfl⟩ rfl)
  · exact wpAny_pyIter_ascii ha (hQ "str_ascii_iterator" _ rfl (by decide) (by decide) (fun A' hA => Walks.strAscii hA _ x t) ⟨_, Heap.get?_push_size _ rfl, rfl, rfl⟩ rfl)

theorem lawNext_pos {xs : List Int} {d : Dr} {m : Int} (hm : 0 < m) : 0 ≤ (lawNext xs d m).1 ∧ (lawNext xs d m).1 < m := by
  unfold lawNext
  split
  · exact ⟨Int.fmod_nonneg_of_pos _ hm, Int.fmod_lt_of_pos _ hm⟩
  · exact ⟨Int.fmod_nonneg_of_pos _ hm, Int.fmod_lt_of_pos _ hm⟩

/-- a new list and a text stored in two names at once -/
theorem new2_sound {F : FC} (O : F.Ok) {cf : Cfg} (X : Ext F cf) {adr : Nat → Addr} {l : List Slot} {A : Around} (hA : AOk 2 A) {x y : Nat} {es : EL} {e2 : E} {d : Dr} {ws : List AV} {v2 : AV} {d' d2 : Dr} {xp yp tp lp vp p : Pos} {tk vk : Nat}
    (ev : es.ev cf l d = some (ws, d')) (ev2 : e2.ev cf l d' = some (v2, d2)) (hle2 : ws.length ≤ 1000) (hxl : x < l.length) (hn' : x < F.nm.length) (hw : x ∈ cf.wr) (c1 : ∀ z c, F.cell = some (z, c) → x ≠ z)
    (hy : canV cf l y = true) (hxy : x ≠ y) (hln : (xp.line == yp.line) = true) (hfold : foldedForSure 8 (.List (es.tr F.nm) lp) = false) (hcon : constantsAlone 8 (.List (es.tr F.nm) lp) = false)
    {s : Shared} {Q : Flow → Shared → Prop} {Er : Value → Shared → Prop} (I : Inv F ⟨l, d⟩ adr s.heap) (hQ : ∀ adr' s', GoodS F cf.wr adr adr' ((St.setV ⟨l, d2⟩ y v2).setL x ws) s s' → (∀ z, adr' z = adr z ∨ ∃ o, s'.heap.get? (adr' z) = some o) → Q .next s') :
    wpAny (model F.prog F.w) A (exec (.Assign [.Tuple [.Name (nmAt F.nm x) xp, .Name (nmAt F.nm y) yp] tk tp] (.Tuple [.List (es.tr F.nm) lp, e2.tr F.nm] vk vp) p) F.env) Q Er s := by
  obtain ⟨n2, _, e2', c2, _⟩ := canV_spec X hy
  have e1 : F.nm[x]? = some F.nm[x] := List.getElem?_eq_getElem hn'
  refine Assign_Tuple_swapped ?_ (by rfl) (swapped_two O e1 e2' c1 c2 hxy hln (by intro a p h; cases h) (by intro a p h; cases e2 <;> cases h) hfold hcon)
  refine wpAny_Tuple (spliced_more (newl_sound O X hA ev hle2 I fun D us s₁ g₁ hp hd hfr => ?_) rfl)
  refine spliced_more (E.sound O X hA e2 ev2 g₁.inv fun u2 s₂ hu2 g₂' => spliced_none ?_) (tr_star _ _ _ _)
  have g₂ := g₂'.S (wr := cf.wr) g₁.inv
  refine ⟨show 2 ≤ sizeLine by decide, ?_⟩
  show wpAny _ A (unpackItems (.ref s₂.heap.objs.size) (#[.ref D, u2] : Array Value).size none) _ _ _
  refine unpackItems_tuple hA.1 (IsTup.new _ _) fun h' he => ?_
  have keep : ∀ b o, s₂.heap.get? b = some o → h'.get? b = some o := fun b o e => he b o (Nat.ne_of_lt (Nat.lt_of_lt_of_le (Heap.lt_size e) (by rw [Heap.size_push]; exact Nat.le_succ _))) (Heap.get?_push_of_some _ e)
  have g₃ : GoodS F cf.wr adr adr ⟨l, d2⟩ s { s₂ with heap := h' } := (g₁.trans g₂).grow O keep
  show wpAny _ A (do holding [.ref D] (bindName F.env (nmAt F.nm y) u2); do holding [] (bindName F.env (nmAt F.nm x) (.ref D)); pure ()) _ _ { s₂ with heap := h' }
  refine wpAny_bind (wpAny_holding (tr_bind1 O X hy g₃.inv (hu2.mono (.of_keeps keep)) fun s₄ g₄ hk => ?_))
  have hk₂ : ∀ o, s₁.heap.get? D = some o → s₂.heap.get? D = some o := fun o e => g₂'.2.keep D o e fun ⟨t, ht, eb⟩ => hfr.2.1 (.inr (.inr ⟨t, ht, .inl eb⟩))
  have hk₄ : ∀ o, h'.get? D = some o → s₄.heap.get? D = some o := fun o e => hk D o e fun eb => hfr.2.1 (.inl eb)
  have hpD := hp.at fun o e => hk₄ o (keep _ _ (hk₂ o e))
  refine wpAny_bind (wpAny_holding (wpAny_bindName (storeL O hn' hw (g₃.trans g₄) hpD (((hd.mono g₂.tp).mono (.of_keeps keep)).mono g₄.tp) hfr.1 hfr.2.1 hfr.2.2.1 ?_ fun s₅ g₅ => wpAny_pure ?_)))
  · intro z vs' ez
    rcases getElem?_set_cases ez with ⟨_, q⟩ | ⟨_, q⟩
    · cases q
    · exact hfr.2.2.2 z vs' q
  · refine hQ _ _ g₅ fun z => ?_
    by_cases hz : z = x
    · subst hz
      right
      obtain ⟨ws', ⟨k, hw'⟩, _⟩ := g₅.inv.list_at (x := z) (vs := ws) (by
        show (List.set _ z _)[z]? = _
        rw [List.getElem?_set_self]
        simpa [St.setV] using hxl)
      exact ⟨_, hw'⟩
    · left; simp [hz]

section
variable {prog : Program} {w : World} {hb : Heap} {mg mb : Str → Option Value}

def lawF (prog : Program) (w : World) (hb : Heap) (n : Str) (sc : Scope) (L f : Addr) (cd : Value) (nm : List Str) (t : DrI) : FC := { prog := prog, w := w, env := envOf n sc L f cd, hb := hb, nm := nm, st := some t, cell := none }

theorem lawF_ok {n : Str} {sc : Scope} {L f : Addr} {cd : Value} {nm : List Str} {t : DrI} (hk : sc.kind = .function) (h1 : (nm.all fun x => sc.names.lookup x == some NameKind.local) = true) (h2 : nm.Nodup) (h3 : (nm.all fun x => !(x == ("__debug__" : Str))) = true)
    (hL : hb.get? L = none) (hlim : hb.NoLimit) (ht : t.a ≠ L ∧ t.b ≠ L ∧ t.a ≠ t.b) (hta : hb.get? t.a = none) : (lawF prog w hb n sc L f cd nm t).Ok where
  kind := hk
  glob := rfl
  blt := rfl
  len := h2
  loc := fun x y e _ => by
    have := List.all_eq_true.mp h1 y (List.mem_of_getElem? e)
    exact eq_of_beq this
  cell := fun x c e => by cases e
  dbg := fun x hx => by have := List.all_eq_true.mp h3 x hx; simpa using this
  notL := fun x c e => by cases e
  stL := fun t' e => by cases e; exact ⟨ht.1, ht.2.1, ht.2.2, (fun x c e => by cases e)⟩
  fresh := ⟨hL, (fun x c e => by cases e), (fun t' e => by cases e; exact hta)⟩
  lim := hlim

theorem lawF_ext (W : WF prog w hb mg mb) {n : Str} {sc : Scope} {L f : Addr} {cd : Value} {t : DrI} (hk : sc.kind = .function) (h1 : kindIs sc "len" = true) (h2 : kindIs sc "_law_next" = true) (hxs : t.xs.length ≤ 1000000) (hta : hb.get? t.a = none) (hab : t.a ≠ t.b) :
    Ext (lawF prog w hb n sc L f cd nmP t) (cfP t.xs) where
  n := rfl
  cell := rfl
  len := fun h A s Q E pos hbk hQ => ld_blt W.g W.b W.len hbk hk rfl rfl (eq_of_beq h1) (by decide +kernel) hQ
  next := fun xs h => by
    cases h
    obtain ⟨f', o, fd, a1, a2, a3, a4⟩ := next_ok W hxs hta hab
    exact ⟨t, f', o, fd, rfl, rfl, fun A s Q E pos hbk hQ => ld_glob W.g a1 hbk hk rfl (eq_of_beq h2) (by decide +kernel) hQ, a2, a3, a4⟩
  isb := fun h => by cases h
  tok := fun h => by cases h

def PiecesOk (prog : Program) (w : World) (hb : Heap) (t : DrI) (f : Addr) : Prop := ∀ (A : Around) (s : Shared) (d : Dr) (Q : Value → Shared → Prop) (Er : Value → Shared → Prop) (vs : List AV) (d' : Dr), AOk 6 A →
  (∀ b o, hb.get? b = some o → s.heap.get? b = some o) → DrAt t d s.heap → piecesRun t.xs d = some (vs, d') → vs.length ≤ 100000 →
  (∀ D ws s', Stp (fun b => b = t.a) s s' → TP s.heap s'.heap → (∀ b o, s.heap.get? b = some o → ∃ o', s'.heap.get? b = some o') → DrAt t d' s'.heap → s.heap.get? D = none → s'.heap.PlainList D ws.toArray → Dens s'.heap ws vs → Q (.ref D) s') →
  wpAny (model prog w) A (call (.ref f) [.ref t.a]) Q Er s

theorem crun_len {cf : Cfg} {tg : Tg} {elt : E} {dr : Dr} : ∀ {ds : List AV} {l : List Slot} {os : List AV}, crun cf tg elt dr ds l = some os → os.length = ds.length
  | [], l, os, h => by simp only [crun] at h; cases h; rfl
  | d :: ds, l, os, h => by
    simp only [crun] at h
    split at h
    · split at h
      · split at h
        · rename_i e
          cases h
          rw [List.length_cons, List.length_cons, crun_len e]
        · cases h
      · cases h
    · cases h

theorem compF_ok {F : FC} (O : F.Ok) {s : Shared} {sc : Scope} {cl : List (Str × Addr)} {C : Addr} {nm : List Str} (hk : sc.kind = .function) (h1 : ∀ x ∈ nm, sc.names.lookup x = some NameKind.local) (h2 : nm.Nodup) (h3 : ∀ x ∈ nm, (x == ("__debug__" : Str)) = false)
    (hbk : ∀ b o, F.hb.get? b = some o → s.heap.get? b = some o) (hC : s.heap.get? C = none) : (compF F sc cl C nm none).Ok where
  kind := hk
  glob := O.glob
  blt := O.blt
  len := h2
  loc := fun x y e _ => lookup_relabel_local (h1 y (List.mem_of_getElem? e))
  cell := fun x c e => by cases e
  dbg := h3
  notL := fun x c e => by cases e
  stL := fun t e => by cases e
  fresh := ⟨(by
    show F.hb.get? C = none
    cases q : F.hb.get? C with
    | none => rfl
    | some o => rw [hbk _ _ q] at hC; cases hC), (fun x c e => by cases e), (fun t e => by cases e)⟩
  lim := O.lim

/-- the body of _law_pieces in any frame of its shape -/
def stmtsP (nm : List Str) : List Stmt := [
    .Assign [.Tuple [.Name (nmAt nm 1) ⟨79, 4, 79, 10⟩, .Name (nmAt nm 2) ⟨79, 12, 79, 16⟩] 0 ⟨79, 4, 79, 16⟩] (.Tuple [.List (esP.tr nm) ⟨79, 20, 79, 61⟩, (E.str "" 0 ⟨79, 63, 79, 65⟩).tr nm] 0 ⟨79, 19, 79, 66⟩) ⟨79, 4, 79, 66⟩,
    .For (.Name (nmAt nm 3) ⟨80, 8, 80, 9⟩) (.Call (.Name "range" ⟨80, 13, 80, 18⟩) [rngP.tr nm] [] ⟨80, 13, 80, 43⟩) (bodyP.tr nm) [] ⟨80, 4, 91, 77⟩,
    .Return (some (.BinOp (.BinOp (.Name (nmAt nm 1) ⟨92, 11, 92, 17⟩) .Add (.List (esR.tr nm) ⟨92, 20, 92, 41⟩) ⟨92, 11, 92, 41⟩) .Add (.ListComp (eltR.tr ["end"]) [⟨(Tg.one 0 ⟨92, 68, 92, 71⟩).tr ["end"], .Name (nmAt nm 2) ⟨92, 75, 92, 79⟩, [], 0⟩] scP ⟨92, 44, 92, 80⟩) ⟨92, 11, 92, 80⟩)) ⟨92, 4, 92, 80⟩]

theorem pieces_core {F : FC} {xs : List Int} (W : WF F.prog F.w F.hb mg mb) {A : Around} {s₀ s : Shared} {t : DrI} {d d' : Dr} {vs : List AV} {adr : Nat → Addr} {Q : Flow → Shared → Prop} {Er : Value → Shared → Prop} (hA : AOk 4 A)
    (O : F.Ok) (X : Ext F (cfP xs)) (hnl : F.nm.length = 7) (hcell : F.cell = none) (hst : F.st = some t) (hkr : F.env.kindOf "range" = some .globalImplicit)
    (I : Inv F ⟨locP0, d⟩ adr s.heap) (fx : Fx F s₀ s adr) (hadr : ∀ x, ∃ o, s.heap.get? (adr x) = some o) (hrun : piecesRun xs d = some (vs, d')) (hlen : vs.length ≤ 100000)
    (hQ : ∀ D ws s', (∃ h tk, s' = { s₀ with heap := h, toks := tk }) → (∀ b o, s₀.heap.get? b = some o → b ≠ t.a → s'.heap.get? b = some o) → TP s₀.heap s'.heap → (∀ b o, s₀.heap.get? b = some o → ∃ o', s'.heap.get? b = some o') → DrAt t d' s'.heap → s₀.heap.get? D = none → s'.heap.PlainList D ws.toArray → Dens s'.heap ws vs → Q (.ret (.ref D)) s') :
    wpAny (model F.prog F.w) A (execs (stmtsP F.nm) F.env) Q Er s := by
  unfold piecesRun at hrun
  split at hrun
  · rename_i ps d₁ e1
    split at hrun
    · rename_i n d₂ e2
      split at hrun
      · rename_i σ e3
        split at hrun
        · rename_i qs y e4 e5
          split at hrun
          · rename_i rs d₃ e6
            split at hrun
            · rename_i cs e7
              cases hrun
              have hA2 : AOk 2 A := hA.mono (by decide)
              have hps : ps.length ≤ 1000 := by
                have : esP.ev (cfP xs) locP0 d = some ([.tup [.int 1, .str "x", .str "operand"], .tup [.int 54, .str "=", .str "plain"]], d) := by rfl
                rw [this] at e1; cases e1; decide
              -- pieces, ends = [...], ''
              refine wpAny_execs_cons ?_
              have hk1 : foldedForSure 8 (.List (esP.tr F.nm) ⟨79, 20, 79, 61⟩) = false := by rfl
              have hk2 : constantsAlone 8 (.List (esP.tr F.nm) ⟨79, 20, 79, 61⟩) = false := by rfl
              have hk3 : canV (cfP xs) locP0 2 = true := by rfl
              have hk4 : (E.str "" 0 ⟨79, 63, 79, 65⟩).ev (cfP xs) locP0 d₁ = some (.str "", d₁) := by simp only [E.ev]
              have h7 : 1 < F.nm.length := by omega
              have h8 : 1 ∈ (cfP xs).wr := List.mem_singleton.mpr rfl
              have h9 : ∀ z c, F.cell = some (z, c) → 1 ≠ z := fun z c h => by rw [hcell] at h; cases h
              have h10 : 1 < locP0.length := by decide
              have h11 : (1 : Nat) ≠ 2 := by decide
              have h12 : ((⟨79, 4, 79, 10⟩ : Pos).line == (⟨79, 12, 79, 16⟩ : Pos).line) = true := by rfl
              with_reducible refine new2_sound (cf := cfP xs) O X hA2 e1 hk4 hps h10 h7 h8 h9 hk3 h11 h12 hk1 hk2 I fun adr₁ s₁ g₁ hx₁ => ?_
              have f₁ := fx.step g₁
              have hadr₁ : ∀ x, ∃ o, s₁.heap.get? (adr₁ x) = some o := fun x => by
                rcases hx₁ x with h | h
                · rw [h]; obtain ⟨o, ho⟩ := hadr x; exact g₁.ex _ _ ho
                · exact h
              -- the loop
              refine wpAny_execs_cons (wpAny_For (Call_ (ld_blt W.g W.b W.range g₁.inv.base O.kind O.glob O.blt hkr (by decide +kernel) ?_)) (by intro _; rfl))
              refine PyProof.Rows.callWith_type1 (spliced_more (E.sound O X hA2 rngP e2 g₁.inv fun u s₂ hu g₂ => spliced_none ?_) (tr_star _ _ _ _)) (tr_star _ _ _ _)
              cases hu
              rename_i tn
              have hn6 : 0 ≤ n ∧ n < 7 := by
                have hb6 := lawNext_pos (xs := xs) (d := d₁) (m := 6) (by decide)
                have : rngP.ev (cfP xs) ((locP0.set 2 (.v (.str ""))).set 1 (.l ps)) d₁ = some (.int (1 + (lawNext xs d₁ 6).1), (lawNext xs d₁ 6).2) := by rfl
                rw [this] at e2
                cases e2
                omega
              refine call_range_1 ?_
              refine wpAny_pyIter_range (IsRange.new ..) (small_one (by decide) (by decide) (by omega) (by omega)) ?_
              dsimp only
              generalize hH1 : s₂.heap.push { cls := .type "range", data := .fields #[.int 0 s₂.toks, .int n tn, .int 1 (s₂.toks + 1)] } = H1
              have hk1 : ∀ b o, s₂.heap.get? b = some o → H1.get? b = some o := fun b o e => by rw [← hH1]; exact Heap.get?_push_of_some _ e
              have G₂ := g₂.S (wr := (cfP xs).wr) g₁.inv
              have I1 := g₂.1.grow O hk1
              have fr := I1.fresh
              generalize hH2 : H1.push { cls := .type "range_iterator", data := .fields #[rawInt 0, rawInt (Builtin.Range.rangeSize 0 n 1), rawInt 1] } = H2
              have hk2 : ∀ b o, H1.get? b = some o → H2.get? b = some o := fun b o e => by rw [← hH2]; exact Heap.get?_push_of_some _ e
              have hsz : Builtin.Range.rangeSize 0 n 1 = (n.toNat : Int) := by rw [rangeSize_one]; split <;> omega
              have f₂ := f₁.step G₂
              have f₃ := f₂.step (GoodS.grow0 (wr := (cfP xs).wr) (h' := H2) (tk := s₂.toks + 1 + 1) O g₂.1 fun b o e => hk2 b o (hk1 b o e))
              refine range_loop (F := F) (cf := cfP xs) (n := n.toNat) (s₀ := s₀) (It := H1.objs.size) (σ' := σ) O X hA2 ?_ ?_ ((I1.grow O hk2)) f₃ ⟨fr.2.1, fr.2.2.1, fun x => ?_⟩ ?_ e3
              · cases q : s₀.heap.get? H1.objs.size with
                | none => rfl
                | some o =>
                  obtain ⟨o', e'⟩ := f₂.ex _ o q
                  exact absurd rfl (lt_none (hk1 _ _ e'))
              · intro adr₄ s₄ I₄ f₄ _
                obtain ⟨l₄, dσ⟩ := σ
                have hcl := crun_len e7
                have hil : (strItems y).length = y.cps.size := by simp [strItems]
                simp only [List.length_append] at hlen
                refine wpAny_execs_cons (wpAny_Return_some (wpAny_BinOp ?_))
                refine cat_sound O X hA2 e4 e6 (by omega) ?_ I₄ fun D us s₅ g₅ hp₅ hd₅ hfr => ?_
                · have : esR.ev (cfP xs) l₄ dσ = some ([.tup [.int 1, .str "e", .str "operand"]], dσ) := by rfl
                  have e6' : esR.ev (cfP xs) l₄ dσ = some (rs, d') := e6
                  rw [this] at e6'; cases e6'; decide
                rw [eval_ListComp]
                refine wpAny_comprehension_free (use := none) (cl := []) rfl (fun x => by rfl) (closureFor_none (by decide +kernel)) (by rfl) (by decide +kernel) ?_
                refine load_v O g₅.inv e5 fun u hu => ?_
                cases hu
                rename_i ty0
                refine pyIter_str2 fun ty o hc how hnt hW hst' hof => ?_
                have f₅ := f₄.step g₅
                have frs := g₅.inv.fresh
                have hko : ∀ b o', s₅.heap.get? b = some o' → (s₅.heap.push o).get? b = some o' := fun b o' e => Heap.get?_push_of_some _ e
                have hbk₆ : ∀ b o', F.hb.get? b = some o' → (s₅.heap.push o).get? b = some o' := fun b o' e => hko b o' (g₅.inv.base b o' e)
                refine comp_core (F := F) (s := { s₅ with heap := s₅.heap.push o }) (cl := []) (nm := ["end"]) (cell := none) (cf := cfR) (items := strItems y) (outs := cs) (l₀ := [.u]) (dr := (0, 0)) (adr := adr₄) (RR := fun acc C => compPost (model F.prog F.w) A Er none (fun b s' => wpAny (model F.prog F.w) A (binaryOp .Add (.ref D) b) (fun v => Q (.ret v)) Er s') acc C) hA2
                  (by decide +kernel) (by rfl) (by rfl) ?_ ?_ ?_ hbk₆ (fun x c h => by cases h) (hil ▸ hW A hA.1) ?_ e7 hst' ⟨(fun x c h => by cases h), frs.2.2.1, ?_⟩ ⟨_, Heap.get?_push_size _ hof⟩ ?_ ?_ ?_ (by omega) ?_ ?_
                · intro C hC
                  exact compF_ok O (s := { s₅ with heap := s₅.heap.push o }) (by rfl) (by decide +kernel) (by decide +kernel) (by decide +kernel) hbk₆ hC
                · intro C
                  exact ⟨rfl, rfl, (fun h => by cases h), (fun xs h => by cases h), (fun h => by cases h), (fun h => by cases h)⟩
                · intro C h' m hC hn hk'
                  refine ⟨fun b o' e => hk' b o' (hbk₆ b o' e), ⟨m, hn, fun x sl e => ?_⟩, (fun x c h => by cases h), (fun x vs e => ?_), (fun t h => by cases h)⟩
                  · match x with
                    | 0 => cases e; trivial
                    | x + 1 => cases e
                  · match x with
                    | 0 => cases e
                    | x + 1 => cases e
                · rintro i v ⟨c, u, hc', rfl⟩
                  exact ⟨.str ⟨#[c]⟩, by simp [strItems, hc'], .str _ _⟩
                · intro x vs e
                  match x with
                  | 0 => cases e
                  | x + 1 => cases e
                · intro b hb
                  have : b = s₅.heap.objs.size := by simpa using hb
                  rw [this]
                  exact ⟨_, Heap.get?_push_size _ hof⟩
                · intro x vs e
                  match x with
                  | 0 => cases e
                  | x + 1 => cases e
                · rintro i h ⟨o', ho', hc', _⟩ o'' ho'' hcl'
                  rw [ho'] at ho''
                  cases ho''
                  rw [hc'] at hcl'
                  exact hnt (Value.type.inj hcl')
                · rintro tgE i s' v Q' Er' ⟨o', ho', hc', _⟩ hq
                  exact own_of ho' hc' how hq
                · intro D₂ C h' tk m' ws hD₂ hC hDC hn' hp' hd' hk' tp'
                  refine ⟨m', hn', fun h'' hs'' => ?_⟩
                  have nC : ∀ {b : Addr} {o' : Obj}, s₅.heap.get? b = some o' → b ≠ C := fun {b o'} e eb => by
                    have := hko b o' e
                    rw [eb] at this
                    have hC' : (s₅.heap.push o).get? C = none := hC
                    rw [hC'] at this; cases this
                  have kp : ∀ b o', s₅.heap.get? b = some o' → h''.get? b = some o' := fun b o' e => (hs''.2 b (nC e)).trans (hk' b o' (lt_none e) (hko b o' e))
                  obtain ⟨nD, hDo⟩ := hp₅
                  have hD'' : h''.PlainList D us.toArray := ⟨nD, kp _ _ hDo⟩
                  have hD₂'' : h''.PlainList D₂ ws.toArray := hp'.extBut hs''.extBut hDC
                  have l1 := hd₅.length
                  have l2 := hd'.length
                  rw [List.length_append] at l1
                  have tpC : TP h' h'' := fun b o' e hcls hdd => (hs''.2 b fun eb => by
                    obtain ⟨oC, _, _, hoC, hdC, _⟩ := hn'
                    rw [eb, hoC] at e
                    cases e
                    obtain ⟨its, nn, hx⟩ := hdd
                    rw [hdC] at hx; cases hx).trans e
                  refine add_lists (s := { s₅ with heap := h'', toks := tk }) hD'' hD₂'' (by omega) ?_
                  have kp3 : ∀ b o', s₅.heap.get? b = some o' → (h''.push { cls := .type "list", data := .seq (us ++ ws).toArray }).get? b = some o' := fun b o' e => Heap.get?_push_of_some _ (kp b o' e)
                  have f₆ := f₅.step (GoodS.grow0 (wr := (cfP xs).wr) (h' := h''.push { cls := .type "list", data := .seq (us ++ ws).toArray }) (tk := tk) O g₅.inv kp3)
                  refine hQ _ _ _ f₆.shape (fun b o' e hb => f₆.keep b o' e fun ⟨t', ht', eb⟩ => by rw [hst] at ht'; cases ht'; exact hb eb) f₆.tp f₆.ex ((g₅.inv.dr t hst).keep (fun o' e => kp3 _ _ e) fun o' e => kp3 _ _ e) ?_ ⟨_, Heap.get?_push_size _ rfl⟩
                    (((hd₅.mono (.of_keeps kp)).append (hd'.mono tpC)).mono (.of_keeps fun b o' e => Heap.get?_push_of_some _ e))
                  cases q : s₀.heap.get? h''.objs.size with
                  | none => rfl
                  | some o' =>
                    obtain ⟨o'', e''⟩ := f₅.ex _ _ q
                    exact absurd rfl (lt_none (kp _ _ e''))
              · obtain ⟨o, ho⟩ := hadr₁ x
                obtain ⟨o', ho'⟩ := G₂.ex _ _ ho
                exact lt_none (hk1 _ _ ho')
              · rw [← hsz, ← hH2]
                exact Heap.get?_push_size _ rfl
            · cases hrun
          · cases hrun
        · cases hrun
      · cases hrun
    · cases hrun
  · cases hrun
end
end Mine

namespace Mine
open PySem PySem.W PySem.Calls PyProof.Rows PySem.Spec

section
variable {prog : Program} {w : World} {hb : Heap} {mg mb : Str → Option Value}

theorem bdP' : (defOf "_law_pieces").2.1 = stmtsP nmP := bdP

theorem pieces_ok (W : WF prog w hb mg mb) {t : DrI} (hxs : t.xs.length ≤ 1000000) (hta : hb.get? t.a = none) (hab : t.a ≠ t.b) :
    ∃ f o fd, mg "_law_pieces" = some (.ref f) ∧ hb.get? f = some o ∧ o.data = .func fd ∧ PiecesOk prog w hb t f := by
  obtain ⟨f, o, pm, cd, doc, hf, ho, hd, hcd⟩ := W.fnPieces
  refine ⟨f, o, _, hf, ho, hd, ?_⟩
  intro A s d Q E vs d' hA hbk hdr hrun hlen hQ
  obtain ⟨oa, ha, _⟩ := hdr.at_a
  obtain ⟨ob, hb', _⟩ := hdr.at_b
  have hLs : s.heap.get? s.heap.objs.size = none := by
    cases q : s.heap.get? s.heap.objs.size with
    | none => rfl
    | some o => exact absurd rfl (lt_none q)
  have hLo : hb.get? s.heap.objs.size = none := by
    cases q : hb.get? s.heap.objs.size with
    | none => rfl
    | some o => exact absurd rfl (lt_none (hbk _ _ q))
  refine wpAny_call ?_
  refine call_pos_ret (by have := hA.2.1; omega) (hbk _ _ ho) hd (W.lim.keeps hbk) (hcd.keeps hbk) (by rfl) (locs (by rfl)) (fun h₁ Fr₁ => ?_) (by rfl) (by rfl) (by rfl) (by decide +kernel)
  rw [bdP']
  have O := lawF_ok (prog := prog) (w := w) (hb := hb) (n := "_law_pieces") (sc := (defOf "_law_pieces").2.2) (L := s.heap.objs.size) (f := f) (cd := cd) (nm := nmP) (t := t) (by rfl) (by decide +kernel) (by decide +kernel) (by decide +kernel) hLo W.lim ⟨lt_none ha, lt_none hb', hab⟩ hta
  have X := lawF_ext W (n := "_law_pieces") (sc := (defOf "_law_pieces").2.2) (L := s.heap.objs.size) (f := f) (cd := cd) (t := t) (by rfl) (by decide +kernel) (by decide +kernel) hxs hta hab
  obtain ⟨oL, _, _, hoL, _⟩ := id Fr₁.ns
  have I : Inv (lawF prog w hb "_law_pieces" (defOf "_law_pieces").2.2 s.heap.objs.size f cd nmP t) ⟨locP0, d⟩ (fun _ => s.heap.objs.size) h₁ := by
    refine ⟨fun b o e => Fr₁.keep b o (hbk b o e), ⟨_, Fr₁.ns, fun x sl e => ?_⟩, (fun x c e => by cases e), (fun x vs e => ?_), (fun t' e => by cases e; exact hdr.keep (fun o => Fr₁.keep _ o) fun o => Fr₁.keep _ o)⟩
    · match x with
      | 0 => cases e; exact ⟨t, rfl, ⟨_, rfl, by rfl⟩⟩
      | x + 1 =>
        have : sl = .u := List.eq_of_mem_replicate (List.mem_of_getElem? (show (List.replicate 6 Slot.u)[x]? = some sl from e))
        subst this
        trivial
    · match x with
      | 0 => cases e
      | x + 1 =>
        have : Slot.l vs = .u := List.eq_of_mem_replicate (List.mem_of_getElem? (show (List.replicate 6 Slot.u)[x]? = some (.l vs) from e))
        cases this
  have fx : ∀ tk, Fx (lawF prog w hb "_law_pieces" (defOf "_law_pieces").2.2 s.heap.objs.size f cd nmP t) s { s with heap := h₁, toks := tk } (fun _ => s.heap.objs.size) := fun tk =>
    ⟨⟨h₁, _, rfl⟩, fun b o e _ => Fr₁.keep b o e, fun b o e => ⟨o, Fr₁.keep b o e⟩, .of_keeps Fr₁.keep, fun _ => hLs, hLs, (fun x c e => by cases e)⟩
  have hkr : (lawF prog w hb "_law_pieces" (defOf "_law_pieces").2.2 s.heap.objs.size f cd nmP t).env.kindOf "range" = some .globalImplicit := kind_of (by decide +kernel)
  have p3 : (lawF prog w hb "_law_pieces" (defOf "_law_pieces").2.2 s.heap.objs.size f cd nmP t).env = envOf "_law_pieces" (defOf "_law_pieces").2.2 s.heap.objs.size f cd := rfl
  have p4 : (lawF prog w hb "_law_pieces" (defOf "_law_pieces").2.2 s.heap.objs.size f cd nmP t).nm = nmP := rfl
  have p1 : (lawF prog w hb "_law_pieces" (defOf "_law_pieces").2.2 s.heap.objs.size f cd nmP t).prog = prog := rfl
  have p2 : (lawF prog w hb "_law_pieces" (defOf "_law_pieces").2.2 s.heap.objs.size f cd nmP t).w = w := rfl
  have p5 : (lawF prog w hb "_law_pieces" (defOf "_law_pieces").2.2 s.heap.objs.size f cd nmP t).hb = hb := rfl
  have p6 : (lawF prog w hb "_law_pieces" (defOf "_law_pieces").2.2 s.heap.objs.size f cd nmP t).cell = none := rfl
  have p7 : (lawF prog w hb "_law_pieces" (defOf "_law_pieces").2.2 s.heap.objs.size f cd nmP t).st = some t := rfl
  generalize lawF prog w hb "_law_pieces" (defOf "_law_pieces").2.2 s.heap.objs.size f cd nmP t = F at *
  rw [← p3, ← p4]
  subst p1 p2 p5
  have hnl : F.nm.length = 7 := by rw [p4]; rfl
  with_reducible refine pieces_core W (deeper_ok hA (by decide)) O X hnl p6 p7 hkr I (fx _) (fun _ => ⟨oL, hoL⟩) hrun hlen fun D ws s' hsh hk tp hex hdr' hD hp hden => ?_
  refine hQ D ws s' ?_ tp hex hdr' hD hp hden
  obtain ⟨h, tk, e⟩ := hsh
  subst e
  exact ⟨h, tk, rfl, fun b o e hb => hk b o e hb⟩
end
end Mine

namespace Mine
open PySem PySem.W PySem.Calls PyProof.Rows PySem.Spec

section
variable {F : FC}

def eloop (cf : Cfg) (xi : Nat) (tg : Tg) (body : SL) (k : Nat) : Nat → List AV → St → Option St
  | _, [], σ => some σ
  | i, d :: ds, σ => if canV cf σ.loc xi = true then (match tg.bind cf (σ.loc.set xi (.v (.int i))) d with
    | some l => (match body.ex cf k ⟨l, σ.dr⟩ with
      | some (_, σ') => eloop cf xi tg body k (i + 1) ds σ'
      | none => none)
    | none => none) else none

structure AsideW (F : FC) (wr : List Nat) (adr : Nat → Addr) (It : Addr) : Prop where
  own : ¬ F.own It
  adr : ∀ x ∈ wr, adr x ≠ It
theorem AsideW.w1 {adr : Nat → Addr} {It : Addr} {wr : List Nat} (a : AsideW F wr adr It) : ¬ F.W1 adr wr It := by
  rintro (h | ⟨x, h⟩ | ⟨t, h, e⟩ | ⟨x, hx, h⟩)
  · exact a.own (.inl h)
  · exact a.own (.inr (.inl ⟨x, h⟩))
  · exact a.own (.inr (.inr ⟨t, h, .inl e⟩))
  · exact a.adr x hx h.symm
theorem AsideW.step {adr adr' : Nat → Addr} {It : Addr} {wr : List Nat} (a : AsideW F wr adr It) {σ' : St} {s s' : Shared} (g : GoodS F wr adr adr' σ' s s') (hi : ∃ o, s.heap.get? It = some o) : AsideW F wr adr' It where
  own := a.own
  adr := fun x hx e => by
    rcases g.adr x with h | ⟨_, h⟩
    · exact a.adr x hx (h ▸ e)
    · obtain ⟨o, ho⟩ := hi
      rw [e, ho] at h; cases h
theorem Aside.W {adr : Nat → Addr} {It : Addr} (a : Aside F adr It) (wr : List Nat) : AsideW F wr adr It := ⟨a.own, fun x _ => a.adr x⟩

theorem enum_loop (O : F.Ok) {cf : Cfg} (X : Ext F cf) {A : Around} (hA : AOk 2 A) {xi : Nat} {pi pt : Pos} {x1 : Nat} {tg : Tg} {body : SL} {k : Nat} {s₀ : Shared} {σ' : St} {e it La : Addr} {ws : List Value} {items : List AV} {R : Result → Shared → Prop}
    (he₀ : s₀.heap.get? e = none) (hi₀ : s₀.heap.get? it = none) (hei : e ≠ it) (hle : La ≠ e) (hli : La ≠ it) (hR : ∀ adr' s', Inv F σ' adr' s'.heap → Fx F s₀ s' adr' → R (.ok .next) s')
    {s : Shared} {σ : St} {adr : Nat → Addr} (I : Inv F σ adr s.heap) (f : Fx F s₀ s adr) (ae : Aside F adr e) (ai : Aside F adr it) (al : AsideW F cf.wr adr La) (hen : IsEnum s.heap e it 0 .none) (hit : s.heap.IsListIter it La 0) (hl : s.heap.PlainList La ws.toArray) (hden : Dens s.heap ws items)
    (hrun : eloop cf xi tg body k 0 items σ = some σ') :
    codeAny (model F.prog F.w) A (.forLoop (.Tuple [.Name (nmAt F.nm xi) pi, tg.tr F.nm] x1 pt) (.ref e) (body.tr F.nm) [] F.env) R s := by
  have hlen := hden.length
  refine codeAny_forLoop_any (fun k' s' => ∃ (i : Nat) (σ₁ : St) (adr₁ : Nat → Addr) (old : Value), k' = items.length + 1 - i ∧ i ≤ items.length ∧ IsEnum s'.heap e it ((i : Nat) : Int) old ∧ s'.heap.IsListIter it La i ∧ s'.heap.PlainList La ws.toArray ∧ Dens s'.heap ws items ∧
    eloop cf xi tg body k i (items.drop i) σ₁ = some σ' ∧ Inv F σ₁ adr₁ s'.heap ∧ Fx F s₀ s' adr₁ ∧ Aside F adr₁ e ∧ Aside F adr₁ it ∧ AsideW F cf.wr adr₁ La) ?_ (items.length + 1)
    ⟨0, σ, adr, .none, rfl, Nat.zero_le _, hen, hit, hl, hden, hrun, I, f, ae, ai, al⟩
  rintro k' s₁ ⟨i, σ₁, adr₁, old, rfl, hi, hen₁, hit₁, hl₁, hden₁, hr, I₁, f₁, ae₁, ai₁, al₁⟩
  have notTup : ∀ {h : Heap} {a : Addr} {o : Obj} {ty : String}, h.get? a = some o → o.cls = .type ty → ty ≠ "tuple" → ∀ o', h.get? a = some o' → o'.cls ≠ .type "tuple" := fun e1 e2 e3 o' e4 e5 => by
    rw [e1] at e4; cases e4
    rw [e2] at e5
    exact e3 (Value.type.inj e5)
  have nte : ∀ {h : Heap} {n : Int} {o : Value}, IsEnum h e it n o → ∀ o', h.get? e = some o' → o'.cls ≠ .type "tuple" := fun hh => notTup hh rfl (by decide)
  have nti : ∀ {h : Heap} {n : Nat}, h.IsListIter it La n → ∀ o', h.get? it = some o' → o'.cls ≠ .type "tuple" := fun hh => let ⟨o, ho, hc, _⟩ := hh; notTup ho hc (by decide)
  by_cases hlt : i < items.length
  · have hdrop : items.drop i = items[i] :: items.drop (i + 1) := List.drop_eq_getElem_cons hlt
    rw [hdrop] at hr
    simp only [eloop] at hr
    split at hr
    · rename_i hc
      split at hr
      · rename_i l₂ el
        split at hr
        · rename_i fl σ₂ eb
          obtain ⟨v, hv, hvd⟩ := hden₁.get (List.getElem?_eq_getElem hlt)
          refine wpAny_pyNext_enum_item hen₁ hit₁ hl₁.isList (by simpa using hv) hei fun h₂ heo hit₂ ht₂ hz₂ hk₂ => ?_
          refine wpAny_letOwnedTupleGo_enum heo fun h₃ he₃ hs₃ => ?_
          replace hs₃ : Heap.SameBut e h₂ h₃ := hs₃
          have heH : e < s₁.heap.objs.size := Heap.lt_size hen₁
          have ht₃ : IsTup h₃ s₁.heap.objs.size #[.int i s₁.toks, v] := ⟨_, (hs₃.2 _ (Nat.ne_of_gt heH)).trans ht₂, rfl, _, rfl⟩
          have tp₂ : TP s₁.heap h₂ := fun b o e' hcls _ => hk₂ b o (fun eb => nte hen₁ o (eb ▸ e') hcls) (fun eb => nti hit₁ o (eb ▸ e') hcls) e'
          have tp₃ : TP h₂ h₃ := fun b o e' hcls _ => (hs₃.2 b fun eb => notTup (h := h₂) (a := e) heo rfl (by decide) o (eb ▸ e') hcls).trans e'
          -- the frame after the step
          have I₂ : Inv F σ₁ adr₁ h₂ := by
            have step1 : ∃ hm : Heap, (∀ b o, s₁.heap.get? b = some o → b ≠ e → hm.get? b = some o) ∧ True := ⟨s₁.heap, fun _ _ e' _ => e', trivial⟩
            exact {
              base := fun b o e' => hk₂ b o (fun eb => by rw [eb, ae₁.base] at e'; cases e') (fun eb => by rw [eb, ai₁.base] at e'; cases e') (I₁.base b o e')
              loc := by
                obtain ⟨m, ⟨o, es, ep, ho, q⟩, hs⟩ := I₁.loc
                refine ⟨m, ⟨o, es, ep, hk₂ _ _ (fun e' => ae₁.own (.inl e'.symm)) (fun e' => ai₁.own (.inl e'.symm)) ho, q⟩, fun x sl e' => ?_⟩
                have hv : ∀ v, VarIs F s₁.heap m x v → VarIs F h₂ m x v := by
                  intro v hv
                  unfold VarIs at hv ⊢
                  split
                  · rename_i y c ec
                    rw [ec] at hv
                    simp only at hv
                    split at hv
                    · rename_i exy
                      rw [if_pos exy]
                      obtain ⟨o, ho, hd⟩ := hv
                      exact ⟨o, hk₂ c o (fun e => ae₁.own (.inr (.inl ⟨y, by rw [ec, e]⟩))) (fun e => ai₁.own (.inr (.inl ⟨y, by rw [ec, e]⟩))) ho, hd⟩
                    · rename_i exy
                      rw [if_neg exy]
                      exact hv
                  · rename_i ec
                    rw [ec] at hv
                    exact hv
                have := hs x sl e'
                cases sl with
                | u => trivial
                | v d => obtain ⟨v, h1, h2⟩ := this; exact ⟨v, hv v h1, h2.mono tp₂⟩
                | s => obtain ⟨t, h1, h2⟩ := this; exact ⟨t, h1, hv _ h2⟩
                | l vs => obtain ⟨h1, ws, ⟨n, h2⟩, h3⟩ := this; exact ⟨hv _ h1, ws, ⟨n, hk₂ _ _ (ae₁.adr x) (ai₁.adr x) h2⟩, h3.mono tp₂⟩
              cellIs := fun x c ec => by
                obtain ⟨v, o, ho, hd⟩ := I₁.cellIs x c ec
                exact ⟨v, o, hk₂ _ _ (fun e => ae₁.own (.inr (.inl ⟨x, by rw [ec, e]⟩))) (fun e => ai₁.own (.inr (.inl ⟨x, by rw [ec, e]⟩))) ho, hd⟩
              apart := I₁.apart
              dr := fun t et => (I₁.dr t et).keep (fun o ho => hk₂ _ o (fun ea => ae₁.own (.inr (.inr ⟨t, et, .inl ea.symm⟩))) (fun ea => ai₁.own (.inr (.inr ⟨t, et, .inl ea.symm⟩))) ho) fun o ho => hk₂ _ o (fun ea => ae₁.own (.inr (.inr ⟨t, et, .inr ea.symm⟩))) (fun ea => ai₁.own (.inr (.inr ⟨t, et, .inr ea.symm⟩))) ho }
          have I₃ : Inv F σ₁ adr₁ h₃ := I₂.but (fun b o e' hb => (hs₃.2 b hb).trans e') tp₃ ae₁.own ae₁.base fun x vs _ => ae₁.adr x
          have hk₃ : ∀ b o, b ≠ e → b ≠ it → s₁.heap.get? b = some o → h₃.get? b = some o := fun b o h1 h2 e' => (hs₃.2 b h1).trans (hk₂ b o h1 h2 e')
          have f₃ : Fx F s₀ { s₁ with heap := h₃, toks := s₁.toks + 1 } adr₁ := by
            refine ⟨?_, fun b o e' hw => hk₃ b o (fun eb => by rw [eb, he₀] at e'; cases e') (fun eb => by rw [eb, hi₀] at e'; cases e') (f₁.keep b o e' hw), fun b o e' => ?_, f₁.tp.trans (tp₂.trans tp₃), f₁.adr, f₁.loc, f₁.cell⟩
            · obtain ⟨h, tk', e'⟩ := f₁.shape
              exact ⟨h₃, s₁.toks + 1, by rw [e']⟩
            · obtain ⟨o', e''⟩ := f₁.ex b o e'
              exact ⟨o', hk₃ b o' (fun eb => by rw [eb, he₀] at e'; cases e') (fun eb => by rw [eb, hi₀] at e'; cases e') e''⟩
          have hl₃ : h₃.PlainList La ws.toArray := let ⟨n, ho⟩ := hl₁; ⟨n, hk₃ _ _ hle hli ho⟩
          have hit₃ : h₃.IsListIter it La (i + 1) := let ⟨o, ho, q⟩ := hit₂; ⟨o, (hs₃.2 _ (Ne.symm hei)).trans ho, q⟩
          have hden₃ : Dens h₃ ws items := hden₁.mono (tp₂.trans tp₃)
          obtain ⟨l₁, d₁⟩ := σ₁
          have hassign : assignEach [.Name (nmAt F.nm xi) pi, tg.tr F.nm] F.env = [(false, assign (.Name (nmAt F.nm xi) pi) F.env), (false, assign (tg.tr F.nm) F.env)] := by
            cases tg <;> simp [assignEach, Tg.tr]
          refine PyProof.Rows.assign_Tuple_tuple (s := { s₁ with heap := h₃, toks := s₁.toks + 1 }) hA.1 ht₃ (by rw [hassign]; rfl) (by rw [hassign]; rfl) fun h₄ hx₄ => ?_
          have hk₄ : ∀ b o, h₃.get? b = some o → h₄.get? b = some o := fun b o e' => hx₄ b o (lt_none e') e'
          rw [hassign]
          have g₄ := GoodS.grow0 (wr := cf.wr) (s := { s₁ with heap := h₃, toks := s₁.toks + 1 }) (h' := h₄) (tk := s₁.toks + 1) O I₃ hk₄
          show wpAny _ A (do holding [v] (assign (.Name (nmAt F.nm xi) pi) F.env (.int i s₁.toks)); do holding [] (assign (tg.tr F.nm) F.env v); pure ()) _ _ _
          refine wpAny_bind (wpAny_holding (tr_assign1 O X hc g₄.inv (.int _ _) fun s₅ g₅ _ => ?_))
          refine wpAny_bind (wpAny_holding (Tg.sound O X hA.1 tg el g₅.inv (((hvd.mono (tp₂.trans tp₃)).mono g₄.tp).mono g₅.tp) fun s₆ g₆ _ => wpAny_pure ?_))
          refine (ex_sound O X hA k).2 body _ _ _ eb adr₁ s₆ _ _ g₆.inv fun adr₇ s₇ g₇ => ?_
          -- carry the iterators through
          have G := ((g₄.trans g₅).trans g₆).trans g₇
          have e₇ : IsEnum s₇.heap e it ((i : Int) + 1) v := G.stp.keep _ _ he₃ (ae₁.W cf.wr).w1
          have i₇ : s₇.heap.IsListIter it La (i + 1) := let ⟨o, ho, q⟩ := hit₃; ⟨o, G.stp.keep _ _ ho (ai₁.W cf.wr).w1, q⟩
          have p₇ : s₇.heap.PlainList La ws.toArray := let ⟨n, ho⟩ := hl₃; ⟨n, G.stp.keep _ _ ho al₁.w1⟩
          have done : ∃ m, m < items.length + 1 - i ∧ ∃ (i : Nat) (σ₁ : St) (adr₁ : Nat → Addr) (old : Value), m = items.length + 1 - i ∧ i ≤ items.length ∧ IsEnum s₇.heap e it ((i : Nat) : Int) old ∧ s₇.heap.IsListIter it La i ∧ s₇.heap.PlainList La ws.toArray ∧ Dens s₇.heap ws items ∧
              eloop cf xi tg body k i (items.drop i) σ₁ = some σ' ∧ Inv F σ₁ adr₁ s₇.heap ∧ Fx F s₀ s₇ adr₁ ∧ Aside F adr₁ e ∧ Aside F adr₁ it ∧ AsideW F cf.wr adr₁ La := by
            refine ⟨items.length + 1 - (i + 1), by omega, i + 1, σ₂, adr₇, v, rfl, hlt, ?_, i₇, p₇, hden₃.mono G.tp, hr, g₇.inv, f₃.step G, ae₁.step G ⟨_, he₃⟩, ai₁.step G ?_, al₁.step G ?_⟩
            · have : ((i + 1 : Nat) : Int) = (i : Int) + 1 := by push_cast; rfl
              rw [this]; exact e₇
            · obtain ⟨o, ho, _⟩ := hit₃; exact ⟨o, ho⟩
            · obtain ⟨n, ho⟩ := hl₃; exact ⟨_, ho⟩
          cases fl <;> exact done
        · cases hr
      · cases hr
    · cases hr
  · have hie : i = items.length := by omega
    subst hie
    rw [List.drop_length] at hr
    simp only [eloop] at hr
    cases hr
    refine wpAny_pyNext_enum_end hA.1 hen₁ hit₁ hl₁.isList (by simp [hlen]) fun h₂ hx₂ => wpAny_execs_nil ?_
    have hk₂ : ∀ b o, s₁.heap.get? b = some o → b ≠ it → h₂.get? b = some o := fun b o e' hb => hx₂ b o hb e'
    have tp₂ : TP s₁.heap h₂ := fun b o e' hcls _ => hk₂ b o e' fun eb => nti hit₁ o (eb ▸ e') hcls
    exact hR adr₁ _ (I₁.but hk₂ tp₂ ai₁.own ai₁.base fun x vs _ => ai₁.adr x) (f₁.but (tk := s₁.toks) hk₂ tp₂ hi₀)
end
end Mine

namespace Mine
open PySem PySem.W PySem.Calls PyProof.Rows PySem.Spec

section
variable {F : FC}

theorem swapped_three (O : F.Ok) {x y z : Nat} {xp yp zp tp : Pos} {tk : Nat} {lp lq lr : Pos} {vk : Nat} {vp : Pos} {n1 n2 n3 : Str} (h1 : F.nm[x]? = some n1) (h2 : F.nm[y]? = some n2) (h3 : F.nm[z]? = some n3)
    (hx : ∀ u c, F.cell = some (u, c) → x ≠ u) (hy : ∀ u c, F.cell = some (u, c) → y ≠ u) (hz : ∀ u c, F.cell = some (u, c) → z ≠ u)
    (hxy : x ≠ y) (hxz : x ≠ z) (hyz : y ≠ z) (hl : (xp.line == yp.line) = true) (hl2 : (xp.line == zp.line) = true) :
    swappedStores [.Tuple [.Name (nmAt F.nm x) xp, .Name (nmAt F.nm y) yp, .Name (nmAt F.nm z) zp] tk tp] (.Tuple [.List [] lp, .List [] lq, .List [] lr] vk vp) F.env = pure (some [nmAt F.nm x, nmAt F.nm y, nmAt F.nm z]) := by
  rw [nmAt_of h1, nmAt_of h2, nmAt_of h3]
  have k1 := O.loc x n1 h1 hx
  have k2 := O.loc y n2 h2 hy
  have k3 := O.loc z n3 h3 hz
  have bk : (F.env.blockKind != .function) = false := by
    simp only [Env.blockKind, O.kind, ScopeKind.isAnnotationScope]; rfl
  have ne : ∀ {a b : Nat} {m1 m2 : Str}, F.nm[a]? = some m1 → F.nm[b]? = some m2 → a ≠ b → m1 ≠ m2 := fun ha hb hab e => hab ((List.getElem?_inj (List.getElem?_eq_some_iff.mp ha).1 O.len).mp (ha.trans (e ▸ hb.symm)))
  have hdup : ([n1, n2, n3] : List Str).eraseDups.length = 3 := by
    have a1 : (n2 == n1) = false := beq_eq_false_iff_ne.mpr (Ne.symm (ne h1 h2 hxy))
    have a2 : (n3 == n1) = false := beq_eq_false_iff_ne.mpr (Ne.symm (ne h1 h3 hxz))
    have a3 : (n3 == n2) = false := beq_eq_false_iff_ne.mpr (Ne.symm (ne h2 h3 hyz))
    simp [List.eraseDups_cons, a1, a2, a3]
  have hl' : (yp.line == xp.line) = true := by rw [beq_iff_eq] at hl ⊢; exact hl.symm
  have hl2' : (zp.line == xp.line) = true := by rw [beq_iff_eq] at hl2 ⊢; exact hl2.symm
  unfold swappedStores
  simp only [List.length_cons, List.length_nil, bk, Bool.or_false]
  simp only [List.head?_cons, Option.map_some, Option.getD_some, List.filterMap_cons, List.filterMap_nil, Expr.pos, k1, k2, k3, hl', hl2', beq_self_eq_true, Bool.and_self, if_true, List.length_cons, List.length_nil, hdup, bne_self_eq_false, Bool.or_false, List.all_cons, Bool.false_and, Bool.false_eq_true, if_false]
  first | rfl | simp


theorem newnil {A : Around} {s : Shared} {lp : Pos} {env : Env} {prog : Program} {w : World} {Q : Value → Shared → Prop} {Er : Value → Shared → Prop} (hQ : Q (.ref s.heap.objs.size) { s with heap := s.heap.push { cls := .type "list", data := .seq #[] } }) :
    wpAny (model prog w) A (eval (.List [] lp) env) Q Er s :=
  wpAny_List (spliced_none ⟨(by decide : 0 ≤ sizeLine), hQ⟩)

/-- three new empty lists at the end of a heap -/
theorem fresh_of {adr : Nat → Addr} {σ : St} {h h' : Heap} (I : Inv F σ adr h) (hk : ∀ b o, h.get? b = some o → h'.get? b = some o) : ¬ F.own h'.objs.size ∧ F.hb.get? h'.objs.size = none ∧ h.get? h'.objs.size = none ∧ (∀ y vs, σ.loc[y]? = some (.l vs) → adr y ≠ h'.objs.size) := by
  have no : ∀ {b o}, h.get? b = some o → b ≠ h'.objs.size := fun e => lt_none (hk _ _ e)
  refine ⟨fun hb => ?_, ?_, ?_, fun y vs e => ?_⟩
  · obtain ⟨o, e⟩ := I.own_lt hb
    exact no e rfl
  · cases q : F.hb.get? h'.objs.size with
    | none => rfl
    | some o => exact absurd rfl (no (I.base _ _ q))
  · cases q : h.get? h'.objs.size with
    | none => rfl
    | some o => exact absurd rfl (no q)
  · obtain ⟨ws, ⟨n, e⟩, _⟩ := I.list_at e
    exact no e

theorem exists_at {wr : List Nat} {adr adr' : Nat → Addr} {l : List Slot} {d : Dr} {s s' : Shared} (g : GoodS F wr adr adr' ⟨l, d⟩ s s') {z : Nat} {vs : List AV} (e : l[z]? = some (.l vs)) : ∃ o, s'.heap.get? (adr' z) = some o := by
  obtain ⟨ws, ⟨n, h⟩, _⟩ := g.inv.list_at e
  exact ⟨_, h⟩

/-- spans, lines, line, depth = ([], [], '', 0) -/
theorem st1_sound (O : F.Ok) {cf : Cfg} (X : Ext F cf) {adr : Nat → Addr} {l : List Slot} {A : Around} (hA : AOk 2 A) {d : Dr} {p1 p2 p3 p4 tp l1 l2 q3 q4 vp p : Pos} {tk vk k3 k4 : Nat}
    (hn : F.nm.length = 18) (hl : l.length = 18) (hno : ∀ (y : Nat) (vs : List AV), l[y]? ≠ some (Slot.l vs)) (hw2 : 2 ∈ cf.wr) (hw3 : 3 ∈ cf.wr)
    (hc4 : canV cf ((l.set 2 (.l [])).set 3 (.l [])) 4 = true) (hc5 : canV cf ((l.set 2 (.l [])).set 3 (.l [])) 5 = true)
    {s : Shared} {Q : Flow → Shared → Prop} {Er : Value → Shared → Prop} (I : Inv F ⟨l, d⟩ adr s.heap)
    (hQ : ∀ adr' s', GoodS F cf.wr adr adr' ⟨(((l.set 2 (.l [])).set 3 (.l [])).set 4 (.v (.str ""))).set 5 (.v (.int 0)), d⟩ s s' → (∀ z, adr' z = adr z ∨ ∃ o, s'.heap.get? (adr' z) = some o) → Q .next s') :
    wpAny (model F.prog F.w) A (exec (.Assign [.Tuple [.Name (nmAt F.nm 2) p1, .Name (nmAt F.nm 3) p2, .Name (nmAt F.nm 4) p3, .Name (nmAt F.nm 5) p4] tk tp] (.Tuple [.List [] l1, .List [] l2, .Constant (.str "") k3 q3, .Constant (.int 0) k4 q4] vk vp) p) F.env) Q Er s := by
  refine PyProof.Rows.Assign_Tuple ?_ (by rfl) (by rfl)
  refine wpAny_Tuple (spliced_more (newnil (spliced_more (newnil (spliced_more (Calls.Constant_str (spliced_more (wpAny_Constant_int (spliced_none ?_)) rfl)) rfl)) rfl)) rfl)
  refine ⟨show 4 ≤ sizeLine by decide, ?_⟩
  dsimp only
  generalize h1e : s.heap.push { cls := .type "list", data := .seq #[] } = h1
  have k1 : ∀ b o, s.heap.get? b = some o → h1.get? b = some o := fun b o e => by rw [← h1e]; exact Heap.get?_push_of_some _ e
  have P1 : h1.PlainList s.heap.objs.size #[] := ⟨0, by rw [← h1e]; exact Heap.get?_push_size _ rfl⟩
  generalize h2e : h1.push { cls := .type "list", data := .seq #[] } = h2
  have k2 : ∀ b o, h1.get? b = some o → h2.get? b = some o := fun b o e => by rw [← h2e]; exact Heap.get?_push_of_some _ e
  have P2 : h2.PlainList h1.objs.size #[] := ⟨0, by rw [← h2e]; exact Heap.get?_push_size _ rfl⟩
  have kP : ∀ {a b : Heap} {D : Addr} {ws : Array Value}, (∀ b' o, a.get? b' = some o → b.get? b' = some o) → a.PlainList D ws → b.PlainList D ws := fun k ⟨n, ho⟩ => ⟨n, k _ _ ho⟩
  have F1 := fresh_of (h' := s.heap) I (fun _ _ e => e)
  have F2 := fresh_of (h' := h1) I k1
  have D12 : s.heap.objs.size ≠ h1.objs.size := by obtain ⟨n, ho⟩ := P1; exact lt_none ho
  refine PyProof.Rows.assign_Tuple_tuple hA.1 (IsTup.new _ _) (by rfl) (by rfl) fun h4 he4 => ?_
  have k4 : ∀ b o, h2.get? b = some o → h4.get? b = some o := fun b o e => he4 b o (Nat.ne_of_lt (Nat.lt_of_lt_of_le (Heap.lt_size e) (by rw [Heap.size_push]; exact Nat.le_succ _))) (Heap.get?_push_of_some _ e)
  have k04 : ∀ b o, s.heap.get? b = some o → h4.get? b = some o := fun b o e => k4 b o (k2 b o (k1 b o e))
  have P14 : h4.PlainList s.heap.objs.size #[] := kP k4 (kP k2 P1)
  have P24 : h4.PlainList h1.objs.size #[] := kP k4 P2
  have g4 := GoodS.grow0 (wr := cf.wr) (h' := h4) (tk := s.toks + 1 + 1) O I k04
  show wpAny _ A (do holding _ (assign (.Name (nmAt F.nm 2) p1) F.env (.ref s.heap.objs.size)); do holding _ (assign (.Name (nmAt F.nm 3) p2) F.env (.ref h1.objs.size)); do holding _ (assign (.Name (nmAt F.nm 4) p3) F.env (.str "" _)); do holding _ (assign (.Name (nmAt F.nm 5) p4) F.env (.int 0 _)); pure ()) _ _ _
  refine wpAny_bind (wpAny_holding (wpAny_assign_Name (storeLk (ws := []) (vs := []) O (by omega) hw2 g4 P14 .nil F1.2.2.1 F1.1 F1.2.1 (fun y vs e => absurd e (hno y vs)) fun s5 g5 hk5 => ?_)))
  refine wpAny_bind (wpAny_holding (wpAny_assign_Name (storeLk (ws := []) (vs := []) O (by omega) hw3 g5 (let ⟨n, ho⟩ := P24; ⟨n, hk5 _ _ ho F2.1⟩) .nil F2.2.2.1 F2.1 F2.2.1 (fun y vs e => ?_) fun s6 g6 hk6 => ?_)))
  · rcases getElem?_set_cases e with ⟨rfl, _⟩ | ⟨_, q⟩
    · simp only [if_pos]; exact D12
    · exact absurd q (hno y vs)
  refine wpAny_bind (wpAny_holding (tr_assign1 O X hc4 g6.inv (.str _ _) fun s7 g7 _ => ?_))
  refine wpAny_bind (wpAny_holding (tr_assign1 O X (canV_set hc5) g7.inv (.int _ _) fun s8 g8 _ => wpAny_pure ?_))
  have G := (g6.trans g7).trans g8
  refine hQ _ _ G fun z => ?_
  by_cases z3 : z = 3
  · subst z3
    exact .inr (exists_at G (vs := []) (by simp [hl]))
  · by_cases z2 : z = 2
    · subst z2
      exact .inr (exists_at G (vs := []) (by simp [hl]))
    · left; simp [z2, z3]

/-- before, after, joins = ([], [], []) -/
theorem st2_sound (O : F.Ok) {cf : Cfg} {adr : Nat → Addr} {l : List Slot} {A : Around} (hA : AOk 2 A) {d : Dr} {p1 p2 p3 tp l1 l2 l3 vp p : Pos} {tk vk : Nat}
    (hn : F.nm.length = 18) (hl : l.length = 18) (hno : ∀ (y : Nat) (vs : List AV), l[y]? = some (Slot.l vs) → y < 6) (hw6 : 6 ∈ cf.wr) (hw7 : 7 ∈ cf.wr) (hw8 : 8 ∈ cf.wr) (hcell : ∀ u c, F.cell = some (u, c) → u = 3)
    (hln : (p1.line == p2.line) = true) (hln2 : (p1.line == p3.line) = true)
    {s : Shared} {Q : Flow → Shared → Prop} {Er : Value → Shared → Prop} (I : Inv F ⟨l, d⟩ adr s.heap)
    (hQ : ∀ adr' s', GoodS F cf.wr adr adr' ⟨((l.set 8 (.l [])).set 7 (.l [])).set 6 (.l []), d⟩ s s' → (∀ z, adr' z = adr z ∨ ∃ o, s'.heap.get? (adr' z) = some o) → Q .next s') :
    wpAny (model F.prog F.w) A (exec (.Assign [.Tuple [.Name (nmAt F.nm 6) p1, .Name (nmAt F.nm 7) p2, .Name (nmAt F.nm 8) p3] tk tp] (.Tuple [.List [] l1, .List [] l2, .List [] l3] vk vp) p) F.env) Q Er s := by
  have e6 : F.nm[6]? = some F.nm[6] := List.getElem?_eq_getElem (by omega)
  have e7 : F.nm[7]? = some F.nm[7] := List.getElem?_eq_getElem (by omega)
  have e8 : F.nm[8]? = some F.nm[8] := List.getElem?_eq_getElem (by omega)
  refine Assign_Tuple_swapped ?_ (by rfl) (swapped_three O e6 e7 e8 (fun u c h e => by have := hcell u c h; omega) (fun u c h e => by have := hcell u c h; omega) (fun u c h e => by have := hcell u c h; omega) (by decide) (by decide) (by decide) hln hln2)
  refine wpAny_Tuple (spliced_more (newnil (spliced_more (newnil (spliced_more (newnil (spliced_none ?_)) rfl)) rfl)) rfl)
  refine ⟨show 3 ≤ sizeLine by decide, ?_⟩
  dsimp only
  generalize h1e : s.heap.push { cls := .type "list", data := .seq #[] } = h1
  have k1 : ∀ b o, s.heap.get? b = some o → h1.get? b = some o := fun b o e => by rw [← h1e]; exact Heap.get?_push_of_some _ e
  have P1 : h1.PlainList s.heap.objs.size #[] := ⟨0, by rw [← h1e]; exact Heap.get?_push_size _ rfl⟩
  generalize h2e : h1.push { cls := .type "list", data := .seq #[] } = h2
  have k2 : ∀ b o, h1.get? b = some o → h2.get? b = some o := fun b o e => by rw [← h2e]; exact Heap.get?_push_of_some _ e
  have P2 : h2.PlainList h1.objs.size #[] := ⟨0, by rw [← h2e]; exact Heap.get?_push_size _ rfl⟩
  generalize h3e : h2.push { cls := .type "list", data := .seq #[] } = h3
  have k3 : ∀ b o, h2.get? b = some o → h3.get? b = some o := fun b o e => by rw [← h3e]; exact Heap.get?_push_of_some _ e
  have P3 : h3.PlainList h2.objs.size #[] := ⟨0, by rw [← h3e]; exact Heap.get?_push_size _ rfl⟩
  have kP : ∀ {a b : Heap} {D : Addr} {ws : Array Value}, (∀ b' o, a.get? b' = some o → b.get? b' = some o) → a.PlainList D ws → b.PlainList D ws := fun k ⟨n, ho⟩ => ⟨n, k _ _ ho⟩
  have F1 := fresh_of (h' := s.heap) I (fun _ _ e => e)
  have F2 := fresh_of (h' := h1) I k1
  have F3 := fresh_of (h' := h2) I fun b o e => k2 b o (k1 b o e)
  have D12 : s.heap.objs.size ≠ h1.objs.size := by obtain ⟨n, ho⟩ := P1; exact lt_none ho
  have D13 : s.heap.objs.size ≠ h2.objs.size := by obtain ⟨n, ho⟩ := kP k2 P1; exact lt_none ho
  have D23 : h1.objs.size ≠ h2.objs.size := by obtain ⟨n, ho⟩ := P2; exact lt_none ho
  show wpAny _ A (unpackItems (.ref h3.objs.size) (#[.ref s.heap.objs.size, .ref h1.objs.size, .ref h2.objs.size] : Array Value).size none) _ _ _
  refine unpackItems_tuple hA.1 (IsTup.new _ _) fun h4 he4 => ?_
  have k4 : ∀ b o, h3.get? b = some o → h4.get? b = some o := fun b o e => he4 b o (Nat.ne_of_lt (Nat.lt_of_lt_of_le (Heap.lt_size e) (by rw [Heap.size_push]; exact Nat.le_succ _))) (Heap.get?_push_of_some _ e)
  have k04 : ∀ b o, s.heap.get? b = some o → h4.get? b = some o := fun b o e => k4 b o (k3 b o (k2 b o (k1 b o e)))
  have P14 : h4.PlainList s.heap.objs.size #[] := kP k4 (kP k3 (kP k2 P1))
  have P24 : h4.PlainList h1.objs.size #[] := kP k4 (kP k3 P2)
  have P34 : h4.PlainList h2.objs.size #[] := kP k4 P3
  have g4 := GoodS.grow0 (wr := cf.wr) (h' := h4) (tk := s.toks) O I k04
  show wpAny _ A (do holding _ (bindName F.env (nmAt F.nm 8) (.ref h2.objs.size)); do holding _ (bindName F.env (nmAt F.nm 7) (.ref h1.objs.size)); do holding _ (bindName F.env (nmAt F.nm 6) (.ref s.heap.objs.size)); pure ()) _ _ _
  refine wpAny_bind (wpAny_holding (wpAny_bindName (storeLk (ws := []) (vs := []) O (by omega) hw8 g4 P34 .nil F3.2.2.1 F3.1 F3.2.1 (fun y vs e => F3.2.2.2 y vs e) fun s5 g5 hk5 => ?_)))
  refine wpAny_bind (wpAny_holding (wpAny_bindName (storeLk (ws := []) (vs := []) O (by omega) hw7 g5 (let ⟨n, ho⟩ := P24; ⟨n, hk5 _ _ ho F2.1⟩) .nil F2.2.2.1 F2.1 F2.2.1 (fun y vs e => ?_) fun s6 g6 hk6 => ?_)))
  · rcases getElem?_set_cases e with ⟨rfl, _⟩ | ⟨hy, q⟩
    · simp only [if_pos]; exact Ne.symm D23
    · simp only [if_neg hy]; exact F2.2.2.2 y vs q
  refine wpAny_bind (wpAny_holding (wpAny_bindName (storeLk (ws := []) (vs := []) O (by omega) hw6 g6 (let ⟨n, ho⟩ := P14; ⟨n, hk6 _ _ (hk5 _ _ ho F1.1) F1.1⟩) .nil F1.2.2.1 F1.1 F1.2.1 (fun y vs e => ?_) fun s7 g7 hk7 => wpAny_pure ?_)))
  · rcases getElem?_set_cases e with ⟨rfl, _⟩ | ⟨hy, q⟩
    · simp only [if_pos]; exact Ne.symm D12
    · rcases getElem?_set_cases q with ⟨rfl, _⟩ | ⟨hy2, q2⟩
      · simp only [if_neg hy, if_pos]; exact Ne.symm D13
      · simp only [if_neg hy, if_neg hy2]; exact F1.2.2.2 y vs q2
  refine hQ _ _ g7 fun z => ?_
  by_cases z6 : z = 6
  · subst z6
    exact .inr (exists_at g7 (vs := []) (by simp [hl]))
  · by_cases z7 : z = 7
    · subst z7
      exact .inr (exists_at g7 (vs := []) (by simp [hl]))
    · by_cases z8 : z = 8
      · subst z8
        exact .inr (exists_at g7 (vs := []) (by simp [hl]))
      · left; simp [z6, z7, z8]
end
end Mine

namespace Mine
open PySem PySem.W PySem.Calls PyProof.Rows PySem.Spec

mutual
def AV.py : AV → PyData
  | .none => .none
  | .bool b => .bool b
  | .int i => .int i
  | .str x => .str x
  | .tup ds => .tuple (AV.pys ds)
def AV.pys : List AV → List PyData
  | [] => []
  | d :: ds => d.py :: AV.pys ds
end

mutual
theorem Den.reads {h : Heap} : ∀ {v : Value} {d : AV}, Den h v d → ∃ as, Reads h v d.py as
  | _, _, .none => ⟨_, .none⟩
  | _, _, .bool b => ⟨_, .bool b⟩
  | _, _, .int i t => ⟨_, .int i t⟩
  | _, _, .str x t => ⟨_, .str x t⟩
  | _, _, .tup ht r => by
    obtain ⟨as, q⟩ := Dens.reads r
    obtain ⟨o, ho, hc, n, hd⟩ := ht
    rw [AV.py]
    exact ⟨as, .tuple ho hc hd (by simpa using q)⟩
theorem Dens.reads {h : Heap} : ∀ {vs : List Value} {ds : List AV}, Dens h vs ds → ∃ as, ReadsAll h vs (AV.pys ds) as
  | _, _, .nil => ⟨_, .nil⟩
  | _, _, .cons x r => by
    obtain ⟨as, q⟩ := Den.reads x
    obtain ⟨bs, p⟩ := Dens.reads r
    rw [AV.pys]
    exact ⟨_, .cons q p⟩
end

def Msg (d : AV) : Prop := ∃ (a b : Int) (m : Str), d = .tup [.tup [.int a, .int b], .str m] ∧ PyData.strOk m = true

theorem msgs_py : ∀ {ds : List AV}, (∀ d ∈ ds, Msg d) → PyData.canLayAll0 (AV.pys ds) = true ∧ PyData.depthAll (AV.pys ds) ≤ 3 ∧ PyData.eqvAll (AV.pys ds) (AV.pys ds) = true
  | [], _ => ⟨by simp [AV.pys, PyData.canLayAll0], by simp [AV.pys, PyData.depthAll], by simp [AV.pys, PyData.eqvAll]⟩
  | d :: ds, h => by
    obtain ⟨a, b, m, rfl, hm⟩ := h d (.head _)
    have ih := msgs_py (ds := ds) fun e he => h e (.tail _ he)
    refine ⟨?_, ?_, ?_⟩
    · simp [AV.pys, AV.py, PyData.canLayAll0, PyData.canLay0, hm, ih.1]
    · have := ih.2.1
      simp only [AV.pys, AV.py, PyData.depthAll, PyData.depth]
      omega
    · simp [AV.pys, AV.py, PyData.eqvAll, PyData.eqv, ih.2.2]

section
variable {prog : Program} {w : World} {A : Around} {s : Shared} {a b : Addr} {us vs : List Value} {ds : List AV} {Q : Value → Shared → Prop} {Er : Value → Shared → Prop}
theorem list_reads {h : Heap} (hp : h.PlainList a us.toArray) (hd : Dens h us ds) : ∃ as, Reads h (.ref a) (.list (AV.pys ds)) as := by
  obtain ⟨n, ho⟩ := hp
  obtain ⟨as, q⟩ := hd.reads
  exact ⟨_, .list ho rfl rfl (by simpa using q)⟩

theorem shaped_msgs (hm : ∀ d ∈ ds, Msg d) : SeqAt.shaped (.list (AV.pys ds)) = true := by
  have h := msgs_py hm
  unfold SeqAt.shaped
  have h2 := h.2.1
  rw [show PyData.canLay0 (.list (AV.pys ds)) = true by simp only [PyData.canLay0, h.1], Bool.true_and]
  refine decide_eq_true ?_
  show PyData.depth (.list (AV.pys ds)) ≤ 64
  simp only [PyData.depth]
  omega

theorem eq_lists (ha : s.heap.PlainList a us.toArray) (hb : s.heap.PlainList b vs.toArray) (hu : Dens s.heap us ds) (hv : Dens s.heap vs ds) (hm : ∀ d ∈ ds, Msg d) (hA : AOk 8 A) (hQ : Q (.bool true) s) :
    wpAny (model prog w) A (compareOp .Eq (.ref a) (.ref b)) Q Er s := by
  obtain ⟨as, ra⟩ := list_reads ha hu
  obtain ⟨bs, rb⟩ := list_reads hb hv
  refine SeqAt.compareEq_shaped ra rb (shaped_msgs hm) (shaped_msgs hm) (by have := hA.2.2; omega) ?_
  have : PyData.eqv (.list (AV.pys ds)) (.list (AV.pys ds)) = true := by simp only [PyData.eqv]; exact (msgs_py hm).2.2
  rw [this]; exact hQ
theorem ne_lists (ha : s.heap.PlainList a us.toArray) (hb : s.heap.PlainList b vs.toArray) (hu : Dens s.heap us ds) (hv : Dens s.heap vs ds) (hm : ∀ d ∈ ds, Msg d) (hA : AOk 8 A) (hQ : Q (.bool false) s) :
    wpAny (model prog w) A (compareOp .NotEq (.ref a) (.ref b)) Q Er s := by
  obtain ⟨as, ra⟩ := list_reads ha hu
  obtain ⟨bs, rb⟩ := list_reads hb hv
  refine SeqAt.compareNe_shaped ra rb (shaped_msgs hm) (shaped_msgs hm) (by have := hA.2.2; omega) ?_
  have : PyData.eqv (.list (AV.pys ds)) (.list (AV.pys ds)) = true := by simp only [PyData.eqv]; exact (msgs_py hm).2.2
  rw [this]; exact hQ
end
end Mine

namespace Mine
open PySem PySem.W PySem.Calls PyProof.Rows PySem.Spec

def cfT : Cfg := { n := 5, cell := some 4, wr := [], len := true, next := none, tok := false, isb := false }

section
variable {F : FC}

/-- tokens = [... for kind, word, at, start in spans] -/
theorem tok_sound (O : F.Ok) {adr : Nat → Addr} {l : List Slot} {A : Around} (hA : AOk 2 A) {d : Dr} {c : Addr} {spans lines toks : List AV} {p1 p5 p6 p7 : Pos} (hcell : F.cell = some (3, c)) (hn : F.nm.length = 18) (hl : l.length = 18)
    (h2 : locL l 2 = some spans) (h3 : locL l 3 = some lines) (hclos : closureFor scT F.env = pure [(("lines" : Str), c)])
    (hO : ∀ (s : Shared) (C : Addr), s.heap.get? C = none → (∃ o, s.heap.get? c = some o) → (∀ b o, F.hb.get? b = some o → s.heap.get? b = some o) → (compF F scT [("lines", c)] C nmT (some (4, c))).Ok) (hX : ∀ C, Ext (compF F scT [("lines", c)] C nmT (some (4, c))) cfT)
    (hsw : swapsWith (.ListComp (eltT.tr nmT) [⟨tgT.tr nmT, .Name (nmAt F.nm 2) p5, [], 0⟩] scT p6) (some (.Name (nmAt F.nm 17) p1)) p7.line F.env = pure true)
    (hrun : crun cfT tgT eltT (0, 0) spans [.u, .u, .u, .u, .l lines] = some toks) (hlen : spans.length ≤ 1000000)
    {s : Shared} {Q : Flow → Shared → Prop} {Er : Value → Shared → Prop} (I : Inv F ⟨l, d⟩ adr s.heap)
    (hQ : ∀ D s', GoodS F [17] adr (fun y => if y = 17 then D else adr y) ⟨l.set 17 (.l toks), d⟩ s s' → Q .next s') :
    wpAny (model F.prog F.w) A (exec (.Assign [.Name (nmAt F.nm 17) p1] (.ListComp (eltT.tr nmT) [⟨tgT.tr nmT, .Name (nmAt F.nm 2) p5, [], 0⟩] scT p6) p7) F.env) Q Er s := by
  rw [exec_Assign_Name_used _ _ _ _ hsw]
  refine wpAny_bind (wpAny_standAt (wpAny_bind ?_))
  show wpAny _ A (do let _ ← comprehension (.ListComp (eltT.tr nmT) [⟨tgT.tr nmT, .Name (nmAt F.nm 2) p5, [], 0⟩] scT p6) scT F.env _ (newList []) false (eval (.Name (nmAt F.nm 2) p5) F.env) (some (assign (.Name (nmAt F.nm 17) p1) F.env))) _ _ s
  refine wpAny_bind (wpAny_mono (wpAny_comprehension_free (use := some (assign (.Name (nmAt F.nm 17) p1) F.env)) (Q := fun _ s' => Q .next s') rfl (fun x => by rfl) hclos (by rfl) (by decide +kernel) ?_) (fun _ s' hq => wpAny_pure (wpAny_pure hq)) fun _ _ e => e)
  refine load_l O I h2 fun ws hp hd => ?_
  refine wpAny_pyIter_list hp.isList ?_
  obtain ⟨oc, hoc⟩ := I.own_lt (.inr (.inl ⟨3, hcell⟩))
  have hla := I.apart 3 lines (locL_some h3)
  obtain ⟨wl, ⟨nl, hol⟩, hdl⟩ := I.list_at (locL_some h3)
  have fr := I.fresh
  have hwl := hd.length
  generalize hob : ({ cls := .type "list_iterator", data := .fields #[.ref (adr 2), .int 0 0] } : Obj) = ob
  have hof : ob.isFreed = false := by rw [← hob]; rfl
  have hko : ∀ b o', s.heap.get? b = some o' → (s.heap.push ob).get? b = some o' := fun b o' e => Heap.get?_push_of_some _ e
  have hbk : ∀ b o', F.hb.get? b = some o' → (s.heap.push ob).get? b = some o' := fun b o' e => hko b o' (I.base b o' e)
  have hitr : (s.heap.push ob).IsListIter s.heap.objs.size (adr 2) 0 := ⟨_, Heap.get?_push_size _ hof, by rw [← hob], by rw [← hob]; rfl⟩
  have hpl : (s.heap.push ob).PlainList (adr 2) ws.toArray := let ⟨n, ho⟩ := hp; ⟨n, hko _ _ ho⟩
  have ne2 : adr 2 ≠ s.heap.objs.size := let ⟨n, ho⟩ := hp; lt_none ho
  have hsz : ws.toArray.size = spans.length := by rw [List.size_toArray, hwl]
  refine comp_core (F := F) (s := { s with heap := s.heap.push ob }) (cl := [("lines", c)]) (nm := nmT) (cell := some (4, c)) (cf := cfT) (items := spans) (outs := toks) (l₀ := [.u, .u, .u, .u, .l lines]) (dr := (0, 0)) (adr := fun _ => adr 3) (tg := tgT) (elt := eltT)
    (RR := fun acc C => compPost (model F.prog F.w) A Er (some (assign (.Name (nmAt F.nm 17) p1) F.env)) (fun _ s' => Q .next s') acc C) hA (by decide +kernel) (by rfl) (by rfl) (fun C hC => hO { s with heap := s.heap.push ob } C hC ⟨_, hko _ _ hoc⟩ hbk) hX ?_ hbk (fun x c' h => by cases h; exact ⟨_, hko _ _ hoc⟩)
    (hsz ▸ Walks.list hA.1 s.heap.objs.size (adr 2) ne2 ws.toArray) ?_ hrun ⟨hitr, hpl.isList⟩ ⟨?_, fr.2.2.1, ?_⟩ ⟨_, Heap.get?_push_size _ hof⟩ ?_ ?_ ?_ hlen ?_ ?_
  · intro C h' m hC hns hk'
    refine ⟨fun b o' e => hk' b o' (hbk b o' e), ⟨m, hns, fun x sl e => ?_⟩, (fun x c' h => ?_), (fun x vs e => ?_), (fun t h => by cases h)⟩
    · match x with
      | 0 => cases e; trivial
      | 1 => cases e; trivial
      | 2 => cases e; trivial
      | 3 => cases e; trivial
      | 4 =>
        cases e
        obtain ⟨m', _, hs⟩ := I.loc
        obtain ⟨hv, ws', hp', hd'⟩ := hs 3 _ (locL_some h3)
        refine ⟨?_, ws', (let ⟨n, ho⟩ := hp'; ⟨n, hk' _ _ (hko _ _ ho)⟩), hd'.mono (.of_keeps fun b o' e => hk' b o' (hko b o' e))⟩
        unfold VarIs at hv ⊢
        rw [hcell] at hv
        simp only [if_true] at hv
        show if (4 : Nat) = 4 then _ else _
        rw [if_pos rfl]
        obtain ⟨o, ho, hdd⟩ := hv
        exact ⟨o, hk' _ _ (hko _ _ ho), hdd⟩
      | x + 5 => cases e
    · cases h
      obtain ⟨v, o, ho, hdd⟩ := I.cellIs 3 c hcell
      exact ⟨v, o, hk' _ _ (hko _ _ ho), hdd⟩
    · have : x = 4 := by
        match x with
        | 0 => cases e
        | 1 => cases e
        | 2 => cases e
        | 3 => cases e
        | 4 => rfl
        | x + 5 => cases e
      subst this
      refine ⟨?_, hla.2.1, fun y ws' e' _ => ?_⟩
      · rintro (h | ⟨y, h⟩ | ⟨t, h, _⟩)
        · have h : adr 3 = C := h
          have hC : (s.heap.push ob).get? C = none := hC
          rw [← h, hko _ _ hol] at hC
          cases hC
        · have h : some (4, c) = some (y, adr 3) := h
          injection h with h
          injection h with _ h
          exact hla.1 (.inr (.inl ⟨3, by rw [hcell, h]⟩))
        · cases h
      · match y with
        | 0 => cases e'
        | 1 => cases e'
        | 2 => cases e'
        | 3 => cases e'
        | 4 => rfl
        | y + 5 => cases e'
  · intro i v hv
    have hi : i < spans.length := by
      have := (Array.getElem?_eq_some_iff.mp hv).1
      omega
    obtain ⟨v', hv', hdv⟩ := hd.get (List.getElem?_eq_getElem hi)
    have : v' = v := by
      have h1 : ws[i]? = some v := by simpa using hv
      rw [hv'] at h1
      exact Option.some.inj h1
    subst this
    exact ⟨_, List.getElem?_eq_getElem hi, hdv.mono (.of_keeps hko)⟩
  · intro x c' h
    cases h
    exact Ne.symm (lt_none hoc)
  · intro x vs e
    exact lt_none hol
  · intro b hb
    have : b = s.heap.objs.size ∨ b = adr 2 := by simpa using hb
    rcases this with h | h
    · rw [h]; exact ⟨_, Heap.get?_push_size _ hof⟩
    · rw [h]; obtain ⟨n, ho⟩ := hp; exact ⟨_, hko _ _ ho⟩
  · intro x vs e
    exact ⟨_, hko _ _ hol⟩
  · rintro i h ⟨⟨o', ho', hc', _⟩, _⟩ o'' ho'' hcl'
    rw [ho'] at ho''
    cases ho''
    rw [hc'] at hcl'
    exact absurd (Value.type.inj hcl') (by decide)
  · rintro tgE i s' v Q' Er' ⟨⟨o', ho', hc', _⟩, _⟩ hq
    exact own_of ho' hc' (by decide) hq
  · intro D C h' tk m' ws₂ hD hC hDC hn' hp' hd' hk' tp'
    have kp : ∀ b o', s.heap.get? b = some o' → h'.get? b = some o' := fun b o' e => hk' b o' (lt_none e) (hko b o' e)
    have noneD : s.heap.get? D = none := by
      cases q : s.heap.get? D with
      | none => rfl
      | some o' =>
        have hD : (s.heap.push ob).get? D = none := hD
        rw [hko _ _ q] at hD; cases hD
    have noneC : s.heap.get? C = none := by
      cases q : s.heap.get? C with
      | none => rfl
      | some o' =>
        have hC : (s.heap.push ob).get? C = none := hC
        rw [hko _ _ q] at hC; cases hC
    have ownD : ¬ F.own D := fun h => by obtain ⟨o', e⟩ := I.own_lt h; rw [noneD] at e; cases e
    have ownC : ¬ F.own C := fun h => by obtain ⟨o', e⟩ := I.own_lt h; rw [noneC] at e; cases e
    have bD : F.hb.get? D = none := by
      cases q : F.hb.get? D with
      | none => rfl
      | some o' => rw [I.base _ _ q] at noneD; cases noneD
    have bC : F.hb.get? C = none := by
      cases q : F.hb.get? C with
      | none => rfl
      | some o' => rw [I.base _ _ q] at noneC; cases noneC
    have g1 := GoodS.grow0 (wr := [17]) (h' := h') (tk := tk) O I kp
    show wpAny _ A (assign (.Name (nmAt F.nm 17) p1) F.env (.ref D)) _ _ _
    refine wpAny_assign_Name (storeLk (s := { s with heap := h', toks := tk }) O (by omega) (.head _) g1 hp' hd' noneD ownD bD (fun y vs e => ?_) fun s2 g2 hk2 => ?_)
    · obtain ⟨_, ⟨n, ho⟩, _⟩ := I.list_at e
      intro e'
      rw [e', noneD] at ho; cases ho
    · obtain ⟨oC, es, ep, hoC, hdC, hfC⟩ := hn'
      refine ⟨m', ⟨oC, es, ep, hk2 _ _ hoC ownC, hdC, hfC⟩, fun h3' hs3 => ?_⟩
      have hkC : ∀ b o', s2.heap.get? b = some o' → b ≠ C → h3'.get? b = some o' := fun b o' e hb => (hs3.2 b hb).trans e
      have tpC : TP s2.heap h3' := fun b o' e hcls hdd => hkC b o' e fun eb => by
        rw [eb, hk2 _ _ hoC ownC] at e
        cases e
        obtain ⟨its, nn, hx⟩ := hdd
        rw [hdC] at hx; cases hx
      have I3 := g2.inv.but hkC tpC ownC bC fun x vs e => by
        rcases getElem?_set_cases e with ⟨rfl, _⟩ | ⟨hx, q⟩
        · simp only [if_pos]; exact hDC
        · simp only [if_neg hx]
          obtain ⟨_, ⟨n, ho⟩, _⟩ := I.list_at q
          intro e'
          rw [e', noneC] at ho; cases ho
      refine hQ D _ ⟨I3, ?_, g2.adr, g2.tp.trans tpC, fun b o' e => ?_⟩
      · obtain ⟨hh, tt, ee, kk⟩ := g2.stp
        refine ⟨h3', s2.toks, by rw [ee], fun b o' e hw => ?_⟩
        have := kk b o' e hw
        refine hkC b o' (by rw [ee]; exact this) fun eb => ?_
        rw [eb, noneC] at e; cases e
      · obtain ⟨o'', e''⟩ := g2.ex b o' e
        exact ⟨o'', hkC b o'' e'' fun eb => by rw [eb, noneC] at e; cases e⟩
end
end Mine

namespace Mine
open PySem PySem.W PySem.Calls PyProof.Rows PySem.Spec

def cfL (xs : List Int) : Cfg := { n := 18, cell := some 3, wr := [2, 3, 6, 7, 8], len := true, next := some xs, tok := false, isb := false }
def locL0 : List Slot := .u :: .s :: List.replicate 16 .u
def locL1 : List Slot := (((locL0.set 2 (.l [])).set 3 (.l [])).set 4 (.v (.str ""))).set 5 (.v (.int 0))
def locL2 : List Slot := ((locL1.set 8 (.l [])).set 7 (.l [])).set 6 (.l [])
def tail1 : S := match tailL with
  | .cons a _ => a
  | .nil => .cont default
def tail2 : S := match tailL with
  | .cons _ (.cons b _) => b
  | _ => .cont default

/-- what law computes comes out true -/
structure LawHolds (xs : List Int) : Prop where
  out : ∃ ps d₁ σ σa σ' spans lines before after joins toks ys, piecesRun xs (0, 17) = some (ps, d₁) ∧ ps.length ≤ 100000 ∧ eloop (cfL xs) 10 tgK bodyL 40 0 ps ⟨locL2.set 9 (.l ps), d₁⟩ = some σ ∧
    tail1.ex (cfL xs) 40 σ = some (.next, σa) ∧ tail2.ex (cfL xs) 40 σa = some (.next, σ') ∧ σ'.loc.length = 18 ∧ locL σ'.loc 2 = some spans ∧ locL σ'.loc 3 = some lines ∧ locL σ'.loc 6 = some before ∧ locL σ'.loc 7 = some after ∧ locL σ'.loc 8 = some joins ∧
    crun cfT tgT eltT (0, 0) spans [.u, .u, .u, .u, .l lines] = some toks ∧ runE toks = some joins ∧ runB toks = some ys ∧ runC toks ys = some before ∧ runA toks ys = some after ∧
    (∀ d ∈ joins, Msg d) ∧ (∀ d ∈ before, Msg d) ∧ (∀ d ∈ after, Msg d) ∧ spans.length ≤ 1000000 ∧ joins.length ≤ 1000000 ∧ before.length ≤ 1000000 ∧ after.length ≤ 1000000

def stmtsL (nm : List Str) : List Stmt := [
    .Assign [.Tuple [.Name (nmAt nm 2) ⟨95, 4, 95, 9⟩, .Name (nmAt nm 3) ⟨95, 11, 95, 16⟩, .Name (nmAt nm 4) ⟨95, 18, 95, 22⟩, .Name (nmAt nm 5) ⟨95, 24, 95, 29⟩] 0 ⟨95, 4, 95, 29⟩] (.Tuple [.List [] ⟨95, 33, 95, 35⟩, .List [] ⟨95, 37, 95, 39⟩, .Constant (.str "") 0 ⟨95, 41, 95, 43⟩, .Constant (.int 0) 0 ⟨95, 45, 95, 46⟩] 0 ⟨95, 32, 95, 47⟩) ⟨95, 4, 95, 47⟩,
    .Assign [.Tuple [.Name (nmAt nm 6) ⟨96, 4, 96, 10⟩, .Name (nmAt nm 7) ⟨96, 12, 96, 17⟩, .Name (nmAt nm 8) ⟨96, 19, 96, 24⟩] 0 ⟨96, 4, 96, 24⟩] (.Tuple [.List [] ⟨96, 28, 96, 30⟩, .List [] ⟨96, 32, 96, 34⟩, .List [] ⟨96, 36, 96, 38⟩] 0 ⟨96, 27, 96, 39⟩) ⟨96, 4, 96, 39⟩,
    .Assign [.Name (nmAt nm 9) ⟨97, 4, 97, 10⟩] (.Call (.Name "_law_pieces" ⟨97, 13, 97, 24⟩) [.Name (nmAt nm 1) ⟨97, 25, 97, 30⟩] [] ⟨97, 13, 97, 31⟩) ⟨97, 4, 97, 31⟩,
    .For (.Tuple [.Name (nmAt nm 10) ⟨98, 8, 98, 9⟩, tgK.tr nm] 0 ⟨98, 8, 98, 29⟩) (.Call (.Name "enumerate" ⟨98, 33, 98, 42⟩) [.Name (nmAt nm 9) ⟨98, 43, 98, 49⟩] [] ⟨98, 33, 98, 50⟩) (bodyL.tr nm) [] ⟨98, 4, 121, 60⟩,
    tail1.tr nm, tail2.tr nm,
    .Assign [.Name (nmAt nm 17) ⟨124, 4, 124, 10⟩] (.ListComp (eltT.tr nmT) [⟨tgT.tr nmT, .Name (nmAt nm 2) ⟨124, 113, 124, 118⟩, [], 0⟩] scT ⟨124, 13, 124, 119⟩) ⟨124, 4, 124, 119⟩,
    .If (.BoolOp .Or [.Compare (.Call (.Name "list" ⟨125, 7, 125, 11⟩) [.Call (.Name "explicit_line_join" ⟨125, 12, 125, 30⟩) [.Constant (.str "") 0 ⟨125, 31, 125, 33⟩, .Name (nmAt nm 17) ⟨125, 35, 125, 41⟩] [] ⟨125, 12, 125, 42⟩] [] ⟨125, 7, 125, 43⟩) [.NotEq] [.Name (nmAt nm 8) ⟨125, 47, 125, 52⟩] ⟨125, 7, 125, 52⟩,
      .Compare (.Call (.Name "list" ⟨125, 56, 125, 60⟩) [.Call (.Name "break_before_binary_operator" ⟨125, 61, 125, 89⟩) [.Constant (.str "") 0 ⟨125, 90, 125, 92⟩, .Name (nmAt nm 17) ⟨125, 94, 125, 100⟩] [] ⟨125, 61, 125, 101⟩] [] ⟨125, 56, 125, 102⟩) [.NotEq] [.Name (nmAt nm 6) ⟨125, 106, 125, 112⟩] ⟨125, 56, 125, 112⟩] ⟨125, 7, 125, 112⟩)
      [.Return (some (.Constant (.bool false) 0 ⟨126, 15, 126, 20⟩)) ⟨126, 8, 126, 20⟩] [] ⟨125, 4, 126, 20⟩,
    .Return (some (.Compare (.Call (.Name "list" ⟨127, 11, 127, 15⟩) [.Call (.Name "break_after_binary_operator" ⟨127, 16, 127, 43⟩) [.Constant (.str "") 0 ⟨127, 44, 127, 46⟩, .Name (nmAt nm 17) ⟨127, 48, 127, 54⟩] [] ⟨127, 16, 127, 55⟩] [] ⟨127, 11, 127, 56⟩) [.Eq] [.Name (nmAt nm 7) ⟨127, 60, 127, 65⟩] ⟨127, 11, 127, 65⟩)) ⟨127, 4, 127, 65⟩]

theorem bdL2 : (defOf "law").2.1 = .Assign [.Name "state" ⟨94, 4, 94, 9⟩] (.List [.Subscript (.Name "script" ⟨94, 13, 94, 19⟩) (.Slice none (some (.Constant (.int 60) 0 ⟨94, 21, 94, 23⟩)) none ⟨94, 20, 94, 23⟩) ⟨94, 13, 94, 24⟩, .Constant (.int 0) 0 ⟨94, 26, 94, 27⟩, .Constant (.int 17) 0 ⟨94, 29, 94, 31⟩] ⟨94, 12, 94, 32⟩) ⟨94, 4, 94, 32⟩ :: stmtsL nmL := by rfl

section
variable {F : FC} {mg mb : Str → Option Value}

/-- list(fn('', tokens)) -/
theorem gen_eval (O : F.Ok) (W : WF F.prog F.w F.hb mg mb) {adr : Nat → Addr} {l : List Slot} {d : Dr} {A : Around} (hA : AOk 8 A) {fn : Str} {f : Addr} {o : Obj} {fd : FuncData} {toks outs : List AV} (hfk : F.env.kindOf fn = some .globalImplicit) (hlk : F.env.kindOf "list" = some .globalImplicit) (hdb : (fn == ("__debug__" : Str)) = false)
    (hmg : mg fn = some (.ref f)) (ho : F.hb.get? f = some o) (hfd : o.data = .func fd) (hok : ListOk F.prog F.w F.hb f toks outs) (ht : locL l 17 = some toks) {a1 a2 a4 a5 a6 a7 : Pos} {a3 : Nat}
    {s : Shared} {Q : Value → Shared → Prop} {Er : Value → Shared → Prop} (I : Inv F ⟨l, d⟩ adr s.heap)
    (hQ : ∀ S s' ws', GarP (fun b => ∃ o, s.heap.get? b = some o) (fun i => i < s.gens.size) s s' → s'.heap.PlainList S ws'.toArray → Dens s'.heap ws' outs → Q (.ref S) s') :
    wpAny (model F.prog F.w) A (eval (.Call (.Name "list" a1) [.Call (.Name fn a2) [.Constant (.str "") a3 a4, .Name (nmAt F.nm 17) a5] [] a6] [] a7) F.env) Q Er s := by
  refine Call_ (ld_blt W.g W.b W.list I.base O.kind O.glob O.blt hlk (by decide +kernel) ?_)
  refine PyProof.Rows.callWith_type1 (spliced_more ?_ rfl) rfl
  refine Call_ (ld_glob W.g hmg I.base O.kind O.glob hfk hdb ?_)
  refine callWith_def (o := o) (fd := fd) hfd (spliced_more (Calls.Constant_str (spliced_more (load_l (s := { s with toks := s.toks + 1 }) O I ht fun ws hp hd => spliced_none ⟨I.base _ _ ho, ?_⟩))))
  have hbt := (I.apart 17 toks (locL_some ht)).2.1
  refine wpAny_mono (hok A { s with toks := s.toks + 1 } (adr 17) ws s.toks Q Er hA I.base hp hd hbt fun S s' ws' G hS hp' hd' => hQ S s' ws' ?_ hp' hd') (fun v s₁ h => spliced_none h) fun _ _ e => e
  exact (GarP.of_keeps (h' := s.heap) (tk := s.toks + 1) fun _ _ e => e).trans G
end
end Mine

namespace Mine
open PySem PySem.W PySem.Calls PyProof.Rows PySem.Spec

section
variable {F : FC} {mg mb : Str → Option Value}

structure LawEnv (F : FC) (c : Addr) : Prop where
  pieces : F.env.kindOf "_law_pieces" = some .globalImplicit
  enum : F.env.kindOf "enumerate" = some .globalImplicit
  list : F.env.kindOf "list" = some .globalImplicit
  join : F.env.kindOf "explicit_line_join" = some .globalImplicit
  before : F.env.kindOf "break_before_binary_operator" = some .globalImplicit
  after : F.env.kindOf "break_after_binary_operator" = some .globalImplicit
  clos : closureFor scT F.env = pure [(("lines" : Str), c)]
  comp : ∀ (s : Shared) (C : Addr), s.heap.get? C = none → (∃ o, s.heap.get? c = some o) → (∀ b o, F.hb.get? b = some o → s.heap.get? b = some o) → (compF F scT [("lines", c)] C nmT (some (4, c))).Ok
  compX : ∀ C, Ext (compF F scT [("lines", c)] C nmT (some (4, c))) cfT
  swap : swapsWith (.ListComp (eltT.tr nmT) [⟨tgT.tr nmT, .Name (nmAt F.nm 2) ⟨124, 113, 124, 118⟩, [], 0⟩] scT ⟨124, 13, 124, 119⟩) (some (.Name (nmAt F.nm 17) ⟨124, 4, 124, 10⟩)) (⟨124, 4, 124, 119⟩ : Pos).line F.env = pure true

theorem law_core (O : F.Ok) (W : WF F.prog F.w F.hb mg mb) {xs : List Int} (X : Ext F (cfL xs)) {c : Addr} (hcell : F.cell = some (3, c)) (LE : LawEnv F c) {t : DrI} (hst : F.st = some t) (hxs : t.xs = xs) (hxl : xs.length ≤ 1000000) (hnl : F.nm.length = 18) (H : LawHolds xs)
    {A : Around} (hA : AOk 9 A) {s₀ s : Shared} {adr : Nat → Addr} {Q : Flow → Shared → Prop} {Er : Value → Shared → Prop} (I : Inv F ⟨locL0, (0, 17)⟩ adr s.heap) (fx : Fx F s₀ s adr) (hadr : ∀ x, ∃ o, s.heap.get? (adr x) = some o)
    (hQ : ∀ s', (∃ h tk g, s' = { s₀ with heap := h, toks := tk, gens := g }) → (∀ b o, s₀.heap.get? b = some o → ¬ F.W0 b → s'.heap.get? b = some o) → (AllBare s₀.gens → AllBare s'.gens) → Q (.ret (.bool true)) s') :
    wpAny (model F.prog F.w) A (execs (stmtsL F.nm) F.env) Q Er s := by
  obtain ⟨ps, d₁, σ, σa, ⟨l', d'⟩, spans, lines, before, after, joins, toks, ys, h1, h1l, h2, h3, h4, hl', hs2, hs3, hs6, hs7, hs8, hc, hE, hB, hC, hAf, mj, mb', ma, ls, lj, lb, la⟩ := H.out
  have hA2 : AOk 2 A := hA.mono (by decide)
  have hA8 : AOk 8 A := hA.mono (by decide)
  have hta : F.hb.get? t.a = none := O.fresh.2.2 t hst
  have hab : t.a ≠ t.b := (O.stL t hst).2.2.1
  have w2 : 2 ∈ (cfL xs).wr := by show 2 ∈ [2, 3, 6, 7, 8]; decide
  have w3 : 3 ∈ (cfL xs).wr := by show 3 ∈ [2, 3, 6, 7, 8]; decide
  have w6 : 6 ∈ (cfL xs).wr := by show 6 ∈ [2, 3, 6, 7, 8]; decide
  have w7 : 7 ∈ (cfL xs).wr := by show 7 ∈ [2, 3, 6, 7, 8]; decide
  have w8 : 8 ∈ (cfL xs).wr := by show 8 ∈ [2, 3, 6, 7, 8]; decide
  unfold stmtsL
  -- spans, lines, line, depth
  refine wpAny_execs_cons ?_
  have no0 : ∀ (y : Nat) (vs : List AV), locL0[y]? ≠ some (Slot.l vs) := by
    intro y vs e
    match y with
    | 0 => cases e
    | 1 => cases e
    | y + 2 =>
      have : Slot.l vs = .u := List.eq_of_mem_replicate (List.mem_of_getElem? (show (List.replicate 16 Slot.u)[y]? = some (.l vs) from e))
      cases this
  have c4 : canV (cfL xs) ((locL0.set 2 (.l [])).set 3 (.l [])) 4 = true := by rfl
  have c5 : canV (cfL xs) ((locL0.set 2 (.l [])).set 3 (.l [])) 5 = true := by rfl
  have len0 : locL0.length = 18 := by rfl
  with_reducible refine st1_sound O X hA2 hnl len0 no0 w2 w3 c4 c5 I fun adr₁ s₁ g₁ hx₁ => ?_
  have f₁ := fx.step g₁
  have hadr₁ : ∀ x, ∃ o, s₁.heap.get? (adr₁ x) = some o := fun x => by
    rcases hx₁ x with h | h
    · rw [h]; obtain ⟨o, ho⟩ := hadr x; exact g₁.ex _ _ ho
    · exact h
  -- before, after, joins
  refine wpAny_execs_cons ?_
  have no1 : ∀ (y : Nat) (vs : List AV), locL1[y]? = some (Slot.l vs) → y < 6 := by
    intro y vs e
    match y with
    | 0 => omega
    | 1 => omega
    | 2 => omega
    | 3 => omega
    | 4 => omega
    | 5 => omega
    | y + 6 =>
      have : Slot.l vs = .u := List.eq_of_mem_replicate (List.mem_of_getElem? (show (List.replicate 12 Slot.u)[y]? = some (.l vs) from e))
      cases this
  have len1 : locL1.length = 18 := by rfl
  have ln1 : ((⟨96, 4, 96, 10⟩ : Pos).line == (⟨96, 12, 96, 17⟩ : Pos).line) = true := by rfl
  have ln2 : ((⟨96, 4, 96, 10⟩ : Pos).line == (⟨96, 19, 96, 24⟩ : Pos).line) = true := by rfl
  have hc3 : ∀ u c', F.cell = some (u, c') → u = 3 := fun u c' e => by rw [hcell] at e; cases e; rfl
  have I₁ : Inv F ⟨locL1, (0, 17)⟩ adr₁ s₁.heap := g₁.inv
  with_reducible refine st2_sound O (cf := cfL xs) hA2 hnl len1 no1 w6 w7 w8 hc3 ln1 ln2 I₁ fun adr₂ s₂ g₂ hx₂ => ?_
  have f₂ := f₁.step g₂
  have hadr₂ : ∀ x, ∃ o, s₂.heap.get? (adr₂ x) = some o := fun x => by
    rcases hx₂ x with h | h
    · rw [h]; obtain ⟨o, ho⟩ := hadr₁ x; exact g₂.ex _ _ ho
    · exact h
  have I₂ : Inv F ⟨locL2, (0, 17)⟩ adr₂ s₂.heap := g₂.inv
  -- pieces = _law_pieces(state)
  refine wpAny_execs_cons ?_
  obtain ⟨fp, op, fdp, hmp, hop, hdp, hpok⟩ := pieces_ok W (t := t) (by rw [hxs]; exact hxl) hta hab
  refine wpAny_Assign_Name ?_ (by rfl)
  refine Call_ (ld_glob W.g hmp I₂.base O.kind O.glob LE.pieces (by decide +kernel) ?_)
  refine callWith_def (o := op) hdp (spliced_more (load_s O I₂ (by rfl) hst (spliced_none ⟨I₂.base _ _ hop, ?_⟩)))
  refine hpok A s₂ (0, 17) _ _ ps d₁ (hA.mono (by decide)) I₂.base (I₂.dr t hst) (by rw [hxs]; exact h1) h1l fun D ws s₃ stp₃ tp₃ ex₃ dr₃ hD₃ hp₃ hd₃ => ?_
  have hk₃ : ∀ b o, s₂.heap.get? b = some o → ¬ F.W0 b → s₃.heap.get? b = some o := fun b o e hb => stp₃.keep b o e fun eb => hb ⟨t, hst, eb⟩
  have g₃ : GoodS F [9] adr₂ adr₂ ⟨locL2, d₁⟩ s₂ s₃ := ⟨I₂.keep O hk₃ (fun t' ht' => by rw [hst] at ht'; cases ht'; exact dr₃), stp₃.mono fun b eb => .inr (.inr (.inl ⟨t, hst, eb⟩)), fun _ => .inl rfl, tp₃, ex₃⟩
  have ownD : ¬ F.own D := fun h => by obtain ⟨o, e⟩ := I₂.own_lt h; rw [hD₃] at e; cases e
  have bD : F.hb.get? D = none := by
    cases q : F.hb.get? D with
    | none => rfl
    | some o => rw [I₂.base _ _ q] at hD₃; cases hD₃
  have aD : ∀ x, adr₂ x ≠ D := fun x e => by obtain ⟨o, ho⟩ := hadr₂ x; rw [e, hD₃] at ho; cases ho
  refine storeL O (by omega) (.head _) g₃ hp₃ hd₃ hD₃ ownD bD (fun y vs _ => aD y) fun s₄ g₄ => ?_
  have f₄ := f₂.step g₄
  have I₄ := g₄.inv
  have hadr₄ : ∀ x, ∃ o, s₄.heap.get? ((fun y => if y = 9 then D else adr₂ y) x) = some o := fun x => by
    by_cases hx : x = 9
    · subst hx
      exact exists_at g₄ (vs := ps) (by rfl)
    · simp only [if_neg hx]
      obtain ⟨o, ho⟩ := hadr₂ x
      exact g₄.ex _ _ ho
  -- the loop
  refine wpAny_execs_cons (wpAny_For (Call_ (ld_blt W.g W.b W.enum I₄.base O.kind O.glob O.blt LE.enum (by decide +kernel) ?_)) (by intro _; rfl))
  refine PyProof.Rows.callWith_type1 (spliced_more (load_l (x := 9) O I₄ (by rfl) fun ws₄ hp₄ hd₄ => spliced_none ?_) rfl) rfl
  refine call_enumerate_list hp₄.isList fun h₅ he₅ hi₅ hz₅ hk₅ => ?_
  refine wpAny_pyIter_enum he₅ ?_
  have I₅ : Inv F ⟨locL2.set 9 (.l ps), d₁⟩ (fun y => if y = 9 then D else adr₂ y) h₅ := I₄.grow O hk₅
  have f₅ := f₄.step (GoodS.grow0 (wr := [9]) (h' := h₅) (tk := s₄.toks) O I₄ hk₅)
  have notex : ∀ a : Addr, s₄.heap.objs.size ≤ a → ∀ b, (∃ o, s₄.heap.get? b = some o) → b ≠ a := fun a ha b ⟨o, ho⟩ e => absurd (Heap.lt_size ho) (by rw [e]; exact Nat.not_lt.mpr ha)
  have none₀ : ∀ a : Addr, s₄.heap.objs.size ≤ a → s₀.heap.get? a = none := fun a ha => by
    cases q : s₀.heap.get? a with
    | none => rfl
    | some o => exact absurd rfl (notex a ha a (f₄.ex _ _ q))
  have aside : ∀ a : Addr, s₄.heap.objs.size ≤ a → Aside F (fun y => if y = 9 then D else adr₂ y) a := fun a ha =>
    ⟨fun h => notex a ha a (I₄.own_lt h) rfl, (by
      cases q : F.hb.get? a with
      | none => rfl
      | some o => exact absurd rfl (notex a ha a ⟨o, I₄.base _ _ q⟩)), fun x => notex a ha _ (hadr₄ x)⟩
  have hla := I₄.apart 9 ps (by rfl)
  have hLa := hadr₄ 9
  refine enum_loop (F := F) (cf := cfL xs) (k := 40) (s₀ := s₀) (σ' := σ) (e := s₄.heap.objs.size + 1) (it := s₄.heap.objs.size) (La := D) (ws := ws₄) (items := ps) O X hA2 (none₀ _ (Nat.le_succ _)) (none₀ _ (Nat.le_refl _)) (Nat.ne_of_gt (Nat.lt_succ_self _))
    (notex _ (Nat.le_succ _) D hLa) (notex _ (Nat.le_refl _) D hLa) ?_ I₅ f₅ (aside _ (Nat.le_succ _)) (aside _ (Nat.le_refl _)) ⟨hla.1, ?_⟩ he₅ hi₅ ?_ ?_ h2
  · intro adr₆ s₆ I₆ f₆
    refine wpAny_execs_cons ((ex_sound O X hA2 40).1 tail1 _ _ _ h3 adr₆ s₆ _ _ I₆ fun adr₇ s₇ g₇ => ?_)
    refine wpAny_execs_cons ((ex_sound O X hA2 40).1 tail2 _ _ _ h4 adr₇ s₇ _ _ g₇.inv fun adr₈ s₈ g₈ => ?_)
    have f₈ := (f₆.step g₇).step g₈
    have I₈ : Inv F ⟨l', d'⟩ adr₈ s₈.heap := g₈.inv
    -- tokens
    refine wpAny_execs_cons ?_
    have hl'' : l'.length = 18 := hl'
    have q2 : locL l' 2 = some spans := hs2
    have q3 : locL l' 3 = some lines := hs3
    with_reducible refine tok_sound O hA2 hcell hnl hl'' q2 q3 LE.clos LE.comp LE.compX LE.swap hc ls I₈ fun D₉ s₉ g₉ => ?_
    have f₉ := f₈.step g₉
    have I₉ := g₉.inv
    have t17 : locL (l'.set 17 (.l toks)) 17 = some toks := by unfold locL; rw [List.getElem?_set_self (by omega)]
    have tne : ∀ x, x ≠ 17 → locL (l'.set 17 (.l toks)) x = locL l' x := fun x hx => by unfold locL; rw [List.getElem?_set_ne (Ne.symm hx)]
    obtain ⟨fE, oE, fdE, mE, hoE, hfdE, okE⟩ := list_E W hE lj
    obtain ⟨fC, oC, fdC, mC, hoC, hfdC, okC⟩ := list_C W hB hC lb
    obtain ⟨fA, oA, fdA, mA, hoA, hfdA, okA⟩ := list_A W hB hAf la
    -- the test
    refine wpAny_execs_cons (wpAny_If (wpAny_isTrue_BoolOp (wpAny_allTrue_Or_cons (wpAny_isTrue_Compare1 ?_ (by rfl)))))
    refine gen_eval O W hA8 LE.join LE.list (by decide +kernel) mE hoE hfdE okE t17 I₉ fun S₁ sA wsA GA hpA hdA => ?_
    have IA := I₉.grow O fun b o e => GA.keep b o e ⟨o, e⟩
    refine load_l (x := 8) O IA ((tne 8 (by decide)).trans hs8) fun wj hpj hdj => ?_
    refine ne_lists hpA hpj hdA hdj mj hA8 (wpAny_truthy_bool ?_)
    rw [if_neg Bool.false_ne_true]
    refine wpAny_allTrue_Or_cons (wpAny_isTrue_Compare1 ?_ (by rfl))
    refine gen_eval O W hA8 LE.before LE.list (by decide +kernel) mC hoC hfdC okC t17 IA fun S₂ sB wsB GB hpB hdB => ?_
    have IB := IA.grow O fun b o e => GB.keep b o e ⟨o, e⟩
    refine load_l (x := 6) O IB ((tne 6 (by decide)).trans hs6) fun wj2 hpj2 hdj2 => ?_
    refine ne_lists hpB hpj2 hdB hdj2 mb' hA8 (wpAny_truthy_bool ?_)
    rw [if_neg Bool.false_ne_true]
    refine wpAny_allTrue_Or_nil ?_
    rw [if_neg Bool.false_ne_true]
    refine wpAny_execs_nil ?_
    -- the answer
    refine wpAny_execs_cons (wpAny_Return_some (wpAny_Compare1 ?_ (by rfl)))
    refine gen_eval O W hA8 LE.after LE.list (by decide +kernel) mA hoA hfdA okA t17 IB fun S₃ sC wsC GC hpC hdC => ?_
    have IC := IB.grow O fun b o e => GC.keep b o e ⟨o, e⟩
    refine load_l (x := 7) O IC ((tne 7 (by decide)).trans hs7) fun wj3 hpj3 hdj3 => ?_
    refine eq_lists hpC hpj3 hdC hdj3 ma hA8 ?_
    refine hQ sC ?_ ?_ ?_
    · obtain ⟨h9, t9, e9⟩ := f₉.shape
      obtain ⟨ha, ta, ga, ea⟩ := GA.shape
      obtain ⟨hb, tb, gb, eb⟩ := GB.shape
      obtain ⟨hc', tc, gc, ec⟩ := GC.shape
      exact ⟨hc', tc, gc, by rw [ec, eb, ea, e9]⟩
    · intro b o e hb
      have h9 := f₉.keep b o e hb
      have hA' := GA.keep b o h9 ⟨o, h9⟩
      have hB' := GB.keep b o hA' ⟨o, hA'⟩
      exact GC.keep b o hB' ⟨o, hB'⟩
    · intro z
      refine GC.bare (GB.bare (GA.bare ?_))
      obtain ⟨h9, t9, e9⟩ := f₉.shape
      rw [e9]; exact z
  · intro x hx e
    have hx9 : x ≠ 9 := by
      have : x ∈ [2, 3, 6, 7, 8] := hx
      rintro rfl
      exact absurd this (by decide)
    simp only [if_neg hx9] at e
    exact aD x e
  · obtain ⟨n, ho⟩ := hp₄
    exact ⟨n, hk₅ _ _ ho⟩
  · exact hd₄.mono (.of_keeps hk₅)
end
end Mine

namespace Mine
open PySem PySem.StrLaws Builtin Builtin.Str

def safeC (c : Nat) : Bool := decide (32 ≤ c) && decide (c ≤ 126)
def ofL (l : List Nat) : Str := ⟨l.toArray⟩

theorem safe_break {c : Nat} (h : safeC c = true) : Unicode.isLineBreak c = false := by
  have key : ∀ c : Fin 127, safeC c.val = true → Unicode.isLineBreak c.val = false := by decide +kernel
  have hc : c < 127 := by
    unfold safeC at h
    simp only [Bool.and_eq_true, decide_eq_true_eq] at h
    omega
  exact key ⟨c, hc⟩ h

theorem rstrip_nl {L : List Nat} (h : ∀ c ∈ L, safeC c = true) : Txt.rstripChars (ofL (L ++ [10])) "\x0d\n" = ofL L := by
  unfold Txt.rstripChars
  rw [W.stripBy_eq]
  unfold W.stripped
  have hg : ((("\x0d\n" : Str)).cps.contains 10) = true := by decide +kernel
  have hg2 : ∀ c, safeC c = true → (("\x0d\n" : Str)).cps.contains c = false := by
    intro c hc
    have e : (("\x0d\n" : Str)).cps = #[13, 10] := by decide +kernel
    rw [e]
    unfold safeC at hc
    simp only [Bool.and_eq_true, decide_eq_true_eq] at hc
    simp
    omega
  have ht : ((ofL (L ++ [10])).cps.toList.drop 0).reverse.takeWhile (("\x0d\n" : Str)).cps.contains = [10] := by
    show (L ++ [10]).reverse.takeWhile _ = _
    rw [List.reverse_append]
    show List.takeWhile _ (10 :: L.reverse) = _
    rw [List.takeWhile_cons, hg, if_pos rfl]
    cases hr : L.reverse with
    | nil => rfl
    | cons a r =>
      have ha : a ∈ L := by rw [← List.mem_reverse, hr]; exact .head _
      rw [List.takeWhile_cons, hg2 a (h a ha), if_neg Bool.false_ne_true]
  simp only [Bool.false_eq_true, if_false, if_true]
  rw [ht]
  show Str.mk _ = Str.mk _
  congr 1
  simp [ofL, Str.length]

theorem endswith_bs (L : List Nat) : Txt.endswith (ofL L) "\\" = (L.getLast? == some 92) := by
  unfold Txt.endswith subAt
  have e : ("\\" : Str).cps = #[92] := by decide +kernel
  have el : ("\\" : Str).length = 1 := by decide +kernel
  rw [e, el]
  cases h : L.reverse with
  | nil =>
    have : L = [] := by simpa using h
    subst this
    decide +kernel
  | cons a r =>
    have hL : L = r.reverse ++ [a] := by
      have := congrArg List.reverse h
      simpa using this
    subst hL
    have hn : (ofL (r.reverse ++ [a])).length = r.length + 1 := by simp [ofL, Str.length]
    rw [hn]
    have h1 : decide (0 + 1 ≤ r.length + 1) = true := by simp
    rw [h1, Bool.true_and]
    have hx : (ofL (r.reverse ++ [a])).cps.extract (r.length + 1 - 1) (r.length + 1 - 1 + 1) = #[a] := by
      simp [ofL]
    rw [hx, List.getLast?_append]
    simp only [List.getLast?_singleton, Option.some_or]
    by_cases ha : a = 92
    · subst ha; rfl
    · have : (#[a] == #[92]) = false := by simp [ha]
      rw [this]
      simp [ha]

theorem ls_run2 {L : List Nat} (h : ∀ c ∈ L, safeC c = true) (s : Str) (hs : ∀ i, i < L.length → s.cps.getD i 0 = L.getD i 0) (hl : s.cps.getD L.length 0 = 10) : ∀ (m cur : Nat), cur + m = L.length →
    Id.run (forIn (m := Id) (List.range' cur (m + 1)) ((#[], 0) : LsSt) (lsBody s)) = (#[(0, L.length, L.length + 1)], L.length + 1)
  | 0, cur, hm => by
    have : cur = L.length := by omega
    subst this
    rw [List.range'_succ, List.forIn_cons]
    have hb : lsBody s L.length ((#[], 0) : LsSt) = pure (ForInStep.yield ((#[(0, L.length, L.length + 1)], L.length + 1) : LsSt)) := by
      unfold lsBody lsNext
      rw [hl]
      have : Unicode.isLineBreak 10 = true := by decide +kernel
      simp [this]
    rw [hb]
    rfl
  | m + 1, cur, hm => by
    rw [List.range'_succ, List.forIn_cons]
    have hb : Unicode.isLineBreak (s.cps.getD cur 0) = false := by
      rw [hs cur (by omega)]
      have hc : cur < L.length := by omega
      rw [List.getD_eq_getElem?_getD, List.getElem?_eq_getElem hc]
      exact safe_break (h _ (List.getElem_mem hc))
    have : lsBody s cur ((#[], 0) : LsSt) = pure (ForInStep.yield ((#[], 0) : LsSt)) := by
      unfold lsBody
      rw [hb, Bool.and_false]
      rfl
    rw [this]
    exact ls_run2 h s hs hl m (cur + 1) (by omega)

theorem spans_nl {L : List Nat} (h : ∀ c ∈ L, safeC c = true) : lineSpans (ofL (L ++ [10])) = [(0, L.length, L.length + 1)] := by
  have hlen : (ofL (L ++ [10])).length = L.length + 1 := by simp [ofL, Str.length]
  have hget : ∀ i, i < L.length → (ofL (L ++ [10])).cps.getD i 0 = L.getD i 0 := by
    intro i hi
    simp [ofL, hi, List.getElem?_append]
  have hlast : (ofL (L ++ [10])).cps.getD L.length 0 = 10 := by simp [ofL]
  rw [ls_eq, hlen, ls_run2 h _ hget hlast L.length 0 (by omega)]
  unfold lsEnd
  simp [hlen]

theorem cuts_nl {L : List Nat} (h : ∀ c ∈ L, safeC c = true) : lineCuts (ofL (L ++ [10])) = [(0, L.length)] := by
  unfold lineCuts
  rw [spans_nl h]
  rfl
theorem lines_nl {L : List Nat} (h : ∀ c ∈ L, safeC c = true) : Txt.lines (ofL (L ++ [10])) = [ofL L] := by
  unfold Txt.lines
  have hlen : (ofL (L ++ [10])).length = L.length + 1 := by simp [ofL, Str.length]
  rw [cuts_nl h, hlen]
  have : ([(0, L.length)] == [(0, L.length + 1)]) = false := by simp
  rw [this, if_neg Bool.false_ne_true]
  unfold linesOf
  rw [cuts_nl h]
  show [strSub (ofL (L ++ [10])) 0 L.length] = _
  congr 1
  show Str.mk _ = Str.mk _
  congr 1
  simp [ofL]
end Mine

namespace Mine
open PySem

def SL.nth : SL → Nat → S
  | .cons s _, 0 => s
  | .cons _ r, n + 1 => r.nth n
  | .nil, _ => .cont default

/-- the frame's slots of law -/
def L18 (spans lines : List AV) (line : Str) (depth : Int) (before after joins ps : List AV) (k kind word what way former last : Slot) : List Slot :=
  [.u, .s, .l spans, .l lines, .v (.str line), .v (.int depth), .l before, .l after, .l joins, .l ps, k, kind, word, what, way, former, last, .u]

theorem bodyL_eq : bodyL = .cons (bodyL.nth 0) (.cons (bodyL.nth 1) (.cons (bodyL.nth 2) (.cons (bodyL.nth 3) (.cons (bodyL.nth 4) (.cons (bodyL.nth 5) .nil))))) := by rfl

section
variable {xs : List Int} {n : Nat} {spans lines before after joins ps : List AV} {line wd wt : Str} {depth kd i : Int} {k kind word what way former last : Slot} {d : Dr}

theorem bL2 (h1 : lines.length ≤ 1000000) (h2 : line.length ≤ 1000000) (hl : last.plain = true) : (bodyL.nth 2).ex (cfL xs) (n + 1) ⟨L18 spans lines line depth before after joins ps k kind word what way former last, d⟩ =
    some (.next, ⟨L18 spans lines line depth before after joins ps k kind word what way former (.v (.tup [.int (lines.length + 1), .int line.length])), d⟩) := by
  simp [bodyL, SL.nth, S.ex, E.ev, EL.ev, L18, locL, locV, cfL, canV, AV.bin, St.setV, h1, h2, hl]

theorem bL3 (h1 : lines.length ≤ 1000000) (h2 : line.length ≤ 1000000) (h3 : spans.length ≤ 1000000) : (bodyL.nth 3).ex (cfL xs) (n + 1) ⟨L18 spans lines line depth before after joins ps k (.v (.int kd)) (.v (.str wd)) what way former last, d⟩ =
    some (.next, ⟨L18 (spans ++ [.tup [.int kd, .str wd, .int lines.length, .int line.length]]) lines line depth before after joins ps k (.v (.int kd)) (.v (.str wd)) what way former last, d⟩) := by
  simp [bodyL, SL.nth, S.ex, E.ev, EL.ev, L18, locL, locV, cfL, St.setL, h1, h2, h3]

theorem bL4 (h1 : line.length + wd.length ≤ 1000000) : (bodyL.nth 4).ex (cfL xs) (n + 1) ⟨L18 spans lines line depth before after joins ps k kind (.v (.str wd)) what way former last, d⟩ =
    some (.next, ⟨L18 spans lines (line ++ wd) depth before after joins ps k kind (.v (.str wd)) what way former last, d⟩) := by
  simp [bodyL, SL.nth, S.ex, E.ev, EL.ev, L18, locL, locV, cfL, canV, AV.bin, St.setV, Slot.plain, h1]

theorem bL5 : (bodyL.nth 5).ex (cfL xs) (n + 1) ⟨L18 spans lines line depth before after joins ps k kind word (.v (.str wt)) way former last, d⟩ =
    some (.next, ⟨L18 spans lines line (depth + b01 (wt == ("open" : Str)) - b01 (wt == ("close" : Str))) before after joins ps k kind word (.v (.str wt)) way former last, d⟩) := by
  simp [bodyL, SL.nth, S.ex, E.ev, EL.ev, L18, locL, locV, cfL, canV, AV.bin, AV.cmp, St.setV, Slot.plain]

theorem bL0_zero (hw : way.plain = true) (hf : former.plain = true) : (bodyL.nth 0).ex (cfL xs) (n + 1) ⟨L18 spans lines line depth before after joins ps (.v (.int 0)) kind word what way former last, d⟩ =
    some (.next, ⟨L18 spans lines line depth before after joins ps (.v (.int 0)) kind word what (.v (.int (lawNext xs d 5).1)) (.v (.str "sign")) last, (lawNext xs d 5).2⟩) := by
  simp [bodyL, SL.nth, S.ex, E.ev, EL.ev, T.ev, E.isIte, AV.truth, L18, locL, locV, cfL, canV, AV.bin, AV.cmp, St.setV, hw, hf]

theorem bL0_succ {j : Nat} {a : Int} {b f : Str} (hw : way.plain = true) (hf : former.plain = true) (hp : ps[j]? = some (.tup [.int a, .str b, .str f])) (hl : ps.length ≤ 1000000) : (bodyL.nth 0).ex (cfL xs) (n + 1) ⟨L18 spans lines line depth before after joins ps (.v (.int ((j + 1 : Nat) : Int))) kind word what way former last, d⟩ =
    some (.next, ⟨L18 spans lines line depth before after joins ps (.v (.int ((j + 1 : Nat) : Int))) kind word what (.v (.int (lawNext xs d 5).1)) (.v (.str f)) last, (lawNext xs d 5).2⟩) := by
  have h1 : decide (((j + 1 : Nat) : Int) > 0) = true := by simp
  have h2 : ((j + 1 : Nat) : Int) - 1 = (j : Int) := by omega
  have hj : j < ps.length := (List.getElem?_eq_some_iff.mp hp).1
  have h3 : place (j : Int) ps.length = some j := by
    unfold place
    rw [if_pos (by omega), if_pos (by omega)]
    simp
  have h4 : place 2 3 = some 2 := by decide
  simp only [bodyL, SL.nth, S.ex, E.ev, EL.ev, T.ev, E.isIte, AV.truth, L18, locL, locV, cfL, canV, AV.bin, AV.cmp, St.setV]
  simp [h1, h2, h3, hl, hp, AV.item, h4, hw, hf]

def msgE : Str := "E502 the backslash is redundant between brackets"
def msg3 : Str := "W503 line break before binary operator"
def msg4 : Str := "W504 line break after binary operator"

/-- no break: a blank, unless at the very start -/
theorem bL1_stay {f : Str} {wy : Int} (hb : (f != ("sign" : Str) && (decide (wy < 2) && (decide ((lines.length : Int) < 5) && (wy == 1 || decide (depth > 0))))) = false) (h1 : lines.length ≤ 1000000) (h2 : line.length ≤ 999999) :
    (bodyL.nth 1).ex (cfL xs) (n + 16) ⟨L18 spans lines line depth before after joins ps (.v (.int i)) kind word what (.v (.int wy)) (.v (.str f)) last, d⟩ =
    some (.next, ⟨L18 spans lines (if i > 0 then line ++ " " else line) depth before after joins ps (.v (.int i)) kind word what (.v (.int wy)) (.v (.str f)) last, d⟩) := by
  have h2' : line.length + (" " : Str).length ≤ 1000000 := by have : (" " : Str).length = 1 := by decide +kernel
                                                              omega
  cases b1 : (f != ("sign" : Str)) <;> cases b2 : decide (wy < 2) <;> cases b3 : decide ((lines.length : Int) < 5) <;> cases b4 : (wy == 1) <;> cases b5 : decide (depth > 0) <;>
    simp only [b1, b2, b3, b4, b5, Bool.and_true, Bool.and_false, Bool.true_and, Bool.false_and, Bool.or_true, Bool.or_false, Bool.true_or, Bool.false_or, reduceCtorEq] at hb <;>
    by_cases hi : i > 0 <;>
    simp [bodyL, SL.nth, S.ex, SL.ex, E.ev, EL.ev, T.ev, TL.all, TL.any, E.isIte, AV.truth, L18, locL, locV, cfL, canV, AV.bin, AV.cmp, St.setV, Slot.plain, b1, b2, b3, b4, b5, h1, h2', hi]

def mkMsg (r c : Int) (m : Str) : AV := .tup [.tup [.int r, .int c], .str m]

/-- a backslash break -/
theorem bL1_bs {f : Str} (hf : (f != ("sign" : Str)) = true) (hlen : (lines.length : Int) < 5) (h1 : lines.length ≤ 1000000) (h2 : line.length ≤ 999990) (h3 : joins.length ≤ 1000000) :
    (bodyL.nth 1).ex (cfL xs) (n + 16) ⟨L18 spans lines line depth before after joins ps (.v (.int i)) kind word what (.v (.int 1)) (.v (.str f)) last, d⟩ =
    some (.next, ⟨L18 spans (lines ++ [.str (line ++ " \\\n")]) "  " depth before after (if depth > 0 then joins ++ [mkMsg (lines.length + 1) (line.length + 1) msgE] else joins) ps (.v (.int i)) kind word what (.v (.int 1)) (.v (.str f)) last, d⟩) := by
  have h2' : line.length + (" \\\n" : Str).length ≤ 1000000 := by
    have : (" \\\n" : Str).length = 3 := by decide +kernel
    omega
  have h2'' : line.length ≤ 1000000 := by omega
  have b3 : decide ((lines.length : Int) < 5) = true := decide_eq_true hlen
  cases b5 : decide (depth > 0)
  · have hd : ¬ depth > 0 := of_decide_eq_false b5
    simp [bodyL, SL.nth, S.ex, SL.ex, E.ev, EL.ev, T.ev, TL.all, TL.any, E.isIte, AV.truth, L18, locL, locV, cfL, canV, AV.bin, AV.cmp, St.setV, St.setL, Slot.plain, hf, b3, b5, h1, h2', h2'', h3, hd]
  · have hd : depth > 0 := of_decide_eq_true b5
    simp [bodyL, SL.nth, S.ex, SL.ex, E.ev, EL.ev, T.ev, TL.all, TL.any, E.isIte, AV.truth, L18, locL, locV, cfL, canV, AV.bin, AV.cmp, St.setV, St.setL, Slot.plain, hf, b3, b5, h1, h2', h2'', h3, hd, mkMsg, msgE]

set_option maxHeartbeats 0 in
/-- a break within brackets -/
theorem bL1_nl {f : Str} {wy : Int} {lst : AV} (hf : (f != ("sign" : Str)) = true) (hw : wy < 2) (hw1 : (wy == 1) = false) (hd : depth > 0) (hlen : (lines.length : Int) < 5) (h1 : lines.length ≤ 1000000) (h2 : line.length ≤ 999990) (h3 : before.length ≤ 1000000) (h4 : after.length ≤ 1000000) (h5 : spans.length ≤ 999999) :
    (bodyL.nth 1).ex (cfL xs) (n + 16) ⟨L18 spans lines line depth before after joins ps (.v (.int i)) kind word (.v (.str wt)) (.v (.int wy)) (.v (.str f)) (.v lst), d⟩ =
    some (.next, ⟨L18 (if ((lawNext xs d 3).1 == 0) = true then spans ++ [.tup [.int 61, .str "# \\", .int lines.length, .int (line.length + 2)]] ++ [.tup [.int 62, .str "\n", .int lines.length, .int (line ++ ("  # \\" : Str)).length]] else spans ++ [.tup [.int 62, .str "\n", .int lines.length, .int line.length]])
      (lines ++ [.str ((if ((lawNext xs d 3).1 == 0) = true then line ++ ("  # \\" : Str) else line) ++ "\n")]) "  " depth
      (if (wt == ("operator" : Str) && (["operand", "close", "plain"] : List Str).any (· == f)) = true then before ++ [mkMsg (lines.length + 1 + 1) 2 msg3] else before)
      (if (f == ("operator" : Str) && (["operand", "open"] : List Str).any (· == wt)) = true then after ++ [.tup [lst, .str msg4]] else after) joins ps (.v (.int i)) kind word (.v (.str wt)) (.v (.int wy)) (.v (.str f)) (.v lst), (lawNext xs d 3).2⟩) := by
  have e1 : ("  # \\" : Str).length = 5 := by decide +kernel
  have e2 : ("\n" : Str).length = 1 := by decide +kernel
  have h2' : line.length + ("  # \\" : Str).length ≤ 1000000 := by omega
  have h2b : line.length ≤ 1000000 := by omega
  have h2c : line.length + ("\n" : Str).length ≤ 1000000 := by omega
  have e3 : (line ++ ("  # \\" : Str)).length = line.length + 5 := by
    show (line.cps ++ ("  # \\" : Str).cps).size = line.cps.size + 5
    rw [Array.size_append]
    show _ + ("  # \\" : Str).length = _
    rw [e1]
  have h2d : (line ++ ("  # \\" : Str)).length ≤ 1000000 := by omega
  have h2e : (line ++ ("  # \\" : Str)).length + ("\n" : Str).length ≤ 1000000 := by omega
  have h5' : spans.length ≤ 1000000 := by omega
  have h1' : lines.length + 1 ≤ 1000000 := by omega
  have b2 : decide (wy < 2) = true := decide_eq_true hw
  have b3 : decide ((lines.length : Int) < 5) = true := decide_eq_true hlen
  have b5 : decide (depth > 0) = true := decide_eq_true hd
  cases bc : ((lawNext xs d 3).1 == 0) <;> cases bo : (wt == ("operator" : Str)) <;> cases bp : (f == ("operator" : Str)) <;> cases bq : (["operand", "close", "plain"] : List Str).any (· == f) <;> cases br : (["operand", "open"] : List Str).any (· == wt) <;>
    simp only [bodyL, SL.nth, S.ex, SL.ex, E.ev, EL.ev, T.ev, TL.all, TL.any, E.isIte, AV.truth, L18, locL, locV, cfL, canV, AV.bin, AV.cmp, St.setV, St.setL, Slot.plain, strs?] <;>
    simp [hf, hw1, b2, b3, b5, bc, bo, bp, bq, br, h1, h1', h2', h2b, h2c, h2d, h2e, h3, h4, h5, h5', mkMsg, msg3, msg4, strs?, AV.truth]
end
end Mine

namespace Mine
open PySem

/-- the slots of explicit_line_join -/
def E12 (items : List AV) (ps pe par : Int) (com : Bool) (bs : AV) (ty tx st en ln : Slot) : List Slot :=
  [.v (.str ""), .l items, .v (.int ps), .v (.int pe), .v (.int par), .v (.bool com), .v bs, ty, tx, st, en, ln]

def parOf (par ty : Int) (tx : Str) : Int := if (ty == 54) = true then (if strIn tx "([{" = true then par + 1 else if strIn tx ")]}" = true then par - 1 else par) else par

theorem strlen_ofL (L : List Nat) : (ofL L).length = L.length := by simp [ofL, Str.length]

section
variable {items : List AV} {ps pe par ty r c1 c2 : Int} {com : Bool} {bs : AV} {tx ln : Str} {d : Dr}

theorem E_same : bodyE.ex cfE 20 ⟨E12 items r r par com bs (.v (.int ty)) (.v (.str tx)) (.v (.tup [.int r, .int c1])) (.v (.tup [.int r, .int c2])) (.v (.str ln)), d⟩ =
    some (.next, ⟨E12 items r r (parOf par ty tx) (com || ty == 61) bs (.v (.int ty)) (.v (.str tx)) (.v (.tup [.int r, .int c1])) (.v (.tup [.int r, .int c2])) (.v (.str ln)), d⟩, []) := by
  have h4 : place 0 2 = some 0 := by decide
  cases b1 : (ty == 61) <;> cases b2 : (ty == 54) <;> cases b3 : strIn tx "([{" <;> cases b4 : strIn tx ")]}" <;>
  simp [bodyE, GL.ex, GS.ex, S.ex, SL.ex, E.ev, EL.ev, T.ev, TL.all, TL.any, E.isIte, AV.truth, E12, locL, locV, cfE, genCf, canV, AV.bin, AV.cmp, AV.item, St.setV, Slot.plain, tokNum, h4, b1, b2, b3, b4, parOf]

/-- what the last line says about its backslash -/
def bsOf (r : Int) (L : List Nat) : AV := if (L.getLast? == some 92) = true then .tup [.int r, .int ((L.length : Int) - 1)] else .none


def GL.nth : GL → Nat → GS
  | .cons s _, 0 => s
  | .cons _ r, n + 1 => r.nth n
  | .nil, _ => .s (.cont default)

theorem bodyE_eq : bodyE = .cons (bodyE.nth 0) (.cons (bodyE.nth 1) (.cons (bodyE.nth 2) (.cons (bodyE.nth 3) (.cons (bodyE.nth 4) .nil)))) := by rfl

section
variable {n : Nat} {st en lns : Slot} {ln : Str}
theorem E0 : (bodyE.nth 0).ex cfE (n + 8) ⟨E12 items ps pe par com bs (.v (.int ty)) (.v (.str tx)) st en lns, d⟩ = some (.next, ⟨E12 items ps pe par (com || ty == 61) bs (.v (.int ty)) (.v (.str tx)) st en lns, d⟩, []) := by
  cases b1 : (ty == 61) <;>
  simp [bodyE, GL.nth, GL.ex, GS.ex, S.ex, SL.ex, E.ev, EL.ev, T.ev, TL.all, TL.any, E.isIte, AV.truth, E12, locL, locV, cfE, genCf, canV, AV.bin, AV.cmp, AV.item, St.setV, Slot.plain, tokNum, b1]

theorem E1 (hp : (r != ps) = true) (hbs : bs = .none ∨ ∃ a b : Int, bs = .tup [.int a, .int b]) : (bodyE.nth 1).ex cfE (n + 8) ⟨E12 items ps pe par com bs (.v (.int ty)) (.v (.str tx)) (.v (.tup [.int r, .int c1])) en lns, d⟩ =
    some (.next, ⟨E12 items ps pe par com bs (.v (.int ty)) (.v (.str tx)) (.v (.tup [.int r, .int c1])) en lns, d⟩, if (par != 0 && (bs.truth == some true) && !com) = true then [.tup [bs, .str msgE]] else []) := by
  have h4 : place 0 2 = some 0 := by decide
  rcases hbs with rfl | ⟨a, b, rfl⟩ <;> cases b5 : (par != 0) <;> cases com <;>
  simp [bodyE, GL.nth, GL.ex, GS.ex, S.ex, SL.ex, E.ev, EL.ev, T.ev, TL.all, TL.any, E.isIte, AV.truth, E12, locL, locV, cfE, genCf, canV, AV.bin, AV.cmp, AV.item, St.setV, Slot.plain, tokNum, h4, hp, b5, msgE]

theorem E2 (hp : (r != ps) = true) : (bodyE.nth 2).ex cfE (n + 8) ⟨E12 items ps pe par com bs (.v (.int ty)) (.v (.str tx)) (.v (.tup [.int r, .int c1])) en lns, d⟩ =
    some (.next, ⟨E12 items ps pe par false bs (.v (.int ty)) (.v (.str tx)) (.v (.tup [.int r, .int c1])) en lns, d⟩, []) := by
  have h4 : place 0 2 = some 0 := by decide
  simp [bodyE, GL.nth, GL.ex, GS.ex, S.ex, SL.ex, E.ev, EL.ev, T.ev, TL.all, TL.any, E.isIte, AV.truth, E12, locL, locV, cfE, genCf, canV, AV.bin, AV.cmp, AV.item, St.setV, Slot.plain, tokNum, h4, hp]

theorem E3 {L : List Nat} (hq : (r != pe) = true) (hL : ∀ c ∈ L, safeC c = true) (hlen : L.length ≤ 99999) :
    (bodyE.nth 3).ex cfE (n + 8) ⟨E12 items ps pe par com bs (.v (.int ty)) (.v (.str tx)) st (.v (.tup [.int r, .int c2])) (.v (.str (ofL (L ++ [10])))), d⟩ =
    some (.next, ⟨E12 items r r par com (bsOf r L) (.v (.int ty)) (.v (.str tx)) st (.v (.tup [.int r, .int c2])) (.v (.str (ofL (L ++ [10])))), d⟩, []) := by
  have h4 : place 0 2 = some 0 := by decide
  have hr := rstrip_nl hL
  have hln := lines_nl hL
  have hcut := cuts_nl hL
  have hew := endswith_bs L
  have hlz : (ofL (L ++ [10])).length ≤ 1000000 := by rw [strlen_ofL]; simp; omega
  have hly : L.length ≤ 1000000 := by omega
  have hcl : (lineCuts (ofL (L ++ [10]))).length ≤ 1000 := by rw [hcut]; exact (by decide : 1 ≤ 1000)
  have hlast : (Txt.lines (ofL (L ++ [10]))).getLast? = some (ofL L) := by rw [hln]; rfl
  have hlen' : (ofL L).length = L.length := strlen_ofL L
  cases b6 : (L.getLast? == some 92) <;>
  simp [bodyE, GL.nth, GL.ex, GS.ex, S.ex, SL.ex, E.ev, EL.ev, T.ev, TL.all, TL.any, E.isIte, AV.truth, E12, locL, locV, cfE, genCf, canV, AV.bin, AV.cmp, AV.item, St.setV, Slot.plain, tokNum, h4, hq, b6, bsOf, hr, hlast, hcl, hlz, hly, hew, hlen']

theorem E4 : (bodyE.nth 4).ex cfE (n + 8) ⟨E12 items ps pe par com bs (.v (.int ty)) (.v (.str tx)) st en lns, d⟩ =
    some (.next, ⟨E12 items ps pe (parOf par ty tx) com bs (.v (.int ty)) (.v (.str tx)) st en lns, d⟩, []) := by
  cases b2 : (ty == 54) <;> cases b3 : strIn tx "([{" <;> cases b4 : strIn tx ")]}" <;>
  simp [bodyE, GL.nth, GL.ex, GS.ex, S.ex, SL.ex, E.ev, EL.ev, T.ev, TL.all, TL.any, E.isIte, AV.truth, E12, locL, locV, cfE, genCf, canV, AV.bin, AV.cmp, AV.item, St.setV, Slot.plain, tokNum, b2, b3, b4, parOf]

theorem E_new {L : List Nat} (hp : (r != ps) = true) (hq : (r != pe) = true) (hty : (ty == 61) = false) (hL : ∀ c ∈ L, safeC c = true) (hlen : L.length ≤ 99999) (hbs : bs = .none ∨ ∃ a b : Int, bs = .tup [.int a, .int b]) :
    bodyE.ex cfE 20 ⟨E12 items ps pe par com bs (.v (.int ty)) (.v (.str tx)) (.v (.tup [.int r, .int c1])) (.v (.tup [.int r, .int c2])) (.v (.str (ofL (L ++ [10])))), d⟩ =
    some (.next, ⟨E12 items r r (parOf par ty tx) false (bsOf r L) (.v (.int ty)) (.v (.str tx)) (.v (.tup [.int r, .int c1])) (.v (.tup [.int r, .int c2])) (.v (.str (ofL (L ++ [10])))), d⟩,
      if (par != 0 && (bs.truth == some true) && !com) = true then [.tup [bs, .str msgE]] else []) := by
  rw [bodyE_eq]
  simp only [GL.ex]
  rw [E0 (n := 11)]
  simp only
  rw [hty, Bool.or_false, E1 (n := 10) hp hbs]
  simp only
  rw [E2 (n := 9) hp]
  simp only
  rw [E3 (n := 8) hq hL hlen]
  simp only
  rw [E4 (n := 7)]
  simp
end
end
end Mine

namespace Mine
open PySem

def B10 (items : List AV) (brk un : Bool) (pt px : AV) (ty tx st en ln : Slot) : List Slot := [.l items, .v (.bool brk), .v (.bool un), .v pt, .v px, ty, tx, st, en, ln]

section
variable {items : List AV} {brk un : Bool} {pt px sta ena lna : AV} {ty : Int} {tx : Str} {d : Dr}

theorem B_com (h : (ty == 61) = true) : bodyB.ex cfB 20 ⟨B10 items brk un pt px (.v (.int ty)) (.v (.str tx)) (.v sta) (.v ena) (.v lna), d⟩ = some (.cont, ⟨B10 items brk un pt px (.v (.int ty)) (.v (.str tx)) (.v sta) (.v ena) (.v lna), d⟩, []) := by
  simp [bodyB, GL.ex, GS.ex, S.ex, SL.ex, E.ev, EL.ev, T.ev, TL.all, TL.any, E.isIte, AV.truth, B10, locL, locV, cfB, genCf, canV, AV.bin, AV.cmp, AV.item, St.setV, Slot.plain, tokNum, h]

theorem B_nl (h : (ty == 61) = false) (h1 : strIn "\n" tx = true) (h3 : (ty == 3) = false) : bodyB.ex cfB 20 ⟨B10 items brk un pt px (.v (.int ty)) (.v (.str tx)) (.v sta) (.v ena) (.v lna), d⟩ = some (.next, ⟨B10 items true un pt px (.v (.int ty)) (.v (.str tx)) (.v sta) (.v ena) (.v lna), d⟩, []) := by
  have h3' : (ty != 3) = true := by simp only [bne, h3]; rfl
  simp [bodyB, GL.ex, GS.ex, S.ex, SL.ex, E.ev, EL.ev, T.ev, TL.all, TL.any, E.isIte, AV.truth, B10, locL, locV, cfB, genCf, canV, AV.bin, AV.cmp, AV.item, St.setV, Slot.plain, tokNum, h, h1, h3']

theorem B_piece (h : (ty == 61) = false) (h1 : strIn "\n" tx = false) (h2 : strIn "\x0d" tx = false) : bodyB.ex cfB 20 ⟨B10 items brk un pt px (.v (.int ty)) (.v (.str tx)) (.v sta) (.v ena) (.v lna), d⟩ =
    some (.next, ⟨B10 items false (strIn tx "([{,;") (.int ty) (.str tx) (.v (.int ty)) (.v (.str tx)) (.v sta) (.v ena) (.v lna), d⟩, [.tup [.int ty, .str tx, pt, px, .bool brk, .bool un, sta]]) := by
  simp [bodyB, GL.ex, GS.ex, S.ex, SL.ex, E.ev, EL.ev, T.ev, TL.all, TL.any, E.isIte, AV.truth, B10, locL, locV, cfB, genCf, canV, AV.bin, AV.cmp, AV.item, St.setV, Slot.plain, tokNum, h, h1, h2]

def C10 (items : List AV) (ctx a b p q k u st : Slot) : List Slot := [.v (.str ""), .l items, ctx, a, b, p, q, k, u, st]
theorem C_step {bi bp : Bool} {a b p q k u st : Slot} (ha : a.plain = true) (hb : b.plain = true) (hp : p.plain = true) (hq : q.plain = true) (hk : k.plain = true) (hu : u.plain = true) (hs : st.plain = true) (h1 : isBin (.int ty) (.str tx) = some bi) (h2 : isBin pt px = some bp) :
    bodyC.ex cfC 20 ⟨C10 items (.v (.tup [.int ty, .str tx, pt, px, .bool brk, .bool un, sta])) a b p q k u st, d⟩ =
    some (.next, ⟨C10 items (.v (.tup [.int ty, .str tx, pt, px, .bool brk, .bool un, sta])) (.v (.int ty)) (.v (.str tx)) (.v pt) (.v px) (.v (.bool brk)) (.v (.bool un)) (.v sta), d⟩, if (bi && brk && !un && !bp) = true then [.tup [sta, .str msg3]] else []) := by
  have pv : ∀ d, (Slot.v d).plain = true := fun _ => rfl
  cases bi <;> cases brk <;> cases un <;> cases bp <;>
  simp [bodyC, GL.ex, GS.ex, S.ex, SL.ex, E.ev, EL.ev, T.ev, TL.all, TL.any, E.isIte, AV.truth, C10, locL, locV, cfC, genCf, canV, AV.bin, AV.cmp, AV.item, St.setV, Tg.bind, bindN, ha, hb, hp, hq, hk, hu, hs, h1, h2, msg3, pv]

def A11 (items : List AV) (ps : AV) (ctx a b p q k u st : Slot) : List Slot := [.v (.str ""), .l items, .v ps, ctx, a, b, p, q, k, u, st]
theorem A_step {pst : AV} {bi bp : Bool} {a b p q k u st : Slot} (ha : a.plain = true) (hb : b.plain = true) (hp : p.plain = true) (hq : q.plain = true) (hk : k.plain = true) (hu : u.plain = true) (hs : st.plain = true) (h1 : isBin (.int ty) (.str tx) = some bi) (h2 : isBin pt px = some bp) :
    bodyA.ex cfA 20 ⟨A11 items pst (.v (.tup [.int ty, .str tx, pt, px, .bool brk, .bool un, sta])) a b p q k u st, d⟩ =
    some (.next, ⟨A11 items sta (.v (.tup [.int ty, .str tx, pt, px, .bool brk, .bool un, sta])) (.v (.int ty)) (.v (.str tx)) (.v pt) (.v px) (.v (.bool brk)) (.v (.bool un)) (.v sta), d⟩, if (bp && brk && !un && !bi) = true then [.tup [pst, .str msg4]] else []) := by
  have pv : ∀ d, (Slot.v d).plain = true := fun _ => rfl
  cases bi <;> cases brk <;> cases un <;> cases bp <;>
  simp [bodyA, GL.ex, GS.ex, S.ex, SL.ex, E.ev, EL.ev, T.ev, TL.all, TL.any, E.isIte, AV.truth, A11, locL, locV, cfA, genCf, canV, AV.bin, AV.cmp, AV.item, St.setV, Tg.bind, bindN, ha, hb, hp, hq, hk, hu, hs, h1, h2, msg4, pv]
end
end Mine

namespace Mine
open PySem

abbrev Pc := Int × Str × Str
def pav (p : Pc) : AV := .tup [.int p.1, .str p.2.1, .str p.2.2]
def whats : List Str := ["operand", "plain", "open", "close", "comma", "operator", "sign"]

/-- a piece as the generators see it -/
def okPc (p : Pc) : Bool :=
  !(p.1 == 61) && !(strIn "\n" p.2.1) && !(strIn "\x0d" p.2.1) && (isBin (.int p.1) (.str p.2.1) == some (p.2.2 == ("operator" : Str) || p.2.2 == ("sign" : Str))) && (strIn p.2.1 "([{,;" == (p.2.2 == ("open" : Str) || p.2.2 == ("comma" : Str))) &&
  ((p.1 == 54 && strIn p.2.1 "([{") == (p.2.2 == ("open" : Str))) && ((p.1 == 54 && !(strIn p.2.1 "([{") && strIn p.2.1 ")]}") == (p.2.2 == ("close" : Str))) && p.2.1.cps.toList.all safeC && (match p.2.1.cps.toList.getLast? with | some c => !(c == 92) | none => false) && decide (p.2.1.length ≤ 4) && whats.contains p.2.2

def adj (f t : Str) : Bool :=
  (!(t == ("sign" : Str)) || (f == ("open" : Str) || f == ("comma" : Str) || f == ("operator" : Str))) && (!(t == ("operator" : Str)) || (f == ("operand" : Str) || f == ("close" : Str))) && (!(f == ("operator" : Str)) || (t == ("open" : Str) || t == ("sign" : Str) || t == ("operand" : Str)))

structure PcFacts (p : Pc) : Prop where
  k61 : (p.1 == 61) = false
  nl : strIn "\n" p.2.1 = false
  cr : strIn "\x0d" p.2.1 = false
  bin : isBin (.int p.1) (.str p.2.1) = some (p.2.2 == ("operator" : Str) || p.2.2 == ("sign" : Str))
  un : strIn p.2.1 "([{,;" = (p.2.2 == ("open" : Str) || p.2.2 == ("comma" : Str))
  par : ∀ d : Int, parOf d p.1 p.2.1 = d + b01 (p.2.2 == ("open" : Str)) - b01 (p.2.2 == ("close" : Str))
  safe : ∀ c ∈ p.2.1.cps.toList, safeC c = true
  last : ∃ c, p.2.1.cps.toList.getLast? = some c ∧ c ≠ 92
  len : p.2.1.length ≤ 4
  what : p.2.2 ∈ whats

theorem beq_some_bool {a : Option Bool} {b : Bool} (h : (a == some b) = true) : a = some b := eq_of_beq h

theorem okPc_facts {p : Pc} (h : okPc p = true) : PcFacts p := by
  unfold okPc at h
  simp only [Bool.and_eq_true] at h
  obtain ⟨⟨⟨⟨⟨⟨⟨⟨⟨⟨h1, h2⟩, h3⟩, h4⟩, h5⟩, h6⟩, h7⟩, h8⟩, h9⟩, h10⟩, h11⟩ := h
  refine ⟨by simpa using h1, by simpa using h2, by simpa using h3, eq_of_beq h4, eq_of_beq h5, fun d => ?_, List.all_eq_true.mp h8, ?_, of_decide_eq_true h10, by simpa using h11⟩
  · have e6 := eq_of_beq h6
    have e7 := eq_of_beq h7
    rw [← e6, ← e7]
    unfold parOf
    cases (p.1 == (54 : Int)) <;> cases strIn p.2.1 "([{" <;> cases strIn p.2.1 ")]}" <;> simp [b01] <;> omega
  · split at h9
    · rename_i c e
      exact ⟨c, e, by simpa using h9⟩
    · cases h9

/-- the breaks' messages agree -/
theorem w503 : ∀ f ∈ whats, ∀ t ∈ whats, adj f t = true → (f != ("sign" : Str)) = true →
    ((t == ("operator" : Str) || t == ("sign" : Str)) && !(f == ("open" : Str) || f == ("comma" : Str)) && !(f == ("operator" : Str) || f == ("sign" : Str))) = (t == ("operator" : Str) && (["operand", "close", "plain"] : List Str).any (· == f)) := by decide +kernel
theorem w504 : ∀ f ∈ whats, ∀ t ∈ whats, adj f t = true → (f != ("sign" : Str)) = true →
    ((f == ("operator" : Str) || f == ("sign" : Str)) && !(f == ("open" : Str) || f == ("comma" : Str)) && !(t == ("operator" : Str) || t == ("sign" : Str))) = (f == ("operator" : Str) && (["operand", "open"] : List Str).any (· == t)) := by decide +kernel

abbrev Sp := Int × Str × Nat × Nat
def spAV (p : Sp) : AV := .tup [.int p.1, .str p.2.1, .int p.2.2.1, .int p.2.2.2]
def tokAV (lines : List AV) (p : Sp) : AV := .tup [.int p.1, .str p.2.1, .tup [.int (1 + (p.2.2.1 : Int)), .int p.2.2.2], .tup [.int (1 + (p.2.2.1 : Int)), .int ((p.2.2.2 : Int) + p.2.1.length)], lines.getD p.2.2.1 .none]

def T5 (a b c d : Slot) (lines : List AV) : List Slot := [a, b, c, d, .l lines]
theorem T_elt {lines : List AV} {p : Sp} (h : p.2.2.1 < lines.length) (hl : lines.length ≤ 1000000) (hw : p.2.1.length ≤ 1000000) {dr : Dr} :
    eltT.ev cfT (T5 (.v (.int p.1)) (.v (.str p.2.1)) (.v (.int p.2.2.1)) (.v (.int p.2.2.2)) lines) dr = some (tokAV lines p, dr) := by
  have h3 : place (p.2.2.1 : Int) lines.length = some p.2.2.1 := by
    unfold place
    rw [if_pos (by omega), if_pos (by omega)]
    simp
  have h4 : lines[p.2.2.1]? = some (lines.getD p.2.2.1 .none) := by
    rw [List.getD_eq_getElem?_getD, List.getElem?_eq_getElem h]; rfl
  simp [eltT, E.ev, EL.ev, T5, locL, locV, cfT, AV.bin, hl, hw, h3, tokAV]
  rw [List.getElem?_eq_getElem h]
  simp
theorem T_run {lines : List AV} (hl : lines.length ≤ 1000000) : ∀ (sps : List Sp) (a b c d : Slot), a.plain = true → b.plain = true → c.plain = true → d.plain = true → (∀ p ∈ sps, p.2.2.1 < lines.length ∧ p.2.1.length ≤ 1000000) →
    crun cfT tgT eltT (0, 0) (sps.map spAV) (T5 a b c d lines) = some (sps.map (tokAV lines))
  | [], _, _, _, _, _, _, _, _, _ => rfl
  | p :: r, a, b, c, d, ha, hb, hc, hd, h => by
    have hp := h p (.head _)
    have hbind : tgT.bind cfT (T5 a b c d lines) (spAV p) = some (T5 (.v (.int p.1)) (.v (.str p.2.1)) (.v (.int p.2.2.1)) (.v (.int p.2.2.2)) lines) := by
      simp [tgT, Tg.bind, bindN, spAV, T5, canV, cfT, ha, hb, hc, hd]
    rw [List.map_cons]
    simp only [crun]
    rw [hbind]
    simp only
    rw [T_elt hp.1 hl hp.2]
    simp only
    rw [T_run hl r _ _ _ _ rfl rfl rfl rfl fun q hq => h q (.tail _ hq)]
    rfl
end Mine

namespace Mine
open PySem

theorem gloop_cons {cf : Cfg} {tg : Tg} {body : GL} {k : Nat} {d : AV} {ds o1 o2 : List AV} {σ σ₁ fin : St} {l : List Slot} {fl : Fl} (h1 : tg.bind cf σ.loc d = some l) (h2 : body.ex cf k ⟨l, σ.dr⟩ = some (fl, σ₁, o1)) (h3 : gloop cf tg body k ds σ₁ = some (fin, o2)) :
    gloop cf tg body k (d :: ds) σ = some (fin, o1 ++ o2) := by
  simp only [gloop]
  rw [h1]
  simp only
  rw [h2]
  simp only
  rw [h3]

section
variable {items lines rest o : List AV} {par ps pe : Int} {com : Bool} {bs pt px : AV} {a b c e f : Slot} {p : Sp} {fin : St} {ln : Str}

theorem E_bind (ha : a.plain = true) (hb : b.plain = true) (hc : c.plain = true) (he : e.plain = true) (hf : f.plain = true) :
    tgE.bind cfE (E12 items ps pe par com bs a b c e f) (tokAV lines p) = some (E12 items ps pe par com bs (.v (.int p.1)) (.v (.str p.2.1)) (.v (.tup [.int (1 + (p.2.2.1 : Int)), .int p.2.2.2])) (.v (.tup [.int (1 + (p.2.2.1 : Int)), .int ((p.2.2.2 : Int) + p.2.1.length)])) (.v (lines.getD p.2.2.1 .none))) := by
  simp [tgE, Tg.bind, bindN, tokAV, E12, canV, cfE, genCf, ha, hb, hc, he, hf]

theorem E_tok_same (ha : a.plain = true) (hb : b.plain = true) (hc : c.plain = true) (he : e.plain = true) (hf : f.plain = true) (hl : lines.getD p.2.2.1 .none = .str ln)
    (h : ∀ a b c e f : Slot, a.plain = true → b.plain = true → c.plain = true → e.plain = true → f.plain = true → ∃ fin, gloop cfE tgE bodyE 20 rest ⟨E12 items (1 + (p.2.2.1 : Int)) (1 + (p.2.2.1 : Int)) (parOf par p.1 p.2.1) (com || p.1 == 61) bs a b c e f, (0, 0)⟩ = some (fin, o)) :
    ∃ fin, gloop cfE tgE bodyE 20 (tokAV lines p :: rest) ⟨E12 items (1 + (p.2.2.1 : Int)) (1 + (p.2.2.1 : Int)) par com bs a b c e f, (0, 0)⟩ = some (fin, o) := by
  obtain ⟨fin, hr⟩ := h (.v (.int p.1)) (.v (.str p.2.1)) (.v (.tup [.int (1 + (p.2.2.1 : Int)), .int p.2.2.2])) (.v (.tup [.int (1 + (p.2.2.1 : Int)), .int ((p.2.2.2 : Int) + p.2.1.length)])) (.v (.str ln)) rfl rfl rfl rfl rfl
  refine ⟨fin, ?_⟩
  have hbd := E_bind (items := items) (ps := 1 + (p.2.2.1 : Int)) (pe := 1 + (p.2.2.1 : Int)) (par := par) (com := com) (bs := bs) (lines := lines) (p := p) ha hb hc he hf
  rw [hl] at hbd
  exact gloop_cons (cf := cfE) (tg := tgE) (body := bodyE) (k := 20) (o1 := []) hbd E_same hr

theorem E_tok_new {L : List Nat} (ha : a.plain = true) (hb : b.plain = true) (hc : c.plain = true) (he : e.plain = true) (hf : f.plain = true) (hl : lines.getD p.2.2.1 .none = .str (ofL (L ++ [10]))) (hL : ∀ c ∈ L, safeC c = true) (hlen : L.length ≤ 99999)
    (hty : (p.1 == 61) = false) (hp : (1 + (p.2.2.1 : Int) != ps) = true) (hbs : bs = .none ∨ ∃ a b : Int, bs = .tup [.int a, .int b])
    (h : ∀ a b c e f : Slot, a.plain = true → b.plain = true → c.plain = true → e.plain = true → f.plain = true → ∃ fin, gloop cfE tgE bodyE 20 rest ⟨E12 items (1 + (p.2.2.1 : Int)) (1 + (p.2.2.1 : Int)) (parOf par p.1 p.2.1) false (bsOf (1 + (p.2.2.1 : Int)) L) a b c e f, (0, 0)⟩ = some (fin, o)) :
    ∃ fin, gloop cfE tgE bodyE 20 (tokAV lines p :: rest) ⟨E12 items ps ps par com bs a b c e f, (0, 0)⟩ = some (fin, (if (par != 0 && (bs.truth == some true) && !com) = true then [.tup [bs, .str msgE]] else []) ++ o) := by
  obtain ⟨fin, hr⟩ := h (.v (.int p.1)) (.v (.str p.2.1)) (.v (.tup [.int (1 + (p.2.2.1 : Int)), .int p.2.2.2])) (.v (.tup [.int (1 + (p.2.2.1 : Int)), .int ((p.2.2.2 : Int) + p.2.1.length)])) (.v (.str (ofL (L ++ [10])))) rfl rfl rfl rfl rfl
  refine ⟨fin, ?_⟩
  have hbd := E_bind (items := items) (ps := ps) (pe := ps) (par := par) (com := com) (bs := bs) (lines := lines) (p := p) ha hb hc he hf
  rw [hl] at hbd
  exact gloop_cons (cf := cfE) (tg := tgE) (body := bodyE) (k := 20) hbd (E_new hp hp hty hL hlen hbs) hr

variable {brk un : Bool}
theorem B_bind (ha : a.plain = true) (hb : b.plain = true) (hc : c.plain = true) (he : e.plain = true) (hf : f.plain = true) :
    tgB.bind cfB (B10 items brk un pt px a b c e f) (tokAV lines p) = some (B10 items brk un pt px (.v (.int p.1)) (.v (.str p.2.1)) (.v (.tup [.int (1 + (p.2.2.1 : Int)), .int p.2.2.2])) (.v (.tup [.int (1 + (p.2.2.1 : Int)), .int ((p.2.2.2 : Int) + p.2.1.length)])) (.v (lines.getD p.2.2.1 .none))) := by
  simp [tgB, Tg.bind, bindN, tokAV, B10, canV, cfB, genCf, ha, hb, hc, he, hf]

def BRun (items : List AV) (brk un : Bool) (pt px : AV) (toks o : List AV) : Prop := ∀ a b c e f : Slot, a.plain = true → b.plain = true → c.plain = true → e.plain = true → f.plain = true → ∃ fin, gloop cfB tgB bodyB 20 toks ⟨B10 items brk un pt px a b c e f, (0, 0)⟩ = some (fin, o)
theorem B_tok_com (hty : (p.1 == 61) = true) (h : BRun items brk un pt px rest o) : BRun items brk un pt px (tokAV lines p :: rest) o := by
  intro a b c e f ha hb hc he hf
  obtain ⟨fin, hr⟩ := h (.v (.int p.1)) (.v (.str p.2.1)) (.v (.tup [.int (1 + (p.2.2.1 : Int)), .int p.2.2.2])) (.v (.tup [.int (1 + (p.2.2.1 : Int)), .int ((p.2.2.2 : Int) + p.2.1.length)])) (.v (lines.getD p.2.2.1 .none)) rfl rfl rfl rfl rfl
  exact ⟨fin, gloop_cons (cf := cfB) (tg := tgB) (body := bodyB) (k := 20) (o1 := []) (B_bind ha hb hc he hf) (B_com hty) hr⟩
theorem B_tok_nl (hty : (p.1 == 61) = false) (h1 : strIn "\n" p.2.1 = true) (h3 : (p.1 == 3) = false) (h : BRun items true un pt px rest o) : BRun items brk un pt px (tokAV lines p :: rest) o := by
  intro a b c e f ha hb hc he hf
  obtain ⟨fin, hr⟩ := h (.v (.int p.1)) (.v (.str p.2.1)) (.v (.tup [.int (1 + (p.2.2.1 : Int)), .int p.2.2.2])) (.v (.tup [.int (1 + (p.2.2.1 : Int)), .int ((p.2.2.2 : Int) + p.2.1.length)])) (.v (lines.getD p.2.2.1 .none)) rfl rfl rfl rfl rfl
  exact ⟨fin, gloop_cons (cf := cfB) (tg := tgB) (body := bodyB) (k := 20) (o1 := []) (B_bind ha hb hc he hf) (B_nl hty h1 h3) hr⟩
theorem B_tok_piece (hty : (p.1 == 61) = false) (h1 : strIn "\n" p.2.1 = false) (h2 : strIn "\x0d" p.2.1 = false) (h : BRun items false (strIn p.2.1 "([{,;") (.int p.1) (.str p.2.1) rest o) :
    BRun items brk un pt px (tokAV lines p :: rest) (.tup [.int p.1, .str p.2.1, pt, px, .bool brk, .bool un, .tup [.int (1 + (p.2.2.1 : Int)), .int p.2.2.2]] :: o) := by
  intro a b c e f ha hb hc he hf
  obtain ⟨fin, hr⟩ := h (.v (.int p.1)) (.v (.str p.2.1)) (.v (.tup [.int (1 + (p.2.2.1 : Int)), .int p.2.2.2])) (.v (.tup [.int (1 + (p.2.2.1 : Int)), .int ((p.2.2.2 : Int) + p.2.1.length)])) (.v (lines.getD p.2.2.1 .none)) rfl rfl rfl rfl rfl
  exact ⟨fin, gloop_cons (cf := cfB) (tg := tgB) (body := bodyB) (k := 20) (o1 := [_]) (B_bind ha hb hc he hf) (B_piece hty h1 h2) hr⟩

def CRun (items cs o : List AV) : Prop := ∀ g a b p q k u st : Slot, g.plain = true → a.plain = true → b.plain = true → p.plain = true → q.plain = true → k.plain = true → u.plain = true → st.plain = true → ∃ fin, gloop cfC tgC bodyC 20 cs ⟨C10 items g a b p q k u st, (0, 0)⟩ = some (fin, o)
theorem C_ctx {ty : Int} {tx : Str} {sta : AV} {bi bp : Bool} (h1 : isBin (.int ty) (.str tx) = some bi) (h2 : isBin pt px = some bp) {cs : List AV} (h : CRun items cs o) :
    CRun items (.tup [.int ty, .str tx, pt, px, .bool brk, .bool un, sta] :: cs) ((if (bi && brk && !un && !bp) = true then [.tup [sta, .str msg3]] else []) ++ o) := by
  intro g a b p q k u st hg ha hb hp hq hk hu hs
  obtain ⟨fin, hr⟩ := h (.v (.tup [.int ty, .str tx, pt, px, .bool brk, .bool un, sta])) (.v (.int ty)) (.v (.str tx)) (.v pt) (.v px) (.v (.bool brk)) (.v (.bool un)) (.v sta) rfl rfl rfl rfl rfl rfl rfl rfl
  exact ⟨fin, gloop_cons (cf := cfC) (tg := tgC) (body := bodyC) (k := 20) (l := C10 items (.v (.tup [.int ty, .str tx, pt, px, .bool brk, .bool un, sta])) a b p q k u st) (by simp [tgC, Tg.bind, C10, canV, cfC, genCf, hg]) (C_step ha hb hp hq hk hu hs h1 h2) hr⟩

def ARun (items : List AV) (pst : AV) (cs o : List AV) : Prop := ∀ g a b p q k u st : Slot, g.plain = true → a.plain = true → b.plain = true → p.plain = true → q.plain = true → k.plain = true → u.plain = true → st.plain = true → ∃ fin, gloop cfA tgA bodyA 20 cs ⟨A11 items pst g a b p q k u st, (0, 0)⟩ = some (fin, o)
theorem A_ctx {pst : AV} {ty : Int} {tx : Str} {sta : AV} {bi bp : Bool} (h1 : isBin (.int ty) (.str tx) = some bi) (h2 : isBin pt px = some bp) {cs : List AV} (h : ARun items sta cs o) :
    ARun items pst (.tup [.int ty, .str tx, pt, px, .bool brk, .bool un, sta] :: cs) ((if (bp && brk && !un && !bi) = true then [.tup [pst, .str msg4]] else []) ++ o) := by
  intro g a b p q k u st hg ha hb hp hq hk hu hs
  obtain ⟨fin, hr⟩ := h (.v (.tup [.int ty, .str tx, pt, px, .bool brk, .bool un, sta])) (.v (.int ty)) (.v (.str tx)) (.v pt) (.v px) (.v (.bool brk)) (.v (.bool un)) (.v sta) rfl rfl rfl rfl rfl rfl rfl rfl
  exact ⟨fin, gloop_cons (cf := cfA) (tg := tgA) (body := bodyA) (k := 20) (l := A11 items pst (.v (.tup [.int ty, .str tx, pt, px, .bool brk, .bool un, sta])) a b p q k u st) (by simp [tgA, Tg.bind, A11, canV, cfA, genCf, hg]) (A_step ha hb hp hq hk hu hs h1 h2) hr⟩
end
end Mine

namespace Mine
open PySem

theorem ofL_app (L : List Nat) (w : Str) : ofL L ++ w = ofL (L ++ w.cps.toList) := by
  show Str.mk _ = Str.mk _
  congr 1
  show L.toArray ++ w.cps = (L ++ w.cps.toList).toArray
  simp
theorem len_toList (w : Str) : w.cps.toList.length = w.length := by simp [Str.length]

section
variable {xs : List Int} {spans lines before after joins ps : List AV} {L : List Nat} {dp : Int} {wy fm : Slot} {last : AV} {d : Dr} {j : Nat} {prev p : Pc}

def stepDp (dp : Int) (p : Pc) : Int := dp + b01 (p.2.2 == ("open" : Str)) - b01 (p.2.2 == ("close" : Str))

theorem body_stay (hw : wy.plain = true) (hf : fm.plain = true) (hp : ps[j]? = some (pav prev)) (hps : ps.length ≤ 1000000)
    (hb : (prev.2.2 != ("sign" : Str) && (decide ((lawNext xs d 5).1 < 2) && (decide ((lines.length : Int) < 5) && ((lawNext xs d 5).1 == 1 || decide (dp > 0))))) = false) (h1 : lines.length ≤ 10000) (h2 : L.length ≤ 10000) (h3 : spans.length ≤ 10000) (hl4 : p.2.1.length ≤ 4) :
    bodyL.ex (cfL xs) 40 ⟨L18 spans lines (ofL L) dp before after joins ps (.v (.int ((j + 1 : Nat) : Int))) (.v (.int p.1)) (.v (.str p.2.1)) (.v (.str p.2.2)) wy fm (.v last), d⟩ =
    some (.next, ⟨L18 (spans ++ [spAV (p.1, p.2.1, lines.length, (L ++ [32]).length)]) lines (ofL (L ++ [32] ++ p.2.1.cps.toList)) (stepDp dp p) before after joins ps (.v (.int ((j + 1 : Nat) : Int))) (.v (.int p.1)) (.v (.str p.2.1)) (.v (.str p.2.2))
      (.v (.int (lawNext xs d 5).1)) (.v (.str prev.2.2)) (.v (.tup [.int (lines.length + 1), .int (L ++ [32]).length])), (lawNext xs d 5).2⟩) := by
  have e1 : ofL L ++ (" " : Str) = ofL (L ++ [32]) := by rw [ofL_app]; rfl
  have hi : ((j + 1 : Nat) : Int) > 0 := by omega
  have hl32 : (ofL (L ++ [32])).length ≤ 10001 := by rw [strlen_ofL, List.length_append]; simp; omega
  rw [bodyL_eq]
  simp only [SL.ex]
  rw [bL0_succ (n := 38) hw hf hp hps]
  simp only
  rw [bL1_stay (n := 22) hb (by omega) (by rw [strlen_ofL]; omega), if_pos hi, e1]
  simp only
  rw [bL2 (n := 36) (by omega) (by omega) rfl]
  simp only
  rw [bL3 (n := 35) (by omega) (by omega) (by omega)]
  simp only
  rw [bL4 (n := 34) (by omega), ofL_app]
  simp only
  rw [bL5 (n := 33)]
  simp only [strlen_ofL]
  rfl

theorem body_bs (hw : wy.plain = true) (hf : fm.plain = true) (hp : ps[j]? = some (pav prev)) (hps : ps.length ≤ 1000000)
    (hfs : (prev.2.2 != ("sign" : Str)) = true) (hwy : (lawNext xs d 5).1 = 1) (hlen : (lines.length : Int) < 5) (h2 : L.length ≤ 10000) (h3 : spans.length ≤ 10000) (h4 : joins.length ≤ 10000) (hl4 : p.2.1.length ≤ 4) :
    bodyL.ex (cfL xs) 40 ⟨L18 spans lines (ofL L) dp before after joins ps (.v (.int ((j + 1 : Nat) : Int))) (.v (.int p.1)) (.v (.str p.2.1)) (.v (.str p.2.2)) wy fm (.v last), d⟩ =
    some (.next, ⟨L18 (spans ++ [spAV (p.1, p.2.1, lines.length + 1, 2)]) (lines ++ [.str (ofL (L ++ [32, 92] ++ [10]))]) (ofL ([32, 32] ++ p.2.1.cps.toList)) (stepDp dp p) before after (if dp > 0 then joins ++ [mkMsg (lines.length + 1) (L.length + 1) msgE] else joins) ps (.v (.int ((j + 1 : Nat) : Int))) (.v (.int p.1)) (.v (.str p.2.1)) (.v (.str p.2.2))
      (.v (.int 1)) (.v (.str prev.2.2)) (.v (.tup [.int (((lines.length + 1 : Nat) : Int) + 1), .int 2])), (lawNext xs d 5).2⟩) := by
  have e1 : ofL L ++ (" \\\n" : Str) = ofL (L ++ [32, 92] ++ [10]) := by rw [ofL_app, List.append_assoc]; rfl
  have e2 : ("  " : Str) = ofL [32, 32] := by decide +kernel
  have h1 : lines.length ≤ 5 := by omega
  have hl' : (lines ++ [AV.str (ofL (L ++ [32, 92] ++ [10]))]).length = lines.length + 1 := by simp
  have e3 : (ofL [32, 32]).length = 2 := by decide
  rw [bodyL_eq]
  simp only [SL.ex]
  rw [bL0_succ (n := 38) hw hf hp hps, hwy]
  simp only
  rw [bL1_bs (n := 22) hfs hlen (by omega) (by rw [strlen_ofL]; omega) (by omega), e1, e2]
  simp only
  rw [bL2 (n := 36) (by omega) (by rw [e3]; decide) rfl]
  simp only
  rw [bL3 (n := 35) (by omega) (by rw [e3]; decide) (by omega)]
  simp only
  rw [bL4 (n := 34) (by rw [e3]; omega), ofL_app]
  simp only
  rw [bL5 (n := 33)]
  simp only [strlen_ofL, hl', e3]
  rfl

theorem body_nl (hw : wy.plain = true) (hf : fm.plain = true) (hp : ps[j]? = some (pav prev)) (hps : ps.length ≤ 1000000)
    (hfs : (prev.2.2 != ("sign" : Str)) = true) (hwy : (lawNext xs d 5).1 < 2) (hwy1 : ((lawNext xs d 5).1 == 1) = false) (hdp : dp > 0) (hlen : (lines.length : Int) < 5) (h2 : L.length ≤ 10000) (h3 : spans.length ≤ 10000) (h4 : before.length ≤ 10000) (h5 : after.length ≤ 10000) (hl4 : p.2.1.length ≤ 4)
    {com : Bool} (hc : ((lawNext xs (lawNext xs d 5).2 3).1 == 0) = com) {L₁ : List Nat} (hL₁ : L₁ = if com = true then L ++ [32, 32, 35, 32, 92] else L) :
    bodyL.ex (cfL xs) 40 ⟨L18 spans lines (ofL L) dp before after joins ps (.v (.int ((j + 1 : Nat) : Int))) (.v (.int p.1)) (.v (.str p.2.1)) (.v (.str p.2.2)) wy fm (.v last), d⟩ =
    some (.next, ⟨L18 ((if com = true then spans ++ [spAV (61, "# \\", lines.length, L.length + 2)] else spans) ++ [spAV (62, "\n", lines.length, L₁.length)] ++ [spAV (p.1, p.2.1, lines.length + 1, 2)]) (lines ++ [.str (ofL (L₁ ++ [10]))]) (ofL ([32, 32] ++ p.2.1.cps.toList)) (stepDp dp p)
      (if (p.2.2 == ("operator" : Str) && (["operand", "close", "plain"] : List Str).any (· == prev.2.2)) = true then before ++ [mkMsg (lines.length + 1 + 1) 2 msg3] else before)
      (if (prev.2.2 == ("operator" : Str) && (["operand", "open"] : List Str).any (· == p.2.2)) = true then after ++ [.tup [last, .str msg4]] else after) joins ps (.v (.int ((j + 1 : Nat) : Int))) (.v (.int p.1)) (.v (.str p.2.1)) (.v (.str p.2.2))
      (.v (.int (lawNext xs d 5).1)) (.v (.str prev.2.2)) (.v (.tup [.int (((lines.length + 1 : Nat) : Int) + 1), .int 2])), (lawNext xs (lawNext xs d 5).2 3).2⟩) := by
  have e0 : ofL L ++ ("  # \\" : Str) = ofL (L ++ [32, 32, 35, 32, 92]) := by rw [ofL_app]; rfl
  have e1 : (if com = true then ofL L ++ ("  # \\" : Str) else ofL L) ++ ("\n" : Str) = ofL (L₁ ++ [10]) := by
    rw [hL₁]
    cases com
    · simp only [Bool.false_eq_true, if_false]; rw [ofL_app]; rfl
    · simp only [if_true]; rw [e0, ofL_app]; rfl
  have e2 : ("  " : Str) = ofL [32, 32] := by decide +kernel
  have h1 : lines.length ≤ 5 := by omega
  have hl' : (lines ++ [AV.str (ofL (L₁ ++ [10]))]).length = lines.length + 1 := by simp
  have e3 : (ofL [32, 32]).length = 2 := by decide
  rw [bodyL_eq]
  simp only [SL.ex]
  rw [bL0_succ (n := 38) hw hf hp hps]
  simp only
  rw [bL1_nl (n := 22) hfs hwy hwy1 hdp hlen (by omega) (by rw [strlen_ofL]; omega) (by omega) (by omega) (by omega), hc, e1, e2]
  simp only
  have hsp : (if com = true then spans ++ [AV.tup [.int 61, .str "# \\", .int lines.length, .int ((ofL L).length + 2)]] ++ [.tup [.int 62, .str "\n", .int lines.length, .int (ofL L ++ ("  # \\" : Str)).length]] else spans ++ [.tup [.int 62, .str "\n", .int lines.length, .int (ofL L).length]]) =
      (if com = true then spans ++ [spAV (61, "# \\", lines.length, L.length + 2)] else spans) ++ [spAV (62, "\n", lines.length, L₁.length)] := by
    rw [hL₁, e0]
    cases com
    · simp only [Bool.false_eq_true, if_false, strlen_ofL]; rfl
    · simp only [if_true, strlen_ofL]; rfl
  rw [hsp]
  have hspl : ((if com = true then spans ++ [spAV (61, "# \\", lines.length, L.length + 2)] else spans) ++ [spAV (62, "\n", lines.length, L₁.length)]).length ≤ 10002 := by
    cases com <;> simp <;> omega
  rw [bL2 (n := 36) (by omega) (by rw [e3]; decide) rfl]
  simp only
  rw [bL3 (n := 35) (by omega) (by rw [e3]; decide) (by omega)]
  simp only
  rw [bL4 (n := 34) (by rw [e3]; omega), ofL_app]
  simp only
  rw [bL5 (n := 33)]
  simp only [strlen_ofL, hl', e3]
  rfl
end
end Mine

namespace Mine
open PySem

theorem eloop_step {xs : List Int} {spans lines before after joins ps ds : List AV} {line : Str} {dp : Int} {k kd wd wt wy fm last : Slot} {d : Dr} {i : Nat} {p : Pc} {fl : Fl} {σ₁ : St} (hk : k.plain = true) (hkd : kd.plain = true) (hwd : wd.plain = true) (hwt : wt.plain = true)
    (hbody : bodyL.ex (cfL xs) 40 ⟨L18 spans lines line dp before after joins ps (.v (.int (i : Int))) (.v (.int p.1)) (.v (.str p.2.1)) (.v (.str p.2.2)) wy fm last, d⟩ = some (fl, σ₁)) :
    eloop (cfL xs) 10 tgK bodyL 40 i (pav p :: ds) ⟨L18 spans lines line dp before after joins ps k kd wd wt wy fm last, d⟩ = eloop (cfL xs) 10 tgK bodyL 40 (i + 1) ds σ₁ := by
  have h1 : canV (cfL xs) (L18 spans lines line dp before after joins ps k kd wd wt wy fm last) 10 = true := by simp [canV, cfL, L18, hk]
  have h2 : tgK.bind (cfL xs) ((L18 spans lines line dp before after joins ps k kd wd wt wy fm last).set 10 (.v (.int (i : Int)))) (pav p) = some (L18 spans lines line dp before after joins ps (.v (.int (i : Int))) (.v (.int p.1)) (.v (.str p.2.1)) (.v (.str p.2.2)) wy fm last) := by
    simp [tgK, Tg.bind, bindN, pav, L18, canV, cfL, hkd, hwd, hwt]
  simp only [eloop]
  rw [if_pos h1, h2]
  simp only
  rw [hbody]

def ERun (items : List AV) (row par : Int) (com : Bool) (bs : AV) (toks o : List AV) : Prop := ∀ a b c e f : Slot, a.plain = true → b.plain = true → c.plain = true → e.plain = true → f.plain = true → ∃ fin, gloop cfE tgE bodyE 20 toks ⟨E12 items row row par com bs a b c e f, (0, 0)⟩ = some (fin, o)

theorem E_same' {items lines rest o : List AV} {row par par' : Int} {com com' : Bool} {bs : AV} {p : Sp} {ln : Str} (hrow : row = 1 + (p.2.2.1 : Int)) (hl : lines.getD p.2.2.1 .none = .str ln) (hpar : parOf par p.1 p.2.1 = par') (hcom : (com || p.1 == 61) = com')
    (h : ERun items row par' com' bs rest o) : ERun items row par com bs (tokAV lines p :: rest) o := by
  subst hrow hpar hcom
  intro a b c e f ha hb hc he hf
  exact E_tok_same ha hb hc he hf hl h
theorem E_new' {items lines rest o o' : List AV} {row row' par par' : Int} {com : Bool} {bs : AV} {p : Sp} {L : List Nat} (hrow : row' = 1 + (p.2.2.1 : Int)) (hl : lines.getD p.2.2.1 .none = .str (ofL (L ++ [10]))) (hL : ∀ c ∈ L, safeC c = true) (hlen : L.length ≤ 99999)
    (hty : (p.1 == 61) = false) (hp : (row' != row) = true) (hbs : bs = .none ∨ ∃ a b : Int, bs = .tup [.int a, .int b]) (hpar : parOf par p.1 p.2.1 = par') (ho : o' = (if (par != 0 && (bs.truth == some true) && !com) = true then [.tup [bs, .str msgE]] else []) ++ o)
    (h : ERun items row' par' false (bsOf row' L) rest o) : ERun items row par com bs (tokAV lines p :: rest) o' := by
  subst hrow hpar ho
  intro a b c e f ha hb hc he hf
  exact E_tok_new ha hb hc he hf hl hL hlen hty hp hbs h

theorem E_sameC {items lines rest o : List AV} {par par' : Int} {com com' : Bool} {bs : AV} {ty : Int} {tx : Str} {n st : Nat} {ln : Str} (hl : lines.getD n .none = .str ln) (hpar : parOf par ty tx = par') (hcom : (com || ty == 61) = com')
    (h : ERun items (1 + (n : Int)) par' com' bs rest o) : ERun items (1 + (n : Int)) par com bs (tokAV lines (ty, tx, n, st) :: rest) o :=
  E_same' (p := (ty, tx, n, st)) rfl hl hpar hcom h
theorem E_newC {items lines rest o o' : List AV} {row par par' : Int} {com : Bool} {bs : AV} {ty : Int} {tx : Str} {n st : Nat} {L : List Nat} (hl : lines.getD n .none = .str (ofL (L ++ [10]))) (hL : ∀ c ∈ L, safeC c = true) (hlen : L.length ≤ 99999)
    (hty : (ty == 61) = false) (hp : (1 + (n : Int) != row) = true) (hbs : bs = .none ∨ ∃ a b : Int, bs = .tup [.int a, .int b]) (hpar : parOf par ty tx = par') (ho : o' = (if (par != 0 && (bs.truth == some true) && !com) = true then [.tup [bs, .str msgE]] else []) ++ o)
    (h : ERun items (1 + (n : Int)) par' false (bsOf (1 + (n : Int)) L) rest o) : ERun items row par com bs (tokAV lines (ty, tx, n, st) :: rest) o' :=
  E_new' (p := (ty, tx, n, st)) rfl hl hL hlen hty hp hbs hpar ho h
theorem B_comC {items lines rest o : List AV} {brk un : Bool} {pt px : AV} {ty : Int} {tx : Str} {n st : Nat} (hty : (ty == 61) = true) (h : BRun items brk un pt px rest o) : BRun items brk un pt px (tokAV lines (ty, tx, n, st) :: rest) o := B_tok_com (p := (ty, tx, n, st)) hty h
theorem B_nlC {items lines rest o : List AV} {brk un : Bool} {pt px : AV} {ty : Int} {tx : Str} {n st : Nat} (hty : (ty == 61) = false) (h1 : strIn "\n" tx = true) (h3 : (ty == 3) = false) (h : BRun items true un pt px rest o) : BRun items brk un pt px (tokAV lines (ty, tx, n, st) :: rest) o := B_tok_nl (p := (ty, tx, n, st)) hty h1 h3 h
theorem B_pieceC {items lines rest o : List AV} {brk un : Bool} {pt px : AV} {ty : Int} {tx : Str} {n st : Nat} (hty : (ty == 61) = false) (h1 : strIn "\n" tx = false) (h2 : strIn "\x0d" tx = false) (h : BRun items false (strIn tx "([{,;") (.int ty) (.str tx) rest o) :
    BRun items brk un pt px (tokAV lines (ty, tx, n, st) :: rest) (.tup [.int ty, .str tx, pt, px, .bool brk, .bool un, .tup [.int (1 + (n : Int)), .int st]] :: o) := B_tok_piece (p := (ty, tx, n, st)) hty h1 h2 h

def Chain : Str → Int → List Pc → Prop
  | _, _, [] => True
  | f, dp, p :: r => okPc p = true ∧ adj f p.2.2 = true ∧ (p.2.2 = "close" → dp > 0) ∧ Chain p.2.2 (stepDp dp p) r

def nlTok (n l : Nat) : Sp := (4, "\n", n, l)

structure FinP (lines : List AV) (dp : Int) (prev : Pc) (last : AV) (n : Nat) (sp : List Sp) (lns : List AV) (L' : List Nat) (b' a' j' : List AV) (C : List Nat) (cs : List AV) : Prop where
  safe' : ∀ c ∈ L', safeC c = true
  len' : L'.length ≤ 5100
  head : (lns ++ [AV.str (ofL (L' ++ [10]))]).head? = some (.str (ofL (C ++ [10])))
  safeC' : ∀ c ∈ C, safeC c = true
  lenC : C.length ≤ 5200
  spn : sp.length ≤ 3 * n
  ln : lns.length ≤ n
  bl : b'.length ≤ n
  al : a'.length ≤ n
  jl : j'.length ≤ n
  spok : ∀ p ∈ sp, p.2.2.1 < lines.length + lns.length + 1 ∧ p.2.1.length ≤ 10
  mb : ∀ x ∈ b', Msg x
  ma : ∀ x ∈ a', Msg x
  mj : ∀ x ∈ j', Msg x
  E : ∀ items Lf, Lf = lines ++ lns ++ [AV.str (ofL (L' ++ [10]))] → ERun items (1 + (lines.length : Int)) dp false (bsOf (1 + (lines.length : Int)) C) ((sp ++ [nlTok (lines.length + lns.length) L'.length]).map (tokAV Lf)) j'
  B : ∀ items Lf, Lf = lines ++ lns ++ [AV.str (ofL (L' ++ [10]))] → BRun items false (strIn prev.2.1 "([{,;") (.int prev.1) (.str prev.2.1) ((sp ++ [nlTok (lines.length + lns.length) L'.length]).map (tokAV Lf)) cs
  C : ∀ items, CRun items cs b'
  A : ∀ items, ARun items last cs a'

theorem getD_mid {lines r : List AV} {x d : AV} : (lines ++ x :: r).getD lines.length d = x := by
  simp

theorem strOk3 : PyData.strOk msg3 = true := by decide +kernel
theorem strOk4 : PyData.strOk msg4 = true := by decide +kernel
theorem strOkE : PyData.strOk msgE = true := by decide +kernel

theorem hnn : strIn "\n" "\n" = true := by decide +kernel
theorem getD_head {lines r : List AV} {x d : AV} (h : r.head? = some x) : (lines ++ r).getD lines.length d = x := by
  cases r with
  | nil => cases h
  | cons y r =>
    cases h
    simp

theorem stepDp_nonneg {dp : Int} {p : Pc} (h : 0 ≤ dp) (hc : p.2.2 = "close" → dp > 0) : 0 ≤ stepDp dp p := by
  unfold stepDp
  by_cases h1 : p.2.2 = ("close" : Str)
  · have := hc h1
    have e1 : (p.2.2 == ("close" : Str)) = true := by simp [h1]
    have e2 : (p.2.2 == ("open" : Str)) = false := by rw [h1]; decide +kernel
    rw [e1, e2]
    simp only [b01, if_true, Bool.false_eq_true, if_false]
    omega
  · have e1 : (p.2.2 == ("close" : Str)) = false := by simp [h1]
    rw [e1]
    cases (p.2.2 == ("open" : Str)) <;> simp [b01] <;> omega

theorem safe_app {a b : List Nat} (ha : ∀ c ∈ a, safeC c = true) (hb : ∀ c ∈ b, safeC c = true) : ∀ c ∈ a ++ b, safeC c = true := fun c h => (List.mem_append.mp h).elim (ha c) (hb c)
theorem safe_lit {b : List Nat} (h : b.all safeC = true) : ∀ c ∈ b, safeC c = true := List.all_eq_true.mp h
theorem last_app {a b : List Nat} (h : ∃ c, b.getLast? = some c ∧ c ≠ 92) : ∃ c, (a ++ b).getLast? = some c ∧ c ≠ 92 := by
  obtain ⟨c, h1, h2⟩ := h
  exact ⟨c, by rw [List.getLast?_append, h1]; rfl, h2⟩

def comSp (com : Bool) (n l : Nat) : List Sp := if com = true then [(61, "# \\", n, l)] else []
theorem comSp_len {com : Bool} {n l : Nat} : (comSp com n l).length ≤ 1 := by cases com <;> simp [comSp]
theorem fin_eq {s1 s2 l1 l2 b1 b2 a1 a2 j1 j2 ps : List AV} {L : Str} {dp : Int} {k kd wd wt wy fm la : Slot} {d : Dr} (h1 : s1 = s2) (h2 : l1 = l2) (h3 : b1 = b2) (h4 : a1 = a2) (h5 : j1 = j2) :
    (some ⟨L18 s1 l1 L dp b1 a1 j1 ps k kd wd wt wy fm la, d⟩ : Option St) = some ⟨L18 s2 l2 L dp b2 a2 j2 ps k kd wd wt wy fm la, d⟩ := by
  subst h1 h2 h3 h4 h5; rfl

theorem ite_app {α : Type} {c : Prop} [Decidable c] {l : List α} {x : α} : (if c then l ++ [x] else l) = l ++ (if c then [x] else []) := by
  split
  · rfl
  · rw [List.append_nil]
theorem ite_len {α : Type} {c : Prop} [Decidable c] {x : α} : (if c then [x] else [] : List α).length ≤ 1 := by
  split <;> simp
theorem len_cons_le {α : Type} {x : α} {l : List α} {n : Nat} (h : l.length ≤ n) : (x :: l).length ≤ n + 1 := by simpa using h
theorem len_app_le {α : Type} {l l' : List α} {n m : Nat} (h : l.length ≤ n) (h' : l'.length ≤ m) : (l ++ l').length ≤ n + m := by rw [List.length_append]; omega
theorem mkMsg_msg {r c : Int} {m : Str} (h : PyData.strOk m = true) : Msg (mkMsg r c m) := ⟨_, _, _, rfl, h⟩
theorem mem_ite {α : Type} {c : Prop} [Decidable c] {x y : α} (h : x ∈ (if c then [y] else [] : List α)) : x = y := by
  split at h
  · simpa using h
  · cases h
theorem bsOf_no {r : Int} {L : List Nat} (h : ∃ c, L.getLast? = some c ∧ c ≠ 92) : bsOf r L = .none := by
  obtain ⟨c, h1, h2⟩ := h
  unfold bsOf
  have : (L.getLast? == some 92) = false := by rw [h1]; simp [h2]
  rw [this]; rfl
theorem bsOf_yes {r : Int} {L : List Nat} (h : L.getLast? = some 92) : bsOf r L = .tup [.int r, .int ((L.length : Int) - 1)] := by
  unfold bsOf
  have : (L.getLast? == some 92) = true := by rw [h]; rfl
  rw [this]; rfl

theorem law_run {xs : List Int} {ps : List AV} (hps : ps.length ≤ 1000) : ∀ (r : List Pc) (j : Nat) (prev : Pc) (spans lines : List AV) (L : List Nat) (dp : Int) (before after joins : List AV) (k kd wd wt wy fm : Slot) (c1 c2 : Int) (d : Dr),
    ps[j]? = some (pav prev) → ps.drop (j + 1) = r.map pav → okPc prev = true → Chain prev.2.2 dp r → 0 ≤ dp → (∀ c ∈ L, safeC c = true) → (∃ c, L.getLast? = some c ∧ c ≠ 92) → L.length + 20 * r.length ≤ 5000 → spans.length + 3 * r.length ≤ 5000 → lines.length + r.length ≤ 5000 →
    before.length + r.length ≤ 5000 → after.length + r.length ≤ 5000 → joins.length + r.length ≤ 5000 → k.plain = true → kd.plain = true → wd.plain = true → wt.plain = true → wy.plain = true → fm.plain = true →
    ∃ sp lns L' dp' b' a' j' C cs k' kd' wd' wt' wy' fm' last' d', eloop (cfL xs) 10 tgK bodyL 40 (j + 1) (r.map pav) ⟨L18 spans lines (ofL L) dp before after joins ps k kd wd wt wy fm (.v (.tup [.int c1, .int c2])), d⟩ =
      some ⟨L18 (spans ++ sp.map spAV) (lines ++ lns) (ofL L') dp' (before ++ b') (after ++ a') (joins ++ j') ps k' kd' wd' wt' wy' fm' last', d'⟩ ∧ FinP lines dp prev (.tup [.int c1, .int c2]) r.length sp lns L' b' a' j' C cs := by
  intro r
  induction r with
  | nil =>
    intro j prev spans lines L dp before after joins k kd wd wt wy fm c1 c2 d hp hdrop hok hch hdp hL hLl hLb hsb hlb hbb hab hjb pk pkd pwd pwt pwy pfm
    refine ⟨[], [], L, dp, [], [], [], L, [], k, kd, wd, wt, wy, fm, _, d, by simp [eloop]; rfl, ?_⟩
    simp only [List.length_nil] at hLb
    refine ⟨hL, by omega, rfl, hL, by omega, by simp, by simp, by simp, by simp, by simp, by simp, by simp, by simp, by simp, ?_, ?_, ?_, ?_⟩
    · intro items Lf hLf a b c e f ha hb hc he hf
      subst hLf
      have hl : (lines ++ [] ++ [AV.str (ofL (L ++ [10]))]).getD (nlTok (lines.length + ([] : List AV).length) L.length).2.2.1 .none = .str (ofL (L ++ [10])) := by
        simp [nlTok]
      exact E_tok_same (p := nlTok (lines.length + ([] : List AV).length) L.length) (rest := []) (o := []) ha hb hc he hf hl fun a b c e f _ _ _ _ _ => ⟨_, rfl⟩
    · intro items Lf hLf
      refine B_tok_nl (p := nlTok (lines.length + ([] : List AV).length) L.length) (by rfl) hnn (by rfl) ?_
      intro a b c e f _ _ _ _ _
      exact ⟨_, rfl⟩
    · intro items g a b p q k u st _ _ _ _ _ _ _ _
      exact ⟨_, rfl⟩
    · intro items g a b p q k u st _ _ _ _ _ _ _ _
      exact ⟨_, rfl⟩
  | cons p r ih =>
    intro j prev spans lines L dp before after joins k kd wd wt wy fm c1 c2 d hp hdrop hok hch hdp hL hLl hLb hsb hlb hbb hab hjb pk pkd pwd pwt pwy pfm
    obtain ⟨hokp, hadj, hcl, hch'⟩ := hch
    have FP := okPc_facts hokp
    have FQ := okPc_facts hok
    have hdp' := stepDp_nonneg hdp hcl
    have hpi : ps[j + 1]? = some (pav p) := by
      have : (ps.drop (j + 1))[0]? = some (pav p) := by rw [hdrop]; rfl
      rwa [List.getElem?_drop, Nat.add_zero] at this
    have hdrop' : ps.drop (j + 1 + 1) = r.map pav := by
      have : (ps.drop (j + 1)).drop 1 = r.map pav := by rw [hdrop]; rfl
      rwa [List.drop_drop] at this
    simp only [List.length_cons] at hLb hsb hlb hbb hab hjb
    have hlp := FP.len
    have hlw : p.2.1.cps.toList.length ≤ 4 := by rw [len_toList]; exact hlp
    have hbp := FQ.bin
    have hbi := FP.bin
    rw [List.map_cons]
    cases hbrk : (prev.2.2 != ("sign" : Str) && (decide ((lawNext xs d 5).1 < 2) && (decide ((lines.length : Int) < 5) && ((lawNext xs d 5).1 == 1 || decide (dp > 0)))))
    · -- no break
      have body := body_stay (xs := xs) (spans := spans) (lines := lines) (before := before) (after := after) (joins := joins) (ps := ps) (L := L) (dp := dp) (last := .tup [.int c1, .int c2]) (p := p) (prev := prev) (j := j) (d := d) pwy pfm hp (by omega) hbrk (by omega) (by omega) (by omega) hlp
      obtain ⟨sp, lns, L', dp', b', a', j', C, cs, k', kd', wd', wt', wy', fm', last', d', hrun, FN⟩ := ih (j + 1) p (spans ++ [spAV (p.1, p.2.1, lines.length, (L ++ [32]).length)]) lines (L ++ [32] ++ p.2.1.cps.toList) (stepDp dp p) before after joins
        (.v (.int ((j + 1 : Nat) : Int))) (.v (.int p.1)) (.v (.str p.2.1)) (.v (.str p.2.2)) (.v (.int (lawNext xs d 5).1)) (.v (.str prev.2.2)) ((lines.length : Int) + 1) ((L ++ [32]).length) (lawNext xs d 5).2 hpi hdrop' hokp hch' hdp'
        (safe_app (safe_app hL (safe_lit (by decide))) FP.safe) (last_app FP.last) (by simp only [List.length_append, List.length_singleton]; omega) (by simp only [List.length_append, List.length_singleton]; omega) (by omega) (by omega) (by omega) (by omega) rfl rfl rfl rfl rfl rfl
      refine ⟨(p.1, p.2.1, lines.length, (L ++ [32]).length) :: sp, lns, L', dp', b', a', j', C, .tup [.int p.1, .str p.2.1, .int prev.1, .str prev.2.1, .bool false, .bool (strIn prev.2.1 "([{,;"), .tup [.int (1 + (lines.length : Int)), .int ((L ++ [32]).length : Nat)]] :: cs, k', kd', wd', wt', wy', fm', last', d', ?_, ?_⟩
      · rw [eloop_step (p := p) (i := j + 1) pk pkd pwd pwt body, hrun, List.append_assoc]
        rfl
      have hsn := FN.spn
      have hln := FN.ln
      have hbl := FN.bl
      have hal := FN.al
      have hjl := FN.jl
      refine ⟨FN.safe', FN.len', FN.head, FN.safeC', FN.lenC, by simp only [List.length_cons]; omega, by simp only [List.length_cons]; omega, by simp only [List.length_cons]; omega, by simp only [List.length_cons]; omega, by simp only [List.length_cons]; omega, ?_, FN.mb, FN.ma, FN.mj, ?_, ?_, ?_, ?_⟩
      · intro q hq
        rcases List.mem_cons.mp hq with rfl | hq
        · exact ⟨by show lines.length < _; omega, by show p.2.1.length ≤ 10; omega⟩
        · exact FN.spok q hq
      · intro items Lf hLf
        have hE := FN.E items Lf hLf
        have hg : Lf.getD lines.length .none = .str (ofL (C ++ [10])) := by rw [hLf, List.append_assoc]; exact getD_head FN.head
        rw [List.cons_append, List.map_cons]
        exact E_sameC hg (FP.par dp) (by rw [FP.k61]; rfl) hE
      · intro items Lf hLf
        rw [List.cons_append, List.map_cons]
        exact B_pieceC FP.k61 FP.nl FP.cr (FN.B items Lf hLf)
      · intro items
        have := C_ctx (un := strIn prev.2.1 "([{,;") (brk := false) (sta := .tup [.int (1 + (lines.length : Int)), .int ((L ++ [32]).length : Nat)]) hbi hbp (FN.C items)
        simpa using this
      · intro items
        have hA := FN.A items
        rw [Int.add_comm] at hA
        have := A_ctx (pst := .tup [.int c1, .int c2]) (un := strIn prev.2.1 "([{,;") (brk := false) (sta := .tup [.int (1 + (lines.length : Int)), .int ((L ++ [32]).length : Nat)]) hbi hbp hA
        simpa using this
    · -- a break
      simp only [Bool.and_eq_true, decide_eq_true_eq, Bool.or_eq_true] at hbrk
      obtain ⟨hfs, hw2, hl5, hwd⟩ := hbrk
      cases hw1 : ((lawNext xs d 5).1 == 1)
      · -- within brackets
        generalize hcom : ((lawNext xs (lawNext xs d 5).2 3).1 == 0) = com
        have hgt : dp > 0 := by
          rcases hwd with h | h
          · rw [hw1] at h; cases h
          · exact h
        obtain ⟨L₁, hL₁⟩ : ∃ L₁ : List Nat, L₁ = if com = true then L ++ [32, 32, 35, 32, 92] else L := ⟨_, rfl⟩
        have hL₁s : ∀ c ∈ L₁, safeC c = true := by
          rw [hL₁]; split
          · exact safe_app hL (safe_lit (by decide))
          · exact hL
        have hL₁l : L₁.length ≤ L.length + 5 := by
          rw [hL₁]; split
          · simp
          · omega
        have body := body_nl (xs := xs) (spans := spans) (lines := lines) (before := before) (after := after) (joins := joins) (ps := ps) (L := L) (dp := dp) (last := .tup [.int c1, .int c2]) (p := p) (prev := prev) (j := j) (d := d) pwy pfm hp (by omega) hfs hw2 hw1 hgt hl5 (by omega) (by omega) (by omega) (by omega) hlp hcom hL₁
        rw [ite_app (l := before), ite_app (l := after), ite_app (l := spans)] at body
        obtain ⟨b0, hb0⟩ : ∃ b0 : List AV, b0 = (if (p.2.2 == ("operator" : Str) && (["operand", "close", "plain"] : List Str).any (· == prev.2.2)) = true then [mkMsg (lines.length + 1 + 1) 2 msg3] else []) := ⟨_, rfl⟩
        obtain ⟨a0, ha0⟩ : ∃ a0 : List AV, a0 = (if (prev.2.2 == ("operator" : Str) && (["operand", "open"] : List Str).any (· == p.2.2)) = true then [.tup [.tup [.int c1, .int c2], .str msg4]] else []) := ⟨_, rfl⟩
        obtain ⟨sc, hsc⟩ : ∃ sc : List Sp, sc = comSp com lines.length (L.length + 2) := ⟨_, rfl⟩
        have hscm : (if com = true then [spAV (61, "# \\", lines.length, L.length + 2)] else []) = sc.map spAV := by rw [hsc]; cases com <;> rfl
        rw [← hb0, ← ha0, hscm] at body
        have hb0l : b0.length ≤ 1 := by rw [hb0]; exact ite_len
        have ha0l : a0.length ≤ 1 := by rw [ha0]; exact ite_len
        have hscl : sc.length ≤ 1 := by rw [hsc]; exact comSp_len
        obtain ⟨sp, lns, L', dp', b', a', j', C, cs, k', kd', wd', wt', wy', fm', last', d', hrun, FN⟩ := ih (j + 1) p (spans ++ sc.map spAV ++ [spAV (62, "\n", lines.length, L₁.length)] ++ [spAV (p.1, p.2.1, lines.length + 1, 2)]) (lines ++ [.str (ofL (L₁ ++ [10]))]) ([32, 32] ++ p.2.1.cps.toList) (stepDp dp p) (before ++ b0) (after ++ a0) joins
          (.v (.int ((j + 1 : Nat) : Int))) (.v (.int p.1)) (.v (.str p.2.1)) (.v (.str p.2.2)) (.v (.int (lawNext xs d 5).1)) (.v (.str prev.2.2)) (((lines.length + 1 : Nat) : Int) + 1) 2 (lawNext xs (lawNext xs d 5).2 3).2 hpi hdrop' hokp hch' hdp'
          (safe_app (safe_lit (by decide)) FP.safe) (last_app FP.last) (by simp only [List.length_append, List.length_cons, List.length_nil]; omega) (by simp only [List.length_append, List.length_singleton, List.length_map]; omega) (by simp only [List.length_append, List.length_singleton]; omega) (by rw [List.length_append]; omega) (by rw [List.length_append]; omega) (by omega) rfl rfl rfl rfl rfl rfl
        have hll : (lines ++ [AV.str (ofL (L₁ ++ [10]))]).length = lines.length + 1 := by simp
        refine ⟨sc ++ ((62, "\n", lines.length, L₁.length) : Sp) :: ((p.1, p.2.1, lines.length + 1, 2) : Sp) :: sp, .str (ofL (L₁ ++ [10])) :: lns, L', dp', b0 ++ b', a0 ++ a', j', L₁, .tup [.int p.1, .str p.2.1, .int prev.1, .str prev.2.1, .bool true, .bool (strIn prev.2.1 "([{,;"), .tup [.int (1 + ((lines.length + 1 : Nat) : Int)), .int ((2 : Nat) : Int)]] :: cs, k', kd', wd', wt', wy', fm', last', d', ?_, ?_⟩
        · rw [eloop_step (p := p) (i := j + 1) pk pkd pwd pwt body, hrun]
          refine fin_eq ?_ (List.append_assoc lines _ _) (List.append_assoc before _ _) (List.append_assoc after _ _) rfl
          simp only [List.append_assoc, List.map_append, List.map_cons, List.cons_append, List.nil_append]
        have hsn := FN.spn
        have hln := FN.ln
        have hbl := FN.bl
        have hal := FN.al
        have hjl := FN.jl
        have hLf' : ∀ Lf : List AV, Lf = lines ++ (AV.str (ofL (L₁ ++ [10])) :: lns) ++ [AV.str (ofL (L' ++ [10]))] → Lf = (lines ++ [AV.str (ofL (L₁ ++ [10]))]) ++ lns ++ [AV.str (ofL (L' ++ [10]))] := fun Lf h => by rw [h]; simp
        have e2 : (lines ++ [AV.str (ofL (L₁ ++ [10]))]).length + lns.length = lines.length + (AV.str (ofL (L₁ ++ [10])) :: lns).length := by rw [hll]; simp only [List.length_cons]; omega
        have hFPw := FP.what
        have hFQw := FQ.what
        refine ⟨FN.safe', FN.len', rfl, hL₁s, by omega, by simp only [List.length_append, List.length_cons]; omega, by simp only [List.length_cons]; omega, by rw [List.length_append]; simp only [List.length_cons]; omega, by rw [List.length_append]; simp only [List.length_cons]; omega, by simp only [List.length_cons]; omega, ?_, ?_, ?_, FN.mj, ?_, ?_, ?_, ?_⟩
        · intro q hq
          simp only [List.length_cons]
          rcases List.mem_append.mp hq with hq | hq
          · rw [hsc] at hq
            have := mem_ite hq
            subst this
            exact ⟨by show lines.length < _; omega, by show ("# \\" : Str).length ≤ 10; decide +kernel⟩
          rcases List.mem_cons.mp hq with rfl | hq
          · exact ⟨by show lines.length < _; omega, by show ("\n" : Str).length ≤ 10; decide +kernel⟩
          rcases List.mem_cons.mp hq with rfl | hq
          · exact ⟨by show lines.length + 1 < _; omega, by show p.2.1.length ≤ 10; omega⟩
          · have := FN.spok q hq
            rw [hll] at this
            exact ⟨by omega, this.2⟩
        · intro x hx
          rcases List.mem_append.mp hx with hx | hx
          · rw [hb0] at hx
            rw [mem_ite hx]
            exact mkMsg_msg strOk3
          · exact FN.mb x hx
        · intro x hx
          rcases List.mem_append.mp hx with hx | hx
          · rw [ha0] at hx
            rw [mem_ite hx]
            exact ⟨_, _, _, rfl, strOk4⟩
          · exact FN.ma x hx
        · intro items Lf hLf
          have hE := FN.E items Lf (hLf' Lf hLf)
          rw [e2, hll] at hE
          have hg : Lf.getD (lines.length + 1) .none = .str (ofL (C ++ [10])) := by
            rw [hLf' Lf hLf, List.append_assoc, ← hll]; exact getD_head FN.head
          have hg0 : Lf.getD lines.length .none = .str (ofL (L₁ ++ [10])) := by
            rw [hLf, List.append_assoc]; exact getD_head rfl
          have hne : (1 + ((lines.length + 1 : Nat) : Int) != 1 + (lines.length : Int)) = true := by simp only [bne_iff_ne]; omega
          cases com
          · have hs0 : sc = [] := hsc
            have hL0 : L₁ = L := hL₁
            rw [hs0, List.nil_append, List.cons_append, List.cons_append, List.map_cons, List.map_cons]
            refine E_sameC hg0 (par' := dp) (com' := false) rfl rfl ?_
            refine E_newC hg FN.safeC' (by have := FN.lenC; omega) FP.k61 hne (.inl ?_) (FP.par dp) ?_ hE
            · rw [hL0]; exact bsOf_no hLl
            · rw [hL0, bsOf_no hLl]
              cases (dp != 0) <;> rfl
          · have hs0 : sc = ([(61, "# \\", lines.length, L.length + 2)] : List Sp) := hsc
            have hL0 : L₁ = L ++ [32, 32, 35, 32, 92] := hL₁
            rw [hs0, List.cons_append, List.nil_append, List.cons_append, List.cons_append, List.cons_append, List.map_cons, List.map_cons, List.map_cons]
            refine E_sameC hg0 (par' := dp) (com' := true) rfl rfl ?_
            refine E_sameC hg0 (par' := dp) (com' := true) rfl rfl ?_
            refine E_newC hg FN.safeC' (by have := FN.lenC; omega) FP.k61 hne (.inr ⟨_, _, bsOf_yes (by rw [hL0]; simp)⟩) (FP.par dp) ?_ hE
            · rw [Bool.not_true, Bool.and_false]; rfl
        · intro items Lf hLf
          have hB := FN.B items Lf (hLf' Lf hLf)
          rw [e2] at hB
          have hB' := B_pieceC (lines := Lf) (brk := true) (un := strIn prev.2.1 "([{,;") (pt := .int prev.1) (px := .str prev.2.1) (n := lines.length + 1) (st := 2) FP.k61 FP.nl FP.cr hB
          have hB2 := B_nlC (brk := false) (lines := Lf) (ty := 62) (tx := "\n") (n := lines.length) (st := L₁.length) rfl hnn rfl hB'
          cases com
          · have hs0 : sc = [] := hsc
            rw [hs0, List.nil_append, List.cons_append, List.cons_append, List.map_cons, List.map_cons]
            exact hB2
          · have hs0 : sc = ([(61, "# \\", lines.length, L.length + 2)] : List Sp) := hsc
            rw [hs0, List.cons_append, List.nil_append, List.cons_append, List.cons_append, List.cons_append, List.map_cons, List.map_cons, List.map_cons]
            exact B_comC rfl hB2
        · intro items
          have h := C_ctx (un := strIn prev.2.1 "([{,;") (brk := true) (sta := .tup [.int (1 + ((lines.length + 1 : Nat) : Int)), .int ((2 : Nat) : Int)]) hbi hbp (FN.C items)
          have hw := w503 prev.2.2 hFQw p.2.2 hFPw hadj hfs
          rw [FQ.un] at h ⊢
          rw [Bool.and_true, hw] at h
          have i1 : (lines.length : Int) + 1 + 1 = 1 + ((lines.length + 1 : Nat) : Int) := by omega
          rw [hb0, i1]
          exact h
        · intro items
          have hA := FN.A items
          rw [Int.add_comm] at hA
          have h := A_ctx (pst := .tup [.int c1, .int c2]) (un := strIn prev.2.1 "([{,;") (brk := true) (sta := .tup [.int (1 + ((lines.length + 1 : Nat) : Int)), .int ((2 : Nat) : Int)]) hbi hbp hA
          have hw := w504 prev.2.2 hFQw p.2.2 hFPw hadj hfs
          rw [FQ.un] at h ⊢
          rw [Bool.and_true, hw] at h
          rw [ha0]
          exact h
      · -- a backslash
        have hw1' : (lawNext xs d 5).1 = 1 := by simpa using hw1
        have body := body_bs (xs := xs) (spans := spans) (lines := lines) (before := before) (after := after) (joins := joins) (ps := ps) (L := L) (dp := dp) (last := .tup [.int c1, .int c2]) (p := p) (prev := prev) (j := j) (d := d) pwy pfm hp (by omega) hfs hw1' hl5 (by omega) (by omega) (by omega) hlp
        have hj1 : (if dp > 0 then joins ++ [mkMsg (lines.length + 1) (L.length + 1) msgE] else joins).length ≤ joins.length + 1 := by split <;> simp
        obtain ⟨sp, lns, L', dp', b', a', j', C, cs, k', kd', wd', wt', wy', fm', last', d', hrun, FN⟩ := ih (j + 1) p (spans ++ [spAV (p.1, p.2.1, lines.length + 1, 2)]) (lines ++ [.str (ofL (L ++ [32, 92] ++ [10]))]) ([32, 32] ++ p.2.1.cps.toList) (stepDp dp p) before after (if dp > 0 then joins ++ [mkMsg (lines.length + 1) (L.length + 1) msgE] else joins)
          (.v (.int ((j + 1 : Nat) : Int))) (.v (.int p.1)) (.v (.str p.2.1)) (.v (.str p.2.2)) (.v (.int 1)) (.v (.str prev.2.2)) (((lines.length + 1 : Nat) : Int) + 1) 2 (lawNext xs d 5).2 hpi hdrop' hokp hch' hdp'
          (safe_app (safe_lit (by decide)) FP.safe) (last_app FP.last) (by simp only [List.length_append, List.length_cons, List.length_nil]; omega) (by simp only [List.length_append, List.length_singleton]; omega) (by simp only [List.length_append, List.length_singleton]; omega) (by omega) (by omega) (by omega) rfl rfl rfl rfl rfl rfl
        have hll : (lines ++ [AV.str (ofL (L ++ [32, 92] ++ [10]))]).length = lines.length + 1 := by simp
        refine ⟨(p.1, p.2.1, lines.length + 1, 2) :: sp, .str (ofL (L ++ [32, 92] ++ [10])) :: lns, L', dp', b', a', (if dp > 0 then [mkMsg (lines.length + 1) (L.length + 1) msgE] else []) ++ j', L ++ [32, 92], .tup [.int p.1, .str p.2.1, .int prev.1, .str prev.2.1, .bool false, .bool (strIn prev.2.1 "([{,;"), .tup [.int (1 + ((lines.length + 1 : Nat) : Int)), .int ((2 : Nat) : Int)]] :: cs, k', kd', wd', wt', wy', fm', last', d', ?_, ?_⟩
        · rw [eloop_step (p := p) (i := j + 1) pk pkd pwd pwt body, hrun]
          refine fin_eq (List.append_assoc spans _ _) (List.append_assoc lines _ _) rfl rfl ?_
          rw [ite_app, List.append_assoc]
        have hsn := FN.spn
        have hln := FN.ln
        have hbl := FN.bl
        have hal := FN.al
        have hjl := FN.jl
        have hLf' : ∀ Lf : List AV, Lf = lines ++ (AV.str (ofL (L ++ [32, 92] ++ [10])) :: lns) ++ [AV.str (ofL (L' ++ [10]))] → Lf = (lines ++ [AV.str (ofL (L ++ [32, 92] ++ [10]))]) ++ lns ++ [AV.str (ofL (L' ++ [10]))] := fun Lf h => by rw [h]; simp
        refine ⟨FN.safe', FN.len', rfl, safe_app hL (safe_lit (by decide)), by simp only [List.length_append, List.length_cons, List.length_nil]; omega, by simp only [List.length_cons]; omega, by simp only [List.length_cons]; omega, by simp only [List.length_cons]; omega, by simp only [List.length_cons]; omega, ?_, ?_, FN.mb, FN.ma, ?_, ?_, ?_, ?_, ?_⟩
        · simp only [List.length_append, List.length_cons]
          split
          · simp only [List.length_singleton]; omega
          · simp only [List.length_nil]; omega
        · intro q hq
          simp only [List.length_cons]
          rcases List.mem_cons.mp hq with rfl | hq
          · exact ⟨by show lines.length + 1 < _; omega, by show p.2.1.length ≤ 10; omega⟩
          · have := FN.spok q hq
            rw [hll] at this
            exact ⟨by omega, this.2⟩
        · intro x hx
          rcases List.mem_append.mp hx with hx | hx
          · split at hx
            · have : x = mkMsg (lines.length + 1) (L.length + 1) msgE := by simpa using hx
              exact ⟨_, _, _, this, strOkE⟩
            · cases hx
          · exact FN.mj x hx
        · intro items Lf hLf
          have hE := FN.E items Lf (hLf' Lf hLf)
          rw [hll] at hE
          have hg : Lf.getD (lines.length + 1) .none = .str (ofL (C ++ [10])) := by
            rw [hLf' Lf hLf, List.append_assoc, ← hll]; exact getD_head FN.head
          rw [List.cons_append, List.map_cons]
          have hbs : bsOf (1 + (lines.length : Int)) (L ++ [32, 92]) = .tup [.int (1 + (lines.length : Int)), .int (((L ++ [32, 92]).length : Int) - 1)] := by
            unfold bsOf
            have : ((L ++ [32, 92]).getLast? == some 92) = true := by simp
            rw [if_pos this]
          have e2 : lines.length + 1 + lns.length = lines.length + (AV.str (ofL (L ++ [32, 92] ++ [10])) :: lns).length := by simp only [List.length_cons]; omega
          rw [e2] at hE
          refine E_newC hg FN.safeC' (by have := FN.lenC; omega) FP.k61 ?_ (.inr ⟨_, _, hbs⟩) (FP.par dp) ?_ hE
          · simp only [bne_iff_ne]; omega
          · rw [hbs]
            by_cases hd : dp > 0
            · have hd2 : (dp != 0) = true := by simp only [bne_iff_ne]; omega
              have ht : (AV.truth (.tup [.int (1 + (lines.length : Int)), .int (((L ++ [32, 92]).length : Int) - 1)]) == some true) = true := by rfl
              rw [if_pos hd, hd2, ht]
              have i1 : (lines.length : Int) + 1 = 1 + (lines.length : Int) := by omega
              have i2 : (L.length : Int) + 1 = ((L ++ [32, 92]).length : Int) - 1 := by simp only [List.length_append, List.length_cons, List.length_nil]; omega
              rw [i1, i2]
              rfl
            · have hd2 : (dp != 0) = false := by
                have : dp = 0 := by omega
                rw [this]; rfl
              rw [if_neg hd, hd2]
              rfl
        · intro items Lf hLf
          have hB := FN.B items Lf (hLf' Lf hLf)
          have e2 : (lines ++ [AV.str (ofL (L ++ [32, 92] ++ [10]))]).length + lns.length = lines.length + (AV.str (ofL (L ++ [32, 92] ++ [10])) :: lns).length := by rw [hll]; simp only [List.length_cons]; omega
          rw [e2] at hB
          rw [List.cons_append, List.map_cons]
          exact B_pieceC FP.k61 FP.nl FP.cr hB
        · intro items
          have := C_ctx (un := strIn prev.2.1 "([{,;") (brk := false) (sta := .tup [.int (1 + ((lines.length + 1 : Nat) : Int)), .int ((2 : Nat) : Int)]) hbi hbp (FN.C items)
          simpa using this
        · intro items
          have hA := FN.A items
          rw [Int.add_comm] at hA
          have := A_ctx (pst := .tup [.int c1, .int c2]) (un := strIn prev.2.1 "([{,;") (brk := false) (sta := .tup [.int (1 + ((lines.length + 1 : Nat) : Int)), .int ((2 : Nat) : Int)]) hbi hbp hA
          simpa using this
end Mine

namespace Mine
open PySem

theorem tail1_run {xs : List Int} {spans lines before after joins ps : List AV} {line : Str} {dp : Int} {k kd wd wt wy fm la : Slot} {d : Dr} (h1 : lines.length ≤ 1000000) (h2 : line.length ≤ 1000000) (h3 : spans.length ≤ 1000000) :
    tail1.ex (cfL xs) 40 ⟨L18 spans lines line dp before after joins ps k kd wd wt wy fm la, d⟩ = some (.next, ⟨L18 (spans ++ [.tup [.int 4, .str "\n", .int lines.length, .int line.length]]) lines line dp before after joins ps k kd wd wt wy fm la, d⟩) := by
  simp [tail1, tailL, S.ex, E.ev, EL.ev, L18, locL, locV, cfL, St.setL, h1, h2, h3]
theorem tail2_run {xs : List Int} {spans lines before after joins ps : List AV} {line : Str} {dp : Int} {k kd wd wt wy fm la : Slot} {d : Dr} (h1 : lines.length ≤ 100000) (h2 : line.length ≤ 100000) :
    tail2.ex (cfL xs) 40 ⟨L18 spans lines line dp before after joins ps k kd wd wt wy fm la, d⟩ = some (.next, ⟨L18 spans (lines ++ [.str (line ++ "\n")]) line dp before after joins ps k kd wd wt wy fm la, d⟩) := by
  have e : ("\n" : Str).length = 1 := by decide +kernel
  have h3 : lines.length ≤ 1000000 := by omega
  have h4 : lines.length + 1 ≤ 1000000 := by omega
  have h5 : line.length + 1 ≤ 1000000 := by omega
  have h6 : line.length ≤ 999999 := by omega
  simp [tail2, tailL, S.ex, E.ev, EL.ev, L18, locL, locV, cfL, St.setL, AV.bin, e, h3, h4, h5, h6]

theorem hsg : (("sign" : Str) != ("sign" : Str)) = false := by decide +kernel

theorem body_first {xs : List Int} {ps : List AV} {wy fm la : Slot} {d : Dr} {p : Pc} (hw : wy.plain = true) (hf : fm.plain = true) (hla : la.plain = true) (hl4 : p.2.1.length ≤ 4) :
    bodyL.ex (cfL xs) 40 ⟨L18 [] [] (ofL []) 0 [] [] [] ps (.v (.int 0)) (.v (.int p.1)) (.v (.str p.2.1)) (.v (.str p.2.2)) wy fm la, d⟩ =
    some (.next, ⟨L18 [spAV (p.1, p.2.1, 0, 0)] [] (ofL p.2.1.cps.toList) (stepDp 0 p) [] [] [] ps (.v (.int 0)) (.v (.int p.1)) (.v (.str p.2.1)) (.v (.str p.2.2))
      (.v (.int (lawNext xs d 5).1)) (.v (.str "sign")) (.v (.tup [.int (((0 : Nat) : Int) + 1), .int ((0 : Nat) : Int)])), (lawNext xs d 5).2⟩) := by
  have e0 : (ofL []).length = 0 := by decide
  rw [bodyL_eq]
  simp only [SL.ex]
  rw [bL0_zero (n := 38) hw hf]
  simp only
  rw [bL1_stay (n := 22) (by rw [hsg]; rfl) (by decide) (by rw [e0]; decide), if_neg (by decide)]
  simp only
  rw [bL2 (n := 36) (by decide) (by rw [e0]; decide) hla]
  simp only
  rw [bL3 (n := 35) (by decide) (by rw [e0]; decide) (by decide)]
  simp only
  rw [bL4 (n := 34) (by rw [e0]; omega), ofL_app]
  simp only
  rw [bL5 (n := 33)]
  simp only [e0]
  rfl

theorem isb_none : isBin .none .none = some false := by decide +kernel

theorem eloop_first {xs : List Int} {ps ds : List AV} {d : Dr} {p : Pc} {fl : Fl} {σ₁ : St}
    (hbody : bodyL.ex (cfL xs) 40 ⟨L18 [] [] (ofL []) 0 [] [] [] ps (.v (.int 0)) (.v (.int p.1)) (.v (.str p.2.1)) (.v (.str p.2.2)) .u .u .u, d⟩ = some (fl, σ₁)) :
    eloop (cfL xs) 10 tgK bodyL 40 0 (pav p :: ds) ⟨L18 [] [] (ofL []) 0 [] [] [] ps .u .u .u .u .u .u .u, d⟩ = eloop (cfL xs) 10 tgK bodyL 40 1 ds σ₁ :=
  eloop_step (i := 0) rfl rfl rfl rfl hbody

theorem genRun_of {cf : Cfg} {head : SL} {tg : Tg} {body : GL} {items outs : List AV} {σ σ₁ fin : St} (h1 : head.ex cf 20 σ = some (.next, σ₁)) (h2 : gloop cf tg body 20 items σ₁ = some (fin, outs)) : genRun cf head tg body items σ = some outs := by
  unfold genRun
  rw [h1]
  simp only
  rw [h2]

theorem runE_of {items outs : List AV} (h : ERun items 0 0 false .none items outs) : runE items = some outs := by
  obtain ⟨fin, h⟩ := h .u .u .u .u .u rfl rfl rfl rfl rfl
  exact genRun_of (σ₁ := ⟨E12 items 0 0 0 false .none .u .u .u .u .u, (0, 0)⟩) (by rfl) h
theorem runB_of {items outs : List AV} (h : BRun items false true .none .none items outs) : runB items = some outs := by
  obtain ⟨fin, h⟩ := h .u .u .u .u .u rfl rfl rfl rfl rfl
  exact genRun_of (σ₁ := ⟨B10 items false true .none .none .u .u .u .u .u, (0, 0)⟩) (by rfl) h
theorem runC_of {items ys outs : List AV} (h : CRun items ys outs) : runC items ys = some outs := by
  obtain ⟨fin, h⟩ := h .u .u .u .u .u .u .u .u rfl rfl rfl rfl rfl rfl rfl rfl
  exact genRun_of (σ₁ := ⟨C10 items .u .u .u .u .u .u .u .u, (0, 0)⟩) (by rfl) h
theorem runA_of {items ys outs : List AV} (h : ARun items .none ys outs) : runA items ys = some outs := by
  obtain ⟨fin, h⟩ := h .u .u .u .u .u .u .u .u rfl rfl rfl rfl rfl rfl rfl rfl
  exact genRun_of (σ₁ := ⟨A11 items .none .u .u .u .u .u .u .u .u, (0, 0)⟩) (by rfl) h

theorem law_all {xs : List Int} {p : Pc} {r : List Pc} {d₁ : Dr} (hrun : piecesRun xs (0, 17) = some ((p :: r).map pav, d₁)) (hok : okPc p = true) (hdp0 : 0 ≤ stepDp 0 p) (hch : Chain p.2.2 (stepDp 0 p) r) (hr : r.length ≤ 200) : LawHolds xs := by
  have FP := okPc_facts hok
  have hlp := FP.len
  have hlw : p.2.1.cps.toList.length ≤ 4 := by rw [len_toList]; exact hlp
  obtain ⟨ps, hps⟩ : ∃ ps, ps = (p :: r).map pav := ⟨_, rfl⟩
  have hpl : ps.length ≤ 1000 := by rw [hps, List.length_map, List.length_cons]; omega
  have hp0 : ps[0]? = some (pav p) := by rw [hps]; rfl
  have hpd : ps.drop (0 + 1) = r.map pav := by rw [hps]; rfl
  have body := body_first (xs := xs) (ps := ps) (wy := .u) (fm := .u) (la := .u) (d := d₁) (p := p) rfl rfl rfl hlp
  obtain ⟨sp, lns, L', dp', b', a', j', C, cs, k', kd', wd', wt', wy', fm', last', d', hl, FN⟩ := law_run (xs := xs) (ps := ps) hpl r 0 p [spAV (p.1, p.2.1, 0, 0)] [] p.2.1.cps.toList (stepDp 0 p) [] [] []
    (.v (.int 0)) (.v (.int p.1)) (.v (.str p.2.1)) (.v (.str p.2.2)) (.v (.int (lawNext xs d₁ 5).1)) (.v (.str "sign")) (((0 : Nat) : Int) + 1) ((0 : Nat) : Int) (lawNext xs d₁ 5).2 hp0 hpd hok hch hdp0 FP.safe FP.last (by omega) (by simp only [List.length_singleton]; omega) (by simp only [List.length_nil]; omega) (by simp only [List.length_nil]; omega) (by simp only [List.length_nil]; omega) (by simp only [List.length_nil]; omega) rfl rfl rfl rfl rfl rfl
  simp only [List.nil_append] at hl
  have hsn := FN.spn
  have hln := FN.ln
  have hbl := FN.bl
  have hal := FN.al
  have hjl := FN.jl
  have hll := FN.len'
  obtain ⟨Lf, hLf⟩ : ∃ Lf : List AV, Lf = lns ++ [AV.str (ofL (L' ++ [10]))] := ⟨_, rfl⟩
  obtain ⟨sps, hsps⟩ : ∃ sps : List Sp, sps = ((p.1, p.2.1, 0, 0) : Sp) :: (sp ++ [nlTok (([] : List AV).length + lns.length) L'.length]) := ⟨_, rfl⟩
  have hspan : [spAV (p.1, p.2.1, 0, 0)] ++ sp.map spAV ++ [.tup [.int 4, .str "\n", .int lns.length, .int (ofL L').length]] = sps.map spAV := by
    rw [hsps, strlen_ofL, List.map_cons, List.map_append]
    simp only [List.length_nil, Nat.zero_add]
    rfl
  have hlfl : Lf.length = lns.length + 1 := by rw [hLf]; simp
  have htok := T_run (lines := Lf) (by omega) sps .u .u .u .u rfl rfl rfl rfl (fun q hq => by
    rw [hsps] at hq
    rcases List.mem_cons.mp hq with rfl | hq
    · exact ⟨by show 0 < _; omega, by show p.2.1.length ≤ _; omega⟩
    rcases List.mem_append.mp hq with hq | hq
    · have := FN.spok q hq
      simp only [List.length_nil] at this
      exact ⟨by omega, by omega⟩
    · rw [List.mem_singleton.mp hq]
      exact ⟨by show ([] : List AV).length + lns.length < _; simp only [List.length_nil]; omega, by show ("\n" : Str).length ≤ 1000000; decide +kernel⟩)
  have hmap : sps.map (tokAV Lf) = tokAV Lf (p.1, p.2.1, 0, 0) :: (sp ++ [nlTok (([] : List AV).length + lns.length) L'.length]).map (tokAV Lf) := by rw [hsps]; rfl
  have hg : Lf.getD 0 .none = .str (ofL (C ++ [10])) := by
    have := FN.head
    rw [← hLf] at this
    cases Lf with
    | nil => cases this
    | cons y r => cases this; rfl
  have hLf2 : Lf = [] ++ lns ++ [AV.str (ofL (L' ++ [10]))] := hLf
  have hE : runE (sps.map (tokAV Lf)) = some j' := by
    refine runE_of ?_
    generalize hit : sps.map (tokAV Lf) = items
    have h0 := FN.E items Lf hLf2
    rw [hmap] at hit
    rw [← hit] at h0 ⊢
    exact E_newC hg FN.safeC' (by have := FN.lenC; omega) FP.k61 (by decide) (.inl rfl) (FP.par 0) rfl h0
  have hB : runB (sps.map (tokAV Lf)) = some (.tup [.int p.1, .str p.2.1, .none, .none, .bool false, .bool true, .tup [.int (1 + ((0 : Nat) : Int)), .int ((0 : Nat) : Int)]] :: cs) := by
    refine runB_of ?_
    generalize hit : sps.map (tokAV Lf) = items
    have h0 := FN.B items Lf hLf2
    rw [hmap] at hit
    rw [← hit] at h0 ⊢
    exact B_pieceC FP.k61 FP.nl FP.cr h0
  have hC : runC (sps.map (tokAV Lf)) (.tup [.int p.1, .str p.2.1, .none, .none, .bool false, .bool true, .tup [.int (1 + ((0 : Nat) : Int)), .int ((0 : Nat) : Int)]] :: cs) = some b' := by
    refine runC_of ?_
    have h0 := C_ctx (un := true) (brk := false) (sta := .tup [.int (1 + ((0 : Nat) : Int)), .int ((0 : Nat) : Int)]) FP.bin isb_none (FN.C (sps.map (tokAV Lf)))
    simpa using h0
  have hA : runA (sps.map (tokAV Lf)) (.tup [.int p.1, .str p.2.1, .none, .none, .bool false, .bool true, .tup [.int (1 + ((0 : Nat) : Int)), .int ((0 : Nat) : Int)]] :: cs) = some a' := by
    refine runA_of ?_
    have h1 := FN.A (sps.map (tokAV Lf))
    rw [Int.add_comm] at h1
    have h0 := A_ctx (pst := .none) (un := true) (brk := false) (sta := .tup [.int (1 + ((0 : Nat) : Int)), .int ((0 : Nat) : Int)]) FP.bin isb_none h1
    simpa using h0
  have hsl : ([spAV (p.1, p.2.1, 0, 0)] ++ sp.map spAV).length ≤ 1000 := by simp only [List.length_append, List.length_singleton, List.length_map]; omega
  have hll2 : (ofL L').length ≤ 5100 := by rw [strlen_ofL]; exact hll
  have ht1 := tail1_run (xs := xs) (spans := [spAV (p.1, p.2.1, 0, 0)] ++ sp.map spAV) (lines := lns) (line := ofL L') (dp := dp') (before := b') (after := a') (joins := j') (ps := ps) (k := k') (kd := kd') (wd := wd') (wt := wt') (wy := wy') (fm := fm') (la := last') (d := d') (by omega) (by omega) (by omega)
  rw [hspan] at ht1
  have ht2 := tail2_run (xs := xs) (spans := sps.map spAV) (lines := lns) (line := ofL L') (dp := dp') (before := b') (after := a') (joins := j') (ps := ps) (k := k') (kd := kd') (wd := wd') (wt := wt') (wy := wy') (fm := fm') (la := last') (d := d') (by omega) (by omega)
  have enl : ofL L' ++ ("\n" : Str) = ofL (L' ++ [10]) := by rw [ofL_app]; rfl
  rw [enl, ← hLf] at ht2
  have hel : eloop (cfL xs) 10 tgK bodyL 40 0 ps ⟨locL2.set 9 (.l ps), d₁⟩ = some ⟨L18 ([spAV (p.1, p.2.1, 0, 0)] ++ sp.map spAV) lns (ofL L') dp' b' a' j' ps k' kd' wd' wt' wy' fm' last', d'⟩ := by
    have h0 := eloop_first (ds := r.map pav) body
    rw [Nat.zero_add] at hl
    rw [hl] at h0
    have e1 : pav p :: r.map pav = ps := by rw [hps]; rfl
    rw [e1] at h0
    exact h0
  refine ⟨ps, d₁, _, _, _, _, _, _, _, _, _, _, by rw [hrun, hps], by omega, hel, ht1, ht2, rfl, rfl, rfl, rfl, rfl, rfl, htok, hE, hB, hC, hA, FN.mj, FN.mb, FN.ma, ?_, by omega, by omega, by omega⟩
  rw [hsps, List.length_map, List.length_cons, List.length_append, List.length_singleton]
  omega
end Mine

namespace Mine
open PySem

def endF : Str → List Pc → Str
  | f, [] => f
  | _, p :: r => endF p.2.2 r
def endD : Int → List Pc → Int
  | d, [] => d
  | d, p :: r => endD (stepDp d p) r
theorem endF_snoc {p : Pc} : ∀ (r : List Pc) (f : Str), endF f (r ++ [p]) = p.2.2
  | [], _ => rfl
  | _ :: r, _ => endF_snoc r _
theorem endD_snoc {p : Pc} : ∀ (r : List Pc) (d : Int), endD d (r ++ [p]) = stepDp (endD d r) p
  | [], _ => rfl
  | _ :: r, _ => endD_snoc r _
theorem chain_snoc {p : Pc} (hok : okPc p = true) : ∀ (r : List Pc) (f : Str) (d : Int), Chain f d r → adj (endF f r) p.2.2 = true → (p.2.2 = "close" → endD d r > 0) → Chain f d (r ++ [p])
  | [], _, _, _, h1, h2 => ⟨hok, h1, h2, trivial⟩
  | _ :: r, _, _, h, h1, h2 => ⟨h.1, h.2.1, h.2.2.1, chain_snoc hok r _ _ h.2.2.2 h1 h2⟩

def closers : List Nat := [41, 93, 125]
structure Gd (r : List Pc) (es : List Nat) (f : Str) : Prop where
  ch : Chain "operand" 0 r
  ef : endF "operand" r = f
  ed : endD 0 r = (es.length : Int)
  ce : ∀ c ∈ es, c ∈ closers
  le : es.length ≤ 2

theorem Gd.open' {r : List Pc} {es : List Nat} {f : Str} {p : Pc} {c : Nat} (g : Gd r es f) (hok : okPc p = true) (h1 : p.2.2 = "open") (ha : adj f "open" = true) (hc : c ∈ closers) (hl : es.length < 2) : Gd (r ++ [p]) (c :: es) "open" := by
  refine ⟨chain_snoc hok r _ _ g.ch (by rw [g.ef, h1]; exact ha) (fun h => by rw [h1] at h; exact absurd h (by decide +kernel)), by rw [endF_snoc, h1], ?_, ?_, by simp only [List.length_cons]; omega⟩
  · rw [endD_snoc, g.ed, stepDp, h1]
    have e1 : b01 (("open" : Str) == ("open" : Str)) = 1 := by decide +kernel
    have e2 : b01 (("open" : Str) == ("close" : Str)) = 0 := by decide +kernel
    rw [e1, e2]
    simp only [List.length_cons]
    omega
  · intro x hx
    rcases List.mem_cons.mp hx with rfl | hx
    · exact hc
    · exact g.ce x hx
theorem Gd.close' {r : List Pc} {es : List Nat} {f : Str} {p : Pc} {c : Nat} (g : Gd r (c :: es) f) (hok : okPc p = true) (h1 : p.2.2 = "close") (ha : adj f "close" = true) : Gd (r ++ [p]) es "close" := by
  have hl := g.le
  have hed := g.ed
  simp only [List.length_cons] at hl hed
  refine ⟨chain_snoc hok r _ _ g.ch (by rw [g.ef, h1]; exact ha) (fun _ => by rw [hed]; omega), by rw [endF_snoc, h1], ?_, fun x hx => g.ce x (.tail _ hx), by omega⟩
  rw [endD_snoc, hed, stepDp, h1]
  have e1 : b01 (("close" : Str) == ("open" : Str)) = 0 := by decide +kernel
  have e2 : b01 (("close" : Str) == ("close" : Str)) = 1 := by decide +kernel
  rw [e1, e2]
  omega
theorem Gd.other {r : List Pc} {es : List Nat} {f t : Str} {p : Pc} (g : Gd r es f) (hok : okPc p = true) (h1 : p.2.2 = t) (ha : adj f t = true) (ho : (t == ("open" : Str)) = false) (hc : (t == ("close" : Str)) = false) : Gd (r ++ [p]) es t := by
  refine ⟨chain_snoc hok r _ _ g.ch (by rw [g.ef, h1]; exact ha) (fun h => by rw [h1] at h; rw [h] at hc; exact absurd hc (by decide +kernel)), by rw [endF_snoc, h1], ?_, g.ce, g.le⟩
  rw [endD_snoc, g.ed, stepDp, h1, ho, hc]
  simp [b01]

def P7 (pcs : List AV) (es : List Nat) (us k w wh : Slot) : List Slot := [.s, .l pcs, .v (.str (ofL es)), us, k, w, wh]

def S.wt : S → T
  | .whl t _ _ => t
  | _ => .and .nil default
def S.wb : S → SL
  | .whl _ b _ => b
  | _ => .nil
def S.wp : S → Pos
  | .whl _ _ p => p
  | _ => default
theorem bodyP_eq : bodyP = .cons (bodyP.nth 0) (.cons (bodyP.nth 1) (.cons (bodyP.nth 2) (.cons (bodyP.nth 3) (.cons (bodyP.nth 4) (.cons (bodyP.nth 5) (.cons (bodyP.nth 6) .nil)))))) := by rfl
theorem bodyP0 : bodyP.nth 0 = .whl (bodyP.nth 0).wt (bodyP.nth 0).wb (bodyP.nth 0).wp := by rfl
theorem bodyP3 : bodyP.nth 3 = .whl (bodyP.nth 3).wt (bodyP.nth 3).wb (bodyP.nth 3).wp := by rfl

theorem plain_v {x : AV} : (Slot.v x).plain = true := rfl
theorem three {i : Int} (h : 0 ≤ i ∧ i < 3) : i = 0 ∨ i = 1 ∨ i = 2 := by omega

section
variable {xs : List Int} {pcs : List AV} {es : List Nat} {us k w wh : Slot} {d : Dr} {n : Nat}

theorem P0_test (hl : es.length ≤ 2) : (bodyP.nth 0).wt.ev (cfP xs) (P7 pcs es us k w wh) d = if es.length < 2 then some ((lawNext xs d 3).1 == 0, (lawNext xs d 3).2) else some (false, d) := by
  have h1 : (ofL es).length = es.length := strlen_ofL es
  by_cases h : es.length < 2
  · have h2 : decide ((es.length : Int) < 2) = true := by simp; omega
    have h3 : es.length ≤ 1000000 := by omega
    rw [if_pos h]
    simp [bodyP, SL.nth, S.wt, T.ev, TL.all, E.isIte, E.ev, AV.truth, P7, locV, cfP, AV.cmp, h1, h2, h3]
    cases hb : (lawNext xs d 3).1 == 0 <;> simp_all
  · have h2 : decide ((es.length : Int) < 2) = false := by simp; omega
    have h3 : es.length ≤ 1000000 := by omega
    rw [if_neg h]
    simp [bodyP, SL.nth, S.wt, T.ev, TL.all, E.isIte, E.ev, AV.truth, P7, locV, cfP, AV.cmp, h1, h2, h3]

theorem P0_body (hk : k.plain = true) (hl : es.length < 2) (hp : pcs.length ≤ 1000) : ∃ q c d' k', okPc q = true ∧ q.2.2 = "open" ∧ c ∈ closers ∧ k'.plain = true ∧
    (bodyP.nth 0).wb.ex (cfP xs) (n + 3) ⟨P7 pcs es us k w wh, d⟩ = some (.next, ⟨P7 (pcs ++ [pav q]) (c :: es) us k' w wh, d'⟩) := by
  have h1 : pcs.length ≤ 1000000 := by omega
  have hcat : ∀ c : Nat, (⟨#[c]⟩ : Str) ++ ofL es = ofL (c :: es) := fun c => by
    show Str.mk _ = Str.mk _
    congr 1
    show #[c] ++ es.toArray = _
    simp
  have hl1 : ∀ c : Nat, (⟨#[c]⟩ : Str).length = 1 := fun _ => rfl
  have hle : (ofL es).length = es.length := strlen_ofL es
  have hb : 1 + es.length ≤ 1000000 := by omega
  rcases three (lawNext_pos (xs := xs) (d := d) (m := 3) (by decide)) with h | h | h
  · have e1 : AV.item (.str ("([{" : Str)) 0 = some (.str ⟨#[40]⟩) := by rfl
    have e2 : AV.item (.str (")]}" : Str)) 0 = some (.str ⟨#[41]⟩) := by rfl
    refine ⟨(54, ⟨#[40]⟩, "open"), 41, (lawNext xs d 3).2, .v (.int 0), by decide +kernel, rfl, by decide, rfl, ?_⟩
    simp [bodyP, SL.nth, S.wb, SL.ex, S.ex, E.ev, EL.ev, P7, locV, locL, cfP, canV, St.setV, St.setL, AV.bin, h, e1, e2, hk, hcat, h1, hl1, hle, hb, pav, plain_v]
  · have e1 : AV.item (.str ("([{" : Str)) 1 = some (.str ⟨#[91]⟩) := by rfl
    have e2 : AV.item (.str (")]}" : Str)) 1 = some (.str ⟨#[93]⟩) := by rfl
    refine ⟨(54, ⟨#[91]⟩, "open"), 93, (lawNext xs d 3).2, .v (.int 1), by decide +kernel, rfl, by decide, rfl, ?_⟩
    simp [bodyP, SL.nth, S.wb, SL.ex, S.ex, E.ev, EL.ev, P7, locV, locL, cfP, canV, St.setV, St.setL, AV.bin, h, e1, e2, hk, hcat, h1, hl1, hle, hb, pav, plain_v]
  · have e1 : AV.item (.str ("([{" : Str)) 2 = some (.str ⟨#[123]⟩) := by rfl
    have e2 : AV.item (.str (")]}" : Str)) 2 = some (.str ⟨#[125]⟩) := by rfl
    refine ⟨(54, ⟨#[123]⟩, "open"), 125, (lawNext xs d 3).2, .v (.int 2), by decide +kernel, rfl, by decide, rfl, ?_⟩
    simp [bodyP, SL.nth, S.wb, SL.ex, S.ex, E.ev, EL.ev, P7, locV, locL, cfP, canV, St.setV, St.setL, AV.bin, h, e1, e2, hk, hcat, h1, hl1, hle, hb, pav, plain_v]

def preO : List Str := ["plain", "comma", "operator", "open"]
def pre3 : List Str := ["plain", "comma", "operator"]
theorem adj_open : ∀ f ∈ preO, adj f "open" = true := by decide +kernel
theorem mem_open : ("open" : Str) ∈ preO := by decide +kernel

theorem P0_loop {p0 : Pc} : ∀ (m fu : Nat) (r : List Pc) (es : List Nat) (f : Str) (k : Slot) (d : Dr), 2 - es.length ≤ m → Gd r es f → f ∈ preO → k.plain = true → r.length + m ≤ 900 →
    ∃ r' es' f' k' d', wloop ((bodyP.nth 0).wt.ev (cfP xs)) ((bodyP.nth 0).wb.ex (cfP xs) 38) (fu + m + 1) ⟨P7 ((p0 :: r).map pav) es us k w wh, d⟩ = some ⟨P7 ((p0 :: r').map pav) es' us k' w wh, d'⟩ ∧ Gd r' es' f' ∧ f' ∈ preO ∧ k'.plain = true ∧ r'.length ≤ r.length + m := by
  intro m
  induction m with
  | zero =>
    intro fu r es f k d hm g hf hk hr
    refine ⟨r, es, f, k, d, ?_, g, hf, hk, by omega⟩
    show (match (bodyP.nth 0).wt.ev (cfP xs) (P7 ((p0 :: r).map pav) es us k w wh) d with | some (false, d) => _ | some (true, d) => _ | none => _) = _
    rw [P0_test g.le, if_neg (by omega)]
  | succ m ih =>
    intro fu r es f k d hm g hf hk hr
    by_cases hl : es.length < 2
    · cases hb : ((lawNext xs d 3).1 == 0)
      · refine ⟨r, es, f, k, (lawNext xs d 3).2, ?_, g, hf, hk, by omega⟩
        show (match (bodyP.nth 0).wt.ev (cfP xs) (P7 ((p0 :: r).map pav) es us k w wh) d with | some (false, d) => _ | some (true, d) => _ | none => _) = _
        rw [P0_test g.le, if_pos hl, hb]
      · obtain ⟨q, c, d', k', hq, hqo, hc, hk', hx⟩ := P0_body (xs := xs) (pcs := (p0 :: r).map pav) (es := es) (us := us) (k := k) (w := w) (wh := wh) (d := (lawNext xs d 3).2) (n := 35) hk hl (by simp only [List.length_map, List.length_cons]; omega)
        have g' := g.open' hq hqo (adj_open f hf) hc hl
        obtain ⟨r', es', f', k'', d'', h1, h2, h3, h4, h5⟩ := ih fu (r ++ [q]) (c :: es) "open" k' d' (by simp only [List.length_cons]; omega) g' mem_open hk' (by simp only [List.length_append, List.length_singleton]; omega)
        refine ⟨r', es', f', k'', d'', ?_, h2, h3, h4, by simp only [List.length_append, List.length_singleton] at h5; omega⟩
        show (match (bodyP.nth 0).wt.ev (cfP xs) (P7 ((p0 :: r).map pav) es us k w wh) d with | some (false, d) => _ | some (true, d) => _ | none => _) = _
        rw [P0_test g.le, if_pos hl, hb]
        simp only
        rw [hx]
        simp only
        have e : (p0 :: r).map pav ++ [pav q] = (p0 :: (r ++ [q])).map pav := by simp
        rw [e]
        exact h1
    · refine ⟨r, es, f, k, d, ?_, g, hf, hk, by omega⟩
      show (match (bodyP.nth 0).wt.ev (cfP xs) (P7 ((p0 :: r).map pav) es us k w wh) d with | some (false, d) => _ | some (true, d) => _ | none => _) = _
      rw [P0_test g.le, if_neg hl]

theorem P3_test (hl : es.length ≤ 2) : (bodyP.nth 3).wt.ev (cfP xs) (P7 pcs es us k w wh) d = if es ≠ [] then some ((lawNext xs d 3).1 == 0, (lawNext xs d 3).2) else some (false, d) := by
  cases es with
  | nil =>
    have h2 : (ofL [] != ("" : Str)) = false := by decide +kernel
    simp [bodyP, SL.nth, S.wt, T.ev, TL.all, E.isIte, E.ev, AV.truth, P7, locV, cfP, AV.cmp, h2]
  | cons c es =>
    have h2 : (ofL (c :: es) != ("" : Str)) = true := by
      have : ofL (c :: es) ≠ ("" : Str) := by
        intro h
        have := congrArg Str.length h
        rw [strlen_ofL] at this
        exact absurd this (by rw [show ("" : Str).length = 0 by decide]; simp)
      simp [this]
    simp [bodyP, SL.nth, S.wt, T.ev, TL.all, E.isIte, E.ev, AV.truth, P7, locV, cfP, AV.cmp, h2]
    cases hb : (lawNext xs d 3).1 == 0 <;> simp_all

theorem tail_ofL {c : Nat} (hl : es.length < 2) : Txt.slice (ofL (c :: es)) (some 1) none = ofL es := by
  match es, hl with
  | [], _ => rfl
  | [b], _ =>
    have h : Builtin.Str.strSliceIndices (some 1) none 1 2 = [1] := by decide +kernel
    have h2 : (ofL [c, b]).length = 2 := rfl
    unfold Txt.slice
    rw [h2, h]
    rfl
theorem item_ofL {c : Nat} (hl : es.length < 2) : AV.item (.str (ofL (c :: es))) 0 = some (.str ⟨#[c]⟩) := by
  have h1 : (ofL (c :: es)).length = es.length + 1 := by rw [strlen_ofL]; rfl
  have h2 : es.length + 1 ≤ 1000000 := by omega
  have h3 : place 0 (es.length + 1) = some 0 := by
    unfold place
    rw [if_pos (by decide), if_pos (by omega)]
    rfl
  simp only [AV.item, h1, h2, if_true, h3]
  rfl

theorem P3_body {c : Nat} (hl : es.length < 2) (hp : pcs.length ≤ 1000) :
    (bodyP.nth 3).wb.ex (cfP xs) (n + 3) ⟨P7 pcs (c :: es) us k w wh, d⟩ = some (.next, ⟨P7 (pcs ++ [pav (54, ⟨#[c]⟩, "close")]) es us k w wh, d⟩) := by
  have h1 : pcs.length ≤ 1000000 := by omega
  have h2 : (ofL (c :: es)).length = es.length + 1 := by rw [strlen_ofL]; rfl
  have h3 : es.length + 1 ≤ 1000000 := by omega
  have e1 := item_ofL (c := c) hl
  have e2 := tail_ofL (es := es) (c := c) hl
  simp [bodyP, SL.nth, S.wb, SL.ex, S.ex, E.ev, EL.ev, P7, locV, locL, cfP, canV, St.setV, St.setL, AV.bin, e1, e2, h1, h2, h3, pav, plain_v]

def pre4 : List Str := ["operand", "close"]
theorem adj_close : ∀ f ∈ pre4, adj f "close" = true := by decide +kernel
theorem mem_close : ("close" : Str) ∈ pre4 := by decide +kernel
theorem ok_close : ∀ c ∈ closers, okPc (54, ⟨#[c]⟩, "close") = true := by decide +kernel

def clP (c : Nat) : Pc := (54, ⟨#[c]⟩, "close")
theorem wl_stop {t : List Slot → Dr → Option (Bool × Dr)} {b : St → Option (Fl × St)} {n : Nat} {l : List Slot} {d d' : Dr} (h : t l d = some (false, d')) : wloop t b (n + 1) ⟨l, d⟩ = some ⟨l, d'⟩ := by
  simp only [wloop, h]
theorem wl_go {t : List Slot → Dr → Option (Bool × Dr)} {b : St → Option (Fl × St)} {n : Nat} {l : List Slot} {d d' : Dr} {fl : Fl} {σ' : St} (h : t l d = some (true, d')) (h2 : b ⟨l, d'⟩ = some (fl, σ')) : wloop t b (n + 1) ⟨l, d⟩ = wloop t b n σ' := by
  simp only [wloop, h, h2]

theorem P3_loop {p0 : Pc} : ∀ (m fu : Nat) (r : List Pc) (es : List Nat) (f : Str) (d : Dr), es.length ≤ m → Gd r es f → f ∈ pre4 → r.length + m ≤ 900 →
    ∃ r' es' f' d', wloop ((bodyP.nth 3).wt.ev (cfP xs)) ((bodyP.nth 3).wb.ex (cfP xs) 35) (fu + m + 1) ⟨P7 ((p0 :: r).map pav) es us k w wh, d⟩ = some ⟨P7 ((p0 :: r').map pav) es' us k w wh, d'⟩ ∧ Gd r' es' f' ∧ f' ∈ pre4 ∧ r'.length ≤ r.length + m := by
  intro m
  induction m with
  | zero =>
    intro fu r es f d hm g hf hr
    have he : es = [] := List.length_eq_zero_iff.mp (by omega)
    exact ⟨r, es, f, d, wl_stop (by rw [P3_test g.le, if_neg (by rw [he]; decide)]), g, hf, by omega⟩
  | succ m ih =>
    intro fu r es f d hm g hf hr
    cases es with
    | nil => exact ⟨r, [], f, d, wl_stop (by rw [P3_test g.le, if_neg (by decide)]), g, hf, by omega⟩
    | cons c es =>
      have hl : es.length < 2 := by have := g.le; simp only [List.length_cons] at this; omega
      cases hb : ((lawNext xs d 3).1 == 0)
      · exact ⟨r, c :: es, f, (lawNext xs d 3).2, wl_stop (by rw [P3_test g.le, if_pos (List.cons_ne_nil _ _), hb]), g, hf, by omega⟩
      · have hx := P3_body (xs := xs) (pcs := (p0 :: r).map pav) (es := es) (us := us) (k := k) (w := w) (wh := wh) (d := (lawNext xs d 3).2) (n := 32) (c := c) hl (by simp only [List.length_map, List.length_cons]; omega)
        have e : (p0 :: r).map pav ++ [pav (54, ⟨#[c]⟩, "close")] = (p0 :: (r ++ [clP c])).map pav := by simp [clP]
        rw [e] at hx
        have g' := g.close' (p := clP c) (ok_close c (g.ce c (.head _))) rfl (adj_close f hf)
        obtain ⟨r', es', f', d'', h1, h2, h3, h5⟩ := ih fu (r ++ [clP c]) es "close" (lawNext xs d 3).2 (by simp only [List.length_cons] at hm; omega) g' mem_close (by simp only [List.length_append, List.length_singleton]; omega)
        refine ⟨r', es', f', d'', ?_, h2, h3, by simp only [List.length_append, List.length_singleton] at h5; omega⟩
        exact (wl_go (by rw [P3_test g.le, if_pos (List.cons_ne_nil _ _), hb]) hx).trans h1

theorem two {i : Int} (h : 0 ≤ i ∧ i < 2) : i = 0 ∨ i = 1 := by omega
def preS : List Str := ["plain", "comma", "operator", "open", "sign"]
theorem last_of {p0 : Pc} : ∀ (r : List Pc) (f : Str), p0.2.2 = f → ∃ q : Pc, ((p0 :: r).map pav)[r.length]? = some (pav q) ∧ q.2.2 = endF f r
  | [], f, h => ⟨p0, rfl, h⟩
  | p :: r, f, _ => by
    obtain ⟨q, h1, h2⟩ := last_of (p0 := p) r _ rfl
    exact ⟨q, h1, h2⟩

def S.ae : S → E
  | .asg _ _ e _ => e
  | .app _ _ _ e _ _ => e
  | _ => .non 0 default
def sgM : Pc := (54, "-", "sign")
def sgP : Pc := (54, "+", "sign")
theorem P1_run {q : Pc} {m : Nat} (hq : pcs[m]? = some (pav q)) (hm : pcs.length = m + 1) (hl : m ≤ 900) : ∃ (d' : Dr) (qs : List Pc), (bodyP.nth 1).ex (cfP xs) (n + 4) ⟨P7 pcs es us k w wh, d⟩ = some (.next, ⟨P7 (pcs ++ qs.map pav) es us k w wh, d'⟩) ∧
    (qs = [] ∨ (∃ s, qs = [s] ∧ (s = sgM ∨ s = sgP) ∧ (["open", "comma", "operator"] : List Str).any (· == q.2.2) = true)) := by
  have h1 : place (-1) (m + 1) = some m := by
    unfold place
    rw [if_neg (by decide), if_pos (by omega)]
    congr 1
    omega
  have h2 : m + 1 ≤ 1000000 := by omega
  have h3 : m ≤ 999999 := by omega
  have h4 : place 2 3 = some 2 := by decide
  have hlt : m < pcs.length := by omega
  have hq' : pcs[m] = .tup [.int q.1, .str q.2.1, .str q.2.2] := by
    have := List.getElem?_eq_getElem hlt
    rw [hq] at this
    exact (Option.some.inj this).symm
  have p20 : place 0 2 = some 0 := by decide
  have p21 : place 1 2 = some 1 := by decide
  cases hany : (["open", "comma", "operator"] : List Str).any (· == q.2.2)
  · refine ⟨d, [], ?_, .inl rfl⟩
    simp only [List.any_cons, List.any_nil, Bool.or_false] at hany
    simp [bodyP, SL.nth, S.ex, SL.ex, T.ev, TL.all, E.isIte, E.ev, EL.ev, AV.truth, P7, locV, locL, cfP, AV.cmp, AV.item, strs?, h1, h2, h3, h4, hq', hlt, hm, pav, hany]
  · simp only [List.any_cons, List.any_nil, Bool.or_false] at hany
    cases hb : ((lawNext xs d 4).1 == 0)
    · refine ⟨(lawNext xs d 4).2, [], ?_, .inl rfl⟩
      simp [bodyP, SL.nth, S.ex, SL.ex, T.ev, TL.all, E.isIte, E.ev, EL.ev, AV.truth, P7, locV, locL, cfP, AV.cmp, AV.item, strs?, h1, h2, h3, h4, hq', hlt, hm, pav, hany, hb]
    · rcases two (lawNext_pos (xs := xs) (d := (lawNext xs d 4).2) (m := 2) (by decide)) with h | h
      · refine ⟨(lawNext xs (lawNext xs d 4).2 2).2, [sgM], ?_, .inr ⟨sgM, rfl, .inl rfl, by simpa using hany⟩⟩
        simp [bodyP, SL.nth, S.ex, SL.ex, T.ev, TL.all, E.isIte, E.ev, EL.ev, AV.truth, P7, locV, locL, cfP, AV.cmp, AV.item, strs?, h1, h2, h3, h4, hq', hlt, hm, pav, hany, hb, h, p20, St.setL, sgM]
      · refine ⟨(lawNext xs (lawNext xs d 4).2 2).2, [sgP], ?_, .inr ⟨sgP, rfl, .inr rfl, by simpa using hany⟩⟩
        simp [bodyP, SL.nth, S.ex, SL.ex, T.ev, TL.all, E.isIte, E.ev, EL.ev, AV.truth, P7, locV, locL, cfP, AV.cmp, AV.item, strs?, h1, h2, h3, h4, hq', hlt, hm, pav, hany, hb, h, p21, St.setL, sgP]

def oper : List Pc := [(1, "ab", "operand"), (2, "10", "operand"), (3, "'it'", "operand")]
theorem P2_run (hl : pcs.length ≤ 1000) : ∃ (d' : Dr) (q : Pc), q ∈ oper ∧ (bodyP.nth 2).ex (cfP xs) (n + 1) ⟨P7 pcs es us k w wh, d⟩ = some (.next, ⟨P7 (pcs ++ [pav q]) es us k w wh, d'⟩) := by
  have h2 : pcs.length ≤ 1000000 := by omega
  have p0 : place 0 3 = some 0 := by decide
  have p1 : place 1 3 = some 1 := by decide
  have p2 : place 2 3 = some 2 := by decide
  rcases three (lawNext_pos (xs := xs) (d := d) (m := 3) (by decide)) with h | h | h
  · refine ⟨(lawNext xs d 3).2, (1, "ab", "operand"), by simp [oper], ?_⟩
    simp [bodyP, SL.nth, S.ex, E.ev, EL.ev, P7, locV, locL, cfP, h2, h, p0, p1, p2, pav, St.setL]
  · refine ⟨(lawNext xs d 3).2, (2, "10", "operand"), by simp [oper], ?_⟩
    simp [bodyP, SL.nth, S.ex, E.ev, EL.ev, P7, locV, locL, cfP, h2, h, p0, p1, p2, pav, St.setL]
  · refine ⟨(lawNext xs d 3).2, (3, "'it'", "operand"), by simp [oper], ?_⟩
    simp [bodyP, SL.nth, S.ex, E.ev, EL.ev, P7, locV, locL, cfP, h2, h, p0, p1, p2, pav, St.setL]

def wordsP : List Pc := [(54, "+", "operator"), (54, ",", "comma"), (1, "and", "operator"), (54, "%", "plain"), (54, "==", "operator"), (1, "or", "operator"), (54, ".", "plain"), (54, "//", "operator"), (54, ",", "comma"), (1, "in", "plain")]
theorem ten {i : Int} (h : 0 ≤ i ∧ i < 10) : ∃ j : Nat, j < 10 ∧ i = (j : Int) := ⟨i.toNat, by omega, by omega⟩
theorem P4_run (hw : w.plain = true) : ∃ (d' : Dr) (q : Pc), q ∈ wordsP ∧ (bodyP.nth 4).ex (cfP xs) (n + 1) ⟨P7 pcs es us k w wh, d⟩ = some (.next, ⟨P7 pcs es us k (.v (.str q.2.1)) wh, d'⟩) := by
  obtain ⟨j, hj, h⟩ := ten (lawNext_pos (xs := xs) (d := d) (m := 10) (by decide))
  have hp : place (j : Int) 10 = some j := by
    unfold place
    rw [if_pos (by omega), if_pos (by omega)]
    simp
  have hx : wordsP[j]? = some (wordsP[j]'(by simpa [wordsP] using hj)) := by simp
  refine ⟨(lawNext xs d 10).2, wordsP[j]'(by simpa [wordsP] using hj), List.getElem_mem _, ?_⟩
  have hg : (wordsP.map fun q => AV.str q.2.1)[j]? = some (.str (wordsP[j]'(by simpa [wordsP] using hj)).2.1) := by rw [List.getElem?_map, hx]; rfl
  simp only [wordsP, List.map_cons, List.map_nil] at hg
  simp [bodyP, SL.nth, S.ex, E.ev, EL.ev, P7, locV, locL, cfP, canV, h, hp, hg, hw, St.setV, wordsP]
theorem P56_run {q : Pc} (hq : q ∈ wordsP) (hw : wh.plain = true) (hl : pcs.length ≤ 1000) : (bodyP.nth 5).ex (cfP xs) (n + 2) ⟨P7 pcs es us k (.v (.str q.2.1)) wh, d⟩ = some (.next, ⟨P7 pcs es us k (.v (.str q.2.1)) (.v (.str q.2.2)), d⟩) ∧
    (bodyP.nth 6).ex (cfP xs) (n + 1) ⟨P7 pcs es us k (.v (.str q.2.1)) (.v (.str q.2.2)), d⟩ = some (.next, ⟨P7 (pcs ++ [pav q]) es us k (.v (.str q.2.1)) (.v (.str q.2.2)), d⟩) := by
  have h2 : pcs.length ≤ 1000000 := by omega
  have e5 : (bodyP.nth 5).ae.ev (cfP xs) (P7 pcs es us k (.v (.str q.2.1)) wh) d = some (.str q.2.2, d) := by
    simp only [wordsP, List.mem_cons, List.not_mem_nil, or_false] at hq
    rcases hq with rfl | rfl | rfl | rfl | rfl | rfl | rfl | rfl | rfl | rfl <;> rfl
  have e6 : (bodyP.nth 6).ae.ev (cfP xs) (P7 pcs es us k (.v (.str q.2.1)) (.v (.str q.2.2))) d = some (pav q, d) := by
    simp only [wordsP, List.mem_cons, List.not_mem_nil, or_false] at hq
    rcases hq with rfl | rfl | rfl | rfl | rfl | rfl | rfl | rfl | rfl | rfl <;> rfl
  obtain ⟨x1, x2, h5⟩ : ∃ x1 x2, bodyP.nth 5 = .asg 6 x1 (bodyP.nth 5).ae x2 := ⟨_, _, rfl⟩
  obtain ⟨y1, y2, y3, y4, h6, hy⟩ : ∃ y1 y2 y3 y4, bodyP.nth 6 = .app 1 y1 y2 (bodyP.nth 6).ae y3 y4 ∧ y2.endLine = y3.line := ⟨_, _, _, _, rfl, by rfl⟩
  constructor
  · rw [h5]
    simp only [S.ex]
    rw [e5]
    simp [P7, canV, cfP, hw, St.setV]
  · rw [h6]
    simp only [S.ex]
    have hl1 : locL (P7 pcs es us k (.v (.str q.2.1)) (.v (.str q.2.2))) 1 = some pcs := rfl
    rw [hl1, e6]
    simp [P7, cfP, hy, h2, St.setL]

theorem adj_oper : ∀ f ∈ preS, adj f "operand" = true := by decide +kernel
theorem adj_word : ∀ f ∈ pre4, ∀ q ∈ wordsP, adj f q.2.2 = true := by decide +kernel
theorem ok_oper : ∀ q ∈ oper, okPc q = true ∧ q.2.2 = "operand" := by decide +kernel
theorem ok_word : ∀ q ∈ wordsP, okPc q = true ∧ (q.2.2 == ("open" : Str)) = false ∧ (q.2.2 == ("close" : Str)) = false ∧ q.2.2 ∈ pre3 := by decide +kernel
theorem pre3O : ∀ f ∈ pre3, f ∈ preO := by decide +kernel
theorem preOS : ∀ f ∈ preO, f ∈ preS := by decide +kernel
theorem ok_sg : okPc sgM = true ∧ okPc sgP = true := by decide +kernel
theorem adj_sg : ∀ f ∈ preO, (["open", "comma", "operator"] : List Str).any (· == f) = true → adj f "sign" = true := by decide +kernel
theorem mem_sg : ("sign" : Str) ∈ preS := by decide +kernel
theorem mem_opd : ("operand" : Str) ∈ pre4 := by decide +kernel
theorem neq_so : (("sign" : Str) == ("open" : Str)) = false ∧ (("sign" : Str) == ("close" : Str)) = false ∧ (("operand" : Str) == ("open" : Str)) = false ∧ (("operand" : Str) == ("close" : Str)) = false := by decide +kernel
theorem mapA {p0 q : Pc} {r : List Pc} : (p0 :: r).map pav ++ [pav q] = (p0 :: (r ++ [q])).map pav := by simp
theorem whl_ex {cf : Cfg} {n : Nat} {t : T} {b : SL} {p : Pos} {σ σ' : St} (h : wloop (t.ev cf) (b.ex cf n) n σ = some σ') : (S.whl t b p).ex cf (n + 1) σ = some (.next, σ') := by
  simp only [S.ex, h]; rfl

theorem P_body {p0 : Pc} (hp0 : p0.2.2 = "operand") {r : List Pc} {es : List Nat} {f : Str} {us k w wh : Slot} {d : Dr} (g : Gd r es f) (hf : f ∈ pre3) (hk : k.plain = true) (hw : w.plain = true) (hwh : wh.plain = true) (hr : r.length ≤ 800) :
    ∃ r' es' f' k' w' wh' d', bodyP.ex (cfP xs) 40 ⟨P7 ((p0 :: r).map pav) es us k w wh, d⟩ = some (.next, ⟨P7 ((p0 :: r').map pav) es' us k' w' wh', d'⟩) ∧ Gd r' es' f' ∧ f' ∈ pre3 ∧ k'.plain = true ∧ w'.plain = true ∧ wh'.plain = true ∧ r'.length ≤ r.length + 7 := by
  obtain ⟨r1, es1, f1, k1, d1, h1, g1, hf1, hk1, hl1⟩ := P0_loop (xs := xs) (us := us) (w := w) (wh := wh) (p0 := p0) 2 35 r es f k d (by omega) g (pre3O f hf) hk (by omega)
  obtain ⟨q1, hq1, hq1f⟩ := last_of (p0 := p0) r1 "operand" hp0
  rw [g1.ef] at hq1f
  obtain ⟨d2, qs, h2, hqs⟩ := P1_run (xs := xs) (n := 34) (es := es1) (us := us) (k := k1) (w := w) (wh := wh) (d := d1) hq1 (by simp) (by omega)
  obtain ⟨r2, f2, e2, g2, hf2, hl2⟩ : ∃ r2 f2, (p0 :: r1).map pav ++ qs.map pav = (p0 :: r2).map pav ∧ Gd r2 es1 f2 ∧ f2 ∈ preS ∧ r2.length ≤ r1.length + 1 := by
    rcases hqs with rfl | ⟨s, rfl, hs, ha⟩
    · exact ⟨r1, f1, by simp, g1, preOS f1 hf1, by omega⟩
    · rw [hq1f] at ha
      have hos : okPc s = true ∧ s.2.2 = "sign" := by
        rcases hs with rfl | rfl
        · exact ⟨ok_sg.1, rfl⟩
        · exact ⟨ok_sg.2, rfl⟩
      exact ⟨r1 ++ [s], "sign", mapA, g1.other hos.1 hos.2 (adj_sg f1 hf1 ha) neq_so.1 neq_so.2.1, mem_sg, by simp⟩
  rw [e2] at h2
  obtain ⟨d3, q3, hq3, h3⟩ := P2_run (xs := xs) (n := 36) (pcs := (p0 :: r2).map pav) (es := es1) (us := us) (k := k1) (w := w) (wh := wh) (d := d2) (by simp only [List.length_map, List.length_cons]; omega)
  rw [mapA] at h3
  have g3 := g2.other (ok_oper q3 hq3).1 (ok_oper q3 hq3).2 (adj_oper f2 hf2) neq_so.2.2.1 neq_so.2.2.2
  obtain ⟨r4, es4, f4, d4, h4, g4, hf4, hl4⟩ := P3_loop (xs := xs) (us := us) (k := k1) (w := w) (wh := wh) (p0 := p0) 2 32 (r2 ++ [q3]) es1 "operand" d3 g3.le g3 mem_opd (by simp only [List.length_append, List.length_singleton]; omega)
  obtain ⟨d5, q5, hq5, h5⟩ := P4_run (xs := xs) (n := 34) (pcs := (p0 :: r4).map pav) (es := es4) (us := us) (k := k1) (w := w) (wh := wh) (d := d4) hw
  have hr4 : r4.length ≤ r.length + 6 := by simp only [List.length_append, List.length_singleton] at hl4; omega
  have hp4 : ((p0 :: r4).map pav).length ≤ 1000 := by simp only [List.length_map, List.length_cons]; omega
  have h6 := (P56_run (xs := xs) (n := 32) (pcs := (p0 :: r4).map pav) (es := es4) (us := us) (k := k1) (wh := wh) (d := d5) hq5 hwh hp4).1
  have h7 := (P56_run (xs := xs) (n := 32) (pcs := (p0 :: r4).map pav) (es := es4) (us := us) (k := k1) (wh := wh) (d := d5) hq5 hwh hp4).2
  rw [mapA] at h7
  obtain ⟨k5, n5o, n5c, m5⟩ := ok_word q5 hq5
  refine ⟨r4 ++ [q5], es4, q5.2.2, k1, .v (.str q5.2.1), .v (.str q5.2.2), d5, ?_, g4.other k5 rfl (adj_word f4 hf4 q5 hq5) n5o n5c, m5, hk1, rfl, rfl, by simp only [List.length_append, List.length_singleton]; omega⟩
  rw [bodyP_eq]
  simp only [SL.ex]
  rw [bodyP0, whl_ex h1]
  simp only
  rw [h2]
  simp only
  rw [h3]
  simp only
  rw [bodyP3, whl_ex h4]
  simp only
  rw [h5]
  simp only
  rw [h6]
  simp only
  rw [h7]
end
end Mine

namespace Mine
open PySem

theorem rl_run {xs : List Int} {p0 : Pc} (hp0 : p0.2.2 = "operand") : ∀ (is : List Int) (r : List Pc) (es : List Nat) (f : Str) (us k w wh : Slot) (d : Dr), Gd r es f → f ∈ pre3 → us.plain = true → k.plain = true → w.plain = true → wh.plain = true → r.length + 7 * is.length ≤ 700 →
    ∃ r' es' f' us' k' w' wh' d', rloop (cfP xs) 3 bodyP 40 is ⟨P7 ((p0 :: r).map pav) es us k w wh, d⟩ = some ⟨P7 ((p0 :: r').map pav) es' us' k' w' wh', d'⟩ ∧ Gd r' es' f' ∧ f' ∈ pre3 ∧ r'.length ≤ r.length + 7 * is.length := by
  intro is
  induction is with
  | nil =>
    intro r es f us k w wh d g hf hu hk hw hwh hl
    exact ⟨r, es, f, us, k, w, wh, d, rfl, g, hf, by omega⟩
  | cons i is ih =>
    intro r es f us k w wh d g hf hu hk hw hwh hl
    simp only [List.length_cons] at hl
    obtain ⟨r1, es1, f1, k1, w1, wh1, d1, h1, g1, hf1, hk1, hw1, hwh1, hl1⟩ := P_body (xs := xs) hp0 (us := .v (.int i)) (d := d) g hf hk hw hwh (by omega)
    obtain ⟨r', es', f', us', k', w', wh', d', h2, g2, hf2, hl2⟩ := ih r1 es1 f1 (.v (.int i)) k1 w1 wh1 d1 g1 hf1 rfl hk1 hw1 hwh1 (by omega)
    refine ⟨r', es', f', us', k', w', wh', d', ?_, g2, hf2, by simp only [List.length_cons]; omega⟩
    have hc : canV (cfP xs) (P7 ((p0 :: r).map pav) es us k w wh) 3 = true := by simp [canV, cfP, P7, hu]
    have hs : (P7 ((p0 :: r).map pav) es us k w wh).set 3 (.v (.int i)) = P7 ((p0 :: r).map pav) es (.v (.int i)) k w wh := rfl
    simp only [rloop]
    rw [if_pos hc, hs, h1]
    exact h2

theorem R_run {qs : List AV} : ∀ (es : List Nat) (a : Slot), a.plain = true → crun cfR (.one 0 ⟨92, 68, 92, 71⟩) eltR (0, 0) (strItems (ofL es)) [a] = some (es.map fun c => pav (clP c))
  | [], _, _ => rfl
  | c :: es, a, ha => by
    have h : strItems (ofL (c :: es)) = .str ⟨#[c]⟩ :: strItems (ofL es) := rfl
    have hb : (Tg.one 0 ⟨92, 68, 92, 71⟩).bind cfR [a] (.str ⟨#[c]⟩) = some [.v (.str ⟨#[c]⟩)] := by simp [Tg.bind, canV, cfR, ha]
    have he : eltR.ev cfR [.v (.str ⟨#[c]⟩)] (0, 0) = some (pav (clP c), (0, 0)) := by rfl
    rw [h]
    simp only [crun]
    rw [hb]
    simp only
    rw [he]
    simp only
    rw [R_run (qs := qs) es _ rfl]
    rfl

theorem Gd_closes : ∀ (es : List Nat) (r : List Pc) (f : Str), Gd r es f → f ∈ pre4 → Chain "operand" 0 (r ++ es.map clP)
  | [], r, _, g, _ => by rw [List.map_nil, List.append_nil]; exact g.ch
  | c :: es, r, f, g, hf => by
    have g' := g.close' (p := clP c) (ok_close c (g.ce c (.head _))) rfl (adj_close f hf)
    have := Gd_closes es (r ++ [clP c]) "close" g' mem_close
    rw [List.append_assoc] at this
    exact this

def pX : Pc := (1, "x", "operand")
def pEq : Pc := (54, "=", "plain")
def pE : Pc := (1, "e", "operand")
theorem ok_three : okPc pX = true ∧ okPc pEq = true ∧ okPc pE = true := by decide +kernel
theorem adj_pe : ∀ f ∈ pre3, adj f "operand" = true := by decide +kernel
theorem adj_eq : adj "operand" "plain" = true := by decide +kernel
theorem plain3 : ("plain" : Str) ∈ pre3 := by decide +kernel
theorem nplain : (("plain" : Str) == ("open" : Str)) = false ∧ (("plain" : Str) == ("close" : Str)) = false := by decide +kernel
theorem Gd0 : Gd [] [] "operand" := ⟨trivial, rfl, rfl, (fun _ h => nomatch h), by decide⟩

theorem pieces_run (xs : List Int) (d : Dr) : ∃ (r : List Pc) (d' : Dr), piecesRun xs d = some ((pX :: r).map pav, d') ∧ Chain "operand" 0 r ∧ r.length ≤ 200 := by
  have g1 : Gd [pEq] [] "plain" := Gd0.other (p := pEq) ok_three.2.1 rfl adj_eq nplain.1 nplain.2
  have h6 := lawNext_pos (xs := xs) (d := d) (m := 6) (by decide)
  obtain ⟨j, hj, hn⟩ : ∃ j : Nat, j ≤ 6 ∧ 1 + (lawNext xs d 6).1 = (j : Int) := ⟨(1 + (lawNext xs d 6).1).toNat, by omega, by omega⟩
  obtain ⟨r', es', f', us', k', w', wh', d', h2, g2, hf2, hl2⟩ := rl_run (xs := xs) (p0 := pX) rfl ((List.range j).map fun i : Nat => (i : Int)) [pEq] [] "plain" .u .u .u .u (lawNext xs d 6).2 g1 plain3 rfl rfl rfl rfl (by simp only [List.length_map, List.length_range, List.length_singleton]; omega)
  simp only [List.length_map, List.length_range, List.length_singleton] at hl2
  have g3 := g2.other (p := pE) ok_three.2.2 rfl (adj_pe f' hf2) neq_so.2.2.1 neq_so.2.2.2
  have hch := Gd_closes es' _ _ g3 mem_opd
  refine ⟨r' ++ [pE] ++ es'.map clP, d', ?_, hch, ?_⟩
  · have e1 : esP.ev (cfP xs) locP0 d = some ([pav pX, pav pEq], d) := by rfl
    have e2 : rngP.ev (cfP xs) ((locP0.set 2 (.v (.str ""))).set 1 (.l [pav pX, pav pEq])) d = some (.int j, (lawNext xs d 6).2) := by
      have : rngP.ev (cfP xs) ((locP0.set 2 (.v (.str ""))).set 1 (.l [pav pX, pav pEq])) d = some (.int (1 + (lawNext xs d 6).1), (lawNext xs d 6).2) := by rfl
      rw [this, hn]
    have e3 : (locP0.set 2 (.v (.str ""))).set 1 (.l [pav pX, pav pEq]) = P7 ((pX :: [pEq]).map pav) [] .u .u .u .u := by rfl
    have e4 : locL (P7 ((pX :: r').map pav) es' us' k' w' wh') 1 = some ((pX :: r').map pav) := rfl
    have e5 : locV (P7 ((pX :: r').map pav) es' us' k' w' wh') 2 = some (.str (ofL es')) := rfl
    have e6 : esR.ev (cfP xs) (P7 ((pX :: r').map pav) es' us' k' w' wh') d' = some ([pav pE], d') := by rfl
    have e7 := R_run (qs := []) es' .u rfl
    unfold piecesRun
    rw [e1]
    simp only
    rw [e2]
    simp only [Int.toNat_natCast]
    rw [e3, h2]
    simp only
    rw [e4, e5]
    simp only
    rw [e6]
    simp only
    rw [e7]
    simp [Function.comp_def]
  · have := g2.le
    simp only [List.length_append, List.length_singleton, List.length_map]
    omega

theorem lawHolds (xs : List Int) : LawHolds xs := by
  obtain ⟨r, d', h1, h2, h3⟩ := pieces_run xs (0, 17)
  have e : stepDp 0 pX = 0 := by decide +kernel
  exact law_all h1 ok_three.1 (by rw [e]; decide) (by rw [e]; exact h2) h3
end Mine

namespace Mine
open PySem PySem.W PySem.Calls PyProof.Rows PySem.Spec

section
variable {prog : Program} {w : World} {hb : Heap} {mg mb : Str → Option Value}

def lwF (prog : Program) (w : World) (env : Env) (hb : Heap) (t : DrI) (c : Addr) : FC := { prog := prog, w := w, env := env, hb := hb, nm := nmL, st := some t, cell := some (3, c) }

structure LwEnv (env : Env) (L : Addr) : Prop where
  kind : ∀ n, env.kindOf n = (defOf "law").2.2.names.lookup n
  fn : env.scope.kind = .function
  g : env.globals = mainGlobals
  b : env.builtins = builtinsNs
  l : env.locals = L
  c : env.cells = [(("lines" : Str), L + 1)]

theorem nmL_loc : ((List.range 18).all fun x => x == 3 || ((defOf "law").2.2.names.lookup (nmAt nmL x) == some NameKind.local)) = true := by decide +kernel

theorem lwF_ok {env : Env} {t : DrI} {L : Addr} (e : LwEnv env L) (hL : hb.get? L = none) (hc : hb.get? (L + 1) = none) (hlim : hb.NoLimit) (h1 : t.a ≠ L) (h2 : t.b ≠ L) (h3 : t.a ≠ t.b) (h4 : L + 1 ≠ t.a) (h5 : L + 1 ≠ t.b) (hta : hb.get? t.a = none) :
    (lwF prog w env hb t (L + 1)).Ok where
  kind := e.fn
  glob := e.g
  blt := e.b
  len := by show nmL.Nodup; decide +kernel
  loc := fun x y ex hx => by
    have h3 := hx 3 (L + 1) rfl
    have hlt : x < 18 := (List.getElem?_eq_some_iff.mp ex).1
    have := List.all_eq_true.mp nmL_loc x (List.mem_range.mpr hlt)
    have ey : nmAt nmL x = y := nmAt_of ex
    rw [ey] at this
    show env.kindOf y = _
    rw [e.kind]
    simpa [h3] using this
  cell := fun x c ex => by
    cases ex
    refine ⟨"lines", by rfl, ?_, ?_⟩
    · show env.kindOf ("lines" : Str) = _
      rw [e.kind]; decide +kernel
    · show env.cells.lookup ("lines" : Str) = _
      rw [e.c]; rfl
  dbg := fun n hn => by
    have : (nmL.all fun x => !(x == ("__debug__" : Str))) = true := by decide +kernel
    simpa using List.all_eq_true.mp this n hn
  notL := fun x c ex => by
    cases ex
    show L + 1 ≠ env.locals
    rw [e.l]
    exact Nat.succ_ne_self L
  stL := fun t' et => by
    cases et
    refine ⟨by show t.a ≠ env.locals; rw [e.l]; exact h1, by show t.b ≠ env.locals; rw [e.l]; exact h2, h3, fun x c ex => by cases ex; exact ⟨h4, h5⟩⟩
  fresh := ⟨by show hb.get? env.locals = none; rw [e.l]; exact hL, fun x c ex => by cases ex; exact hc, fun t' et => by cases et; exact hta⟩
  lim := hlim

theorem lwF_ext (W : WF prog w hb mg mb) {env : Env} {t : DrI} {L : Addr} (e : LwEnv env L) (hxs : t.xs.length ≤ 1000000) (hta : hb.get? t.a = none) (hab : t.a ≠ t.b) : Ext (lwF prog w env hb t (L + 1)) (cfL t.xs) where
  n := rfl
  cell := rfl
  len := fun h A s Q E pos hbk hQ => ld_blt W.g W.b W.len hbk e.fn e.g e.b ((e.kind _).trans (by decide +kernel)) (by decide +kernel) hQ
  next := fun xs h => by
    cases h
    obtain ⟨f', o, fd, a1, a2, a3, a4⟩ := next_ok W hxs hta hab
    exact ⟨t, f', o, fd, rfl, rfl, fun A s Q E pos hbk hQ => ld_glob W.g a1 hbk e.fn e.g ((e.kind _).trans (by decide +kernel)) (by decide +kernel) hQ, a2, a3, a4⟩
  isb := fun h => by cases h
  tok := fun h => by cases h

theorem lk_get {x : Str} {names : List (Str × NameKind)} {env : Env} (hk : (env.scope.kind == .function) = true) (hx : (env.kindOf x == some NameKind.cell) = true) : names.lookup x = some .free →
    (names.map fun (n, k) => if (k == NameKind.free && env.scope.kind == .function && env.kindOf n == some .cell) then (n, NameKind.cell) else (n, k)).lookup x = some .cell := by
  induction names with
  | nil => intro h; simp at h
  | cons p r ih =>
    obtain ⟨n, k⟩ := p
    intro h
    show List.lookup x ((if (k == NameKind.free && env.scope.kind == .function && env.kindOf n == some .cell) = true then (n, NameKind.cell) else (n, k)) :: _) = _
    rw [List.lookup_cons] at h
    by_cases hn : (x == n) = true
    · rw [hn] at h
      simp only at h
      cases h
      have : x = n := eq_of_beq hn
      subst this
      rw [hk, hx]
      simp
    · have hn' : (x == n) = false := by simpa using hn
      rw [hn'] at h
      split
      · rw [List.lookup_cons, hn']
        exact ih h
      · rw [List.lookup_cons, hn']
        exact ih h

theorem lk_keep {x : Str} {k' : NameKind} (hk' : (k' == NameKind.free) = false) {names : List (Str × NameKind)} {env : Env} : names.lookup x = some k' →
    (names.map fun (n, k) => if (k == NameKind.free && env.scope.kind == .function && env.kindOf n == some .cell) then (n, NameKind.cell) else (n, k)).lookup x = some k' := by
  induction names with
  | nil => intro h; simp at h
  | cons p r ih =>
    obtain ⟨n, k⟩ := p
    intro h
    show List.lookup x ((if (k == NameKind.free && env.scope.kind == .function && env.kindOf n == some .cell) = true then (n, NameKind.cell) else (n, k)) :: _) = _
    rw [List.lookup_cons] at h
    by_cases hn : (x == n) = true
    · rw [hn] at h
      simp only at h
      cases h
      rw [hk']
      simp only [Bool.false_and, Bool.false_eq_true, if_false]
      rw [List.lookup_cons, hn]
    · have hn' : (x == n) = false := by simpa using hn
      rw [hn'] at h
      split
      · rw [List.lookup_cons, hn']
        exact ih h
      · rw [List.lookup_cons, hn']
        exact ih h

def scTn : List (Str × NameKind) := [(".0", .local), ("kind", .local), ("word", .local), ("at", .local), ("start", .local), ("len", .globalImplicit), ("lines", .free)]
theorem scT_names : scT.names = scTn := by rfl
theorem scT_kind : scT.kind = .function := by rfl
theorem nmT_loc : (["kind", "word", "at", "start"] : List Str).all (fun x => scTn.lookup x == some NameKind.local) = true := by decide +kernel
theorem nmT_at : ((List.range 5).all fun x => x == 4 || (scTn.lookup (nmAt nmT x) == some NameKind.local)) = true := by decide +kernel
theorem lw_env (W : WF prog w hb mg mb) {env : Env} {t : DrI} {L : Addr} (e : LwEnv env L) (O : (lwF prog w env hb t (L + 1)).Ok) : LawEnv (lwF prog w env hb t (L + 1)) (L + 1) where
  pieces := (e.kind _).trans (by decide +kernel)
  enum := (e.kind _).trans (by decide +kernel)
  list := (e.kind _).trans (by decide +kernel)
  join := (e.kind _).trans (by decide +kernel)
  before := (e.kind _).trans (by decide +kernel)
  after := (e.kind _).trans (by decide +kernel)
  clos := by
    show closureFor scT env = _
    have hc : cellOf env "lines" = pure (L + 1) := by
      unfold cellOf
      rw [e.c]
      rfl
    unfold closureFor
    rw [scT_names]
    simp only [scTn, List.forIn_cons, List.forIn_nil]
    rw [hc]
    rfl
  comp := fun s C hC hc hbk => {
    kind := scT_kind
    glob := e.g
    blt := e.b
    len := by show nmT.Nodup; decide +kernel
    loc := fun x y ex hx => by
      have h3 := hx 4 (L + 1) rfl
      have hlt : x < 5 := (List.getElem?_eq_some_iff.mp ex).1
      have := List.all_eq_true.mp nmT_at x (List.mem_range.mpr hlt)
      have ey : nmAt nmT x = y := nmAt_of ex
      rw [ey, ← scT_names] at this
      exact lookup_relabel_local (by simpa [h3] using this)
    cell := fun x c ex => by
      cases ex
      refine ⟨"lines", by rfl, ?_, by rfl⟩
      have h := lk_get (x := "lines") (names := scT.names) (env := env) (by rw [e.fn]; rfl) (by rw [e.kind]; decide +kernel) (by rw [scT_names]; decide +kernel)
      exact h
    dbg := fun n hn => by
      have : (nmT.all fun x => !(x == ("__debug__" : Str))) = true := by decide +kernel
      simpa using List.all_eq_true.mp this n hn
    notL := fun x c ex => by
      cases ex
      obtain ⟨o, ho⟩ := hc
      show L + 1 ≠ C
      rintro h
      rw [h, hC] at ho
      cases ho
    stL := fun t et => by cases et
    fresh := ⟨(by
      show hb.get? C = none
      cases q : hb.get? C with
      | none => rfl
      | some o =>
        have := hbk _ _ q
        rw [hC] at this; cases this), (fun x c ex => by cases ex; exact O.fresh.2.1 3 (L + 1) rfl), (fun t et => by cases et)⟩
    lim := O.lim }
  compX := fun C => {
    n := rfl
    cell := rfl
    len := fun h A s Q E pos hbk hQ => ld_blt W.g W.b W.len hbk scT_kind e.g e.b (lk_keep (x := "len") (k' := .globalImplicit) (names := scT.names) (env := env) (by decide) (by rw [scT_names]; decide +kernel)) (by decide +kernel) hQ
    next := fun xs h => by cases h
    isb := fun h => by cases h
    tok := fun h => by cases h }
  swap := by
    have k : env.kindOf (nmAt nmL 17) = some .local := by rw [e.kind]; decide +kernel
    have hf := e.fn
    show swapsWith _ (some (.Name (nmAt nmL 17) _)) _ env = pure true
    simp only [swapsWith]
    rw [k]
    simp [Env.blockKind, hf]
    rfl
end
end Mine

namespace Mine
open PySem PySem.W PySem.Calls PyProof.Rows PySem.Spec

section
variable {prog : Program} {w : World} {mg mb : Str → Option Value}

theorem law_rest {s s₂ : Shared} (W : WF prog w s.heap mg mb) {env : Env} {L : Addr} (e : LwEnv env L) {a b : Addr} {ta tb : Tok} {ys : List Value} {xs : List Int} {m : Str → Option Value} (hsh : ∃ h tk, s₂ = { s with heap := h, toks := tk }) (hk : ∀ b o, s.heap.get? b = some o → s₂.heap.get? b = some o)
    (ns : s₂.heap.Ns L m) (hm : m "state" = some (.ref a)) {cv : Option Value} (cell : s₂.heap.IsCell (L + 1) cv) (la : s₂.heap.IsList a #[.ref b, .int 0 ta, .int 17 tb]) (lb : s₂.heap.IsList b ys.toArray) (hys : IntsAre ys xs) (hxl : xs.length ≤ 1000000)
    (nL : s.heap.get? L = none) (nc : s.heap.get? (L + 1) = none) (na : s.heap.get? a = none) (h1 : a ≠ L) (h2 : b ≠ L) (h3 : a ≠ b) (h4 : L + 1 ≠ a) (h5 : L + 1 ≠ b)
    {A : Around} (hA : AOk 9 A) {Q : Flow → Shared → Prop} {Er : Value → Shared → Prop}
    (hQ : ∀ s', (∃ h tk g, s' = { s with heap := h, toks := tk, gens := g }) → (∀ b o, s.heap.get? b = some o → s'.heap.get? b = some o) → (AllBare s.gens → AllBare s'.gens) → Q (.ret (.bool true)) s') :
    wpAny (model prog w) A (execs (stmtsL nmL) env) Q Er s₂ := by
  have O := lwF_ok (prog := prog) (w := w) (hb := s.heap) (env := env) (t := ⟨a, b, xs⟩) (L := L) e nL nc W.lim h1 h2 h3 h4 h5 na
  have X := lwF_ext W (t := ⟨a, b, xs⟩) e hxl na h3
  have LE := lw_env W (t := ⟨a, b, xs⟩) e O
  obtain ⟨oL, _, _, hoL, _⟩ := id ns
  have I : Inv (lwF prog w env s.heap ⟨a, b, xs⟩ (L + 1)) ⟨locL0, (0, 17)⟩ (fun _ => L) s₂.heap := by
    refine ⟨hk, ⟨m, by show s₂.heap.Ns env.locals m; rw [e.l]; exact ns, fun x sl ex => ?_⟩, (fun x c ex => by cases ex; exact ⟨cv, cell⟩), (fun x vs ex => ?_), (fun t' et => by cases et; exact ⟨by decide, ⟨ta, tb, la⟩, ⟨ys, lb, hys⟩⟩)⟩
    · match x with
      | 0 => cases ex; trivial
      | 1 => cases ex; exact ⟨⟨a, b, xs⟩, rfl, ⟨"state", by rfl, hm⟩⟩
      | x + 2 =>
        have : sl = .u := List.eq_of_mem_replicate (List.mem_of_getElem? (show (List.replicate 16 Slot.u)[x]? = some sl from ex))
        subst this
        trivial
    · match x with
      | 0 => cases ex
      | 1 => cases ex
      | x + 2 =>
        have : Slot.l vs = .u := List.eq_of_mem_replicate (List.mem_of_getElem? (show (List.replicate 16 Slot.u)[x]? = some (.l vs) from ex))
        cases this
  have fx : Fx (lwF prog w env s.heap ⟨a, b, xs⟩ (L + 1)) s s₂ (fun _ => L) :=
    ⟨hsh, fun b o e _ => hk b o e, fun b o e => ⟨o, hk b o e⟩, .of_keeps hk, fun _ => nL, by show s.heap.get? env.locals = none; rw [e.l]; exact nL, fun x c ex => by cases ex; exact nc⟩
  have hnl : (lwF prog w env s.heap ⟨a, b, xs⟩ (L + 1)).nm.length = 18 := by rfl
  have hW : ∀ bb o, s.heap.get? bb = some o → ¬ (lwF prog w env s.heap ⟨a, b, xs⟩ (L + 1)).W0 bb := fun bb o eb hw => by
    obtain ⟨t', et, ebt⟩ := hw
    cases et
    rw [ebt, na] at eb
    cases eb
  exact law_core O W X rfl LE rfl rfl hxl hnl (lawHolds xs) hA I fx (fun _ => ⟨oL, hoL⟩) (fun s' q1 q2 q3 => hQ s' q1 (fun bb o eb => q2 bb o eb (hW bb o eb)) q3)

theorem bdL3 : (defOf "law").2.1 = .Assign [.Name "state" ⟨94, 4, 94, 9⟩] (.List [.Subscript (.Name "script" ⟨94, 13, 94, 19⟩) (.Slice none (some (.Constant (.int 60) 0 ⟨94, 21, 94, 23⟩)) none ⟨94, 20, 94, 23⟩) ⟨94, 13, 94, 24⟩, .Constant (.int 0) 0 ⟨94, 26, 94, 27⟩, .Constant (.int 17) 0 ⟨94, 29, 94, 31⟩] ⟨94, 12, 94, 32⟩) ⟨94, 4, 94, 32⟩ :: stmtsL nmL := bdL2

theorem law_call {s : Shared} (W : WF prog w s.heap mg mb) {f : Addr} {o : Obj} {pm cd doc : Value} (ho : s.heap.get? f = some o) (hd : o.data = .func (docDef "law" (defOf "law").1 (defOf "law").2.1 (defOf "law").2.2 pm cd doc)) (hcd : s.heap.CodeRec cd "law")
    {l : Addr} {vs : List Value} {xs : List Int} (hl : s.heap.IsList l vs.toArray) (hv : IntsAre vs xs) (hn : vs.length ≤ 1000) {A : Around} (hA : AOk 10 A) {Q Er : Value → Shared → Prop}
    (hQ : ∀ s', (∃ h tk g, s' = { s with heap := h, toks := tk, gens := g }) → (∀ b o, s.heap.get? b = some o → s'.heap.get? b = some o) → (AllBare s.gens → AllBare s'.gens) → Q (.bool true) s') :
    wpAny (model prog w) A (call (.ref f) [.ref l]) Q Er s := by
  refine wpAny_call ?_
  refine codeAny_call_cells (binds := [("script", .ref l)]) (by have := hA.2.1; omega) ho hd W.lim hcd rfl (by rfl) rfl ?_ (fun s₁ x => ?_)
  · intro y hy
    rw [List.mem_singleton.mp hy]
    exact .inl (by show (defOf "law").2.2.names.lookup ("script" : Str) = _; decide +kernel)
  obtain ⟨env, he⟩ : ∃ env, env = callEnvC (docDef "law" (defOf "law").1 (defOf "law").2.1 (defOf "law").2.2 pm cd doc) s.heap.objs.size f := ⟨_, rfl⟩
  rw [← he] at x ⊢
  rw [bdL3]
  have ekind : ∀ n, env.kindOf n = (defOf "law").2.2.names.lookup n := fun n => by rw [he]; rfl
  have ek : env.scope.kind = .function := by rw [he]; rfl
  have eg : env.globals = mainGlobals := by rw [he]; rfl
  have eb : env.builtins = builtinsNs := by rw [he]; rfl
  have el : env.locals = s.heap.objs.size := by rw [he]; rfl
  have ec : env.cells = [(("lines" : Str), s.heap.objs.size + 1)] := by rw [he]; rfl
  have esc : env.scope = (defOf "law").2.2 := by rw [he]; rfl
  have kscript : env.kindOf "script" = some .local := by rw [ekind]; decide +kernel
  have kstate : env.kindOf "state" = some .local := by rw [ekind]; decide +kernel
  have klines : env.kindOf "lines" = some .cell := by rw [ekind]; decide +kernel
  have hbl : (bindL env.kindOf [("script", .ref l)] fun _ => none) "script" = some (.ref l) := by
    simp only [bindL]
    rw [if_pos kscript]
    simp
  refine wpAny_execs_cons (wpAny_Assign_Name (wpAny_List (spliced_more (wpAny_Subscript_list_slice (NameLC x ek kscript hbl ?_ (by decide +kernel)))))  (by rfl))
  refine wpAny_evalPart_none (wpAny_evalPart_some (wpAny_Constant_int ?_))
  refine ⟨l, vs.toArray, none, some 60, rfl, x.toInCall.isList hl, by rw [List.size_toArray]; exact Nat.le_trans hn (by decide), .none, .int _ _, ?_⟩
  refine spliced_more (wpAny_Constant_int (spliced_more (wpAny_Constant_int (spliced_none ?_))))
  refine ⟨by show 3 ≤ sizeLine; decide, ?_⟩
  have hLlt : s.heap.objs.size < s₁.heap.objs.size := by
    have hc := x.cell "lines" (s.heap.objs.size + 1) (by rw [ec]; rfl)
    exact Nat.lt_trans (Nat.lt_succ_self _) hc.lt
  refine wpAny_storeName_local (m := (bindL env.kindOf [("script", .ref l)] fun _ => none)) kstate (x.toInCall.ns.keeps fun b o e => Heap.get?_push_of_some _ (Heap.get?_push_of_some _ (Heap.get?_push_of_some _ e))) (fun h' hn' hs' => ?_) (by rw [ek]; rfl)
  have LE : LwEnv env s.heap.objs.size := ⟨ekind, ek, eg, eb, el, ec⟩
  rw [el] at hn' hs'
  have hb1 : ∀ bb o, s₁.heap.get? bb = some o → bb ≠ s.heap.objs.size → h'.get? bb = some o := fun bb o e hne =>
    hs'.extBut bb o hne (Heap.get?_push_of_some _ (Heap.get?_push_of_some _ (Heap.get?_push_of_some _ e)))
  have hnone : ∀ bb, s.heap.objs.size ≤ bb → s.heap.get? bb = none := fun bb hle => by
    cases q : s.heap.get? bb with
    | none => rfl
    | some o => exact absurd (Heap.lt_size q) (Nat.not_lt.mpr hle)
  have hLc : s.heap.objs.size + 1 < s₁.heap.objs.size := (x.cell "lines" (s.heap.objs.size + 1) (by rw [ec]; rfl)).lt
  have hin := slice_ints_uptoW hv (y := 60) (by decide)
  obtain ⟨o1, ho1⟩ : ∃ o1 : Obj, o1 = { cls := .type "slice", data := .fields #[.none, .int 60 s₁.toks, .none] } := ⟨_, rfl⟩
  obtain ⟨o2, ho2⟩ : ∃ o2 : Obj, o2 = { cls := .type "list", data := .seq (slicePick vs.toArray none (some 60) none) } := ⟨_, rfl⟩
  have es1 : (s₁.heap.push o1).objs.size = s₁.heap.objs.size + 1 := Heap.size_push ..
  have es2 : ((s₁.heap.push o1).push o2).objs.size = s₁.heap.objs.size + 2 := by rw [Heap.size_push, es1]
  have lb : h'.IsList (s₁.heap.objs.size + 1) (slicePick vs.toArray none (some 60) none).toList.toArray := by
    have g2 := Heap.get?_push_size (s₁.heap.push o1) (o := o2) (by rw [ho2]; rfl)
    rw [es1] at g2; subst ho1 ho2
    exact ⟨_, hs'.extBut _ _ (Nat.ne_of_gt (Nat.lt_trans hLlt (Nat.lt_succ_self _))) (Heap.get?_push_of_some _ g2), rfl, 0, by simp⟩
  have la : h'.IsList (s₁.heap.objs.size + 2) #[.ref (s₁.heap.objs.size + 1), .int 0 (s₁.toks + 1), .int 17 (s₁.toks + 1 + 1)] := by
    have g3 := Heap.get?_push_size ((s₁.heap.push o1).push o2) (o := { cls := .type "list", data := .seq #[.ref (s₁.heap.objs.size + 1), .int 0 (s₁.toks + 1), .int 17 (s₁.toks + 1 + 1)] }) rfl
    rw [es2, ho1, ho2] at g3
    exact ⟨_, hs'.extBut _ _ (Nat.ne_of_gt (Nat.lt_trans hLlt (Nat.lt_succ_of_lt (Nat.lt_succ_self _)))) g3, rfl, 0, rfl⟩
  have hcell : ∃ cv, h'.IsCell (s.heap.objs.size + 1) cv := by
    obtain ⟨oc, hoc, hdc⟩ := x.cell "lines" (s.heap.objs.size + 1) (by rw [ec]; rfl)
    exact ⟨_, oc, hb1 _ _ hoc (Nat.succ_ne_self _), hdc⟩
  obtain ⟨cv, hcell⟩ := hcell
  have hkeep : ∀ bb o, s.heap.get? bb = some o → h'.get? bb = some o := fun bb o eb => hb1 bb o (x.toInCall.keep _ _ eb) (Nat.ne_of_lt (Heap.lt_size eb))
  have hne1 : s₁.heap.objs.size + 2 ≠ s.heap.objs.size := Nat.ne_of_gt (Nat.lt_succ_of_lt (Nat.lt_succ_of_lt hLlt))
  have hne2 : s₁.heap.objs.size + 1 ≠ s.heap.objs.size := Nat.ne_of_gt (Nat.lt_succ_of_lt hLlt)
  have hne3 : s₁.heap.objs.size + 2 ≠ s₁.heap.objs.size + 1 := Nat.succ_ne_self _
  have hne4 : s.heap.objs.size + 1 ≠ s₁.heap.objs.size + 2 := Nat.ne_of_lt (Nat.lt_succ_of_lt (Nat.lt_succ_of_lt hLc))
  have hne5 : s.heap.objs.size + 1 ≠ s₁.heap.objs.size + 1 := Nat.ne_of_lt (Nat.lt_succ_of_lt hLc)
  have hna : s.heap.get? (s₁.heap.objs.size + 2) = none := hnone _ (Nat.le_of_lt (Nat.lt_succ_of_lt (Nat.lt_succ_of_lt hLlt)))
  have hxl : (xs.take (60 : Int).toNat).length ≤ 1000000 := Nat.le_trans (List.length_take_le _ _) (by decide)
  refine law_rest W LE ?_ hkeep hn' ?_ hcell la lb hin hxl (hnone _ (Nat.le_refl _)) (hnone _ (Nat.le_succ _)) hna hne1 hne2 hne3 hne4 hne5 (deeper_ok hA (by decide)) hQ
  · obtain ⟨h1, tk1, e1⟩ := x.toInCall.same
    rw [e1]
    exact ⟨h', _, rfl⟩
  · subst ho1 ho2
    rw [if_pos rfl]
    exact congrArg (fun z => some (Value.ref z)) es2
end
end Mine

namespace Mine
open PySem PySem.W PySem.Calls PyProof.Rows PySem.Spec

def fnNames : List Str := ["_law_next", "_law_pieces", "_is_binary_operator", "_break_around_binary_operators", "break_before_binary_operator", "break_after_binary_operator", "explicit_line_join", "law"]
def recIs (p : Program) (n : Str) : Option (Arguments × List Stmt × Scope) := ((recsOf p).find? (fun d => d.name == n)).map fun d => (d.params, d.body, d.scope)
def tokIn (K : Frag) (C : Addr) (mc : Value) (k : Nat) : Bool := match findCls K (.ref C) mc (tokName k) with
  | some (.val (.int i _)) => i == tokNum k
  | _ => false
def tupIn (K : Frag) (a : Addr) (n : List Str) : Bool := match K.lookup a with
  | some ⟨.type "tuple", _, .seq vs _, _⟩ => go vs.toList n
  | _ => false
where go : List Value → List Str → Bool
  | [], [] => true
  | .str x _ :: vs, y :: ys => x == y && go vs ys
  | _, _ => false

theorem strs_go {vs : List Value} : ∀ {ys : List Str}, tupIn.go vs ys = true → StrsAre vs ys := by
  induction vs with
  | nil => intro ys h; cases ys with
    | nil => exact .nil
    | cons _ _ => cases h
  | cons v vs ih =>
    intro ys h
    cases ys with
    | nil => cases v <;> cases h
    | cons y ys =>
      cases v with
      | str x t =>
        have h' : (x == y && tupIn.go vs ys) = true := h
        rw [Bool.and_eq_true] at h'
        have : x = y := eq_of_beq h'.1
        subst this
        exact .cons x t (ih h'.2)
      | _ => cases h

theorem tup_of {K : Frag} {h : Heap} (X : K.In h) {a : Addr} {ys : List Str} (e : tupIn K a ys = true) : ∃ vs : List Value, IsTup h a vs.toArray ∧ StrsAre vs ys := by
  unfold tupIn at e
  split at e
  · rename_i d vs n sl q
    exact ⟨vs.toList, ⟨_, X _ _ q, rfl, n, by simp⟩, strs_go e⟩
  · cases e

section
variable {prog : Program} {w : World} {p : Program} {loose : List Str} {mean : ExcName → Option Value} {mg mb : Str → Option Value} {h : Heap} {K : Frag}

theorem fnAt_of (T : Top p loose mean mg mb h) {n : Str} (e : recIs p n = some (defOf n)) : ∃ a, FnAt h mg n a := by
  unfold recIs at e
  obtain ⟨d, hd, e⟩ := Option.map_eq_some_iff.mp e
  have hn : d.name = n := eq_of_beq (List.find?_some (p := fun d : DefRec => d.name == n) hd)
  obtain ⟨a, o, pm, cd, doc, h1, h2, h3, h4⟩ := T.fn d (List.mem_of_find?_eq_some hd)
  refine ⟨a, o, pm, cd, doc, hn ▸ h1, h2, ?_, hn ▸ h4⟩
  rw [h3, ← e, hn]

theorem blt_of (T : Top p loose mean mg mb h) (X : K.In h) {n : Str} {v : Value} (e : nsIn K mainGlobals n = some none) (hb : bootBuiltins n = some v) (hn : n ≠ "__name__") : mg n = none ∧ mb n = some v :=
  ⟨ns_none_of X T.g e, (T.builtins n hn).trans hb⟩

theorem mkWF (T : Top p loose mean mg mb h) (X : K.In h)
    (f1 : recIs p "_law_next" = some (defOf "_law_next")) (f2 : recIs p "_law_pieces" = some (defOf "_law_pieces")) (f3 : recIs p "_is_binary_operator" = some (defOf "_is_binary_operator"))
    (f4 : recIs p "_break_around_binary_operators" = some (defOf "_break_around_binary_operators")) (f5 : recIs p "break_before_binary_operator" = some (defOf "break_before_binary_operator"))
    (f6 : recIs p "break_after_binary_operator" = some (defOf "break_after_binary_operator")) (f7 : recIs p "explicit_line_join" = some (defOf "explicit_line_join"))
    (b1 : nsIn K mainGlobals "len" = some none) (b2 : nsIn K mainGlobals "abs" = some none) (b3 : nsIn K mainGlobals "range" = some none) (b4 : nsIn K mainGlobals "enumerate" = some none) (b5 : nsIn K mainGlobals "list" = some none)
    {S C : Addr} {mc : Value} (s1 : nsIn K mainGlobals "_SYMBOLIC_OPS" = some (some (.ref S))) (s2 : tupIn K S symOps = true)
    (t1 : nsIn K mainGlobals "tokenize" = some (some (.ref C))) (t2 : readsIn K C mc = true) (t3 : (tokIn K C mc 0 && tokIn K C mc 1 && tokIn K C mc 2) = true) : WF prog w h mg mb where
  g := T.g
  b := T.b
  lim := T.nolimit
  len := blt_of T X b1 (by kernel_rfl) (by decide +kernel)
  abs := blt_of T X b2 (by kernel_rfl) (by decide +kernel)
  range := blt_of T X b3 (by kernel_rfl) (by decide +kernel)
  enum := blt_of T X b4 (by kernel_rfl) (by decide +kernel)
  list := blt_of T X b5 (by kernel_rfl) (by decide +kernel)
  fnNext := fnAt_of T f1
  fnPieces := fnAt_of T f2
  fnBin := fnAt_of T f3
  fnAround := fnAt_of T f4
  fnBefore := fnAt_of T f5
  fnAfter := fnAt_of T f6
  fnJoin := fnAt_of T f7
  sym := by
    obtain ⟨vs, h1, h2⟩ := tup_of X s2
    exact ⟨S, vs, mg_of X T.g s1, h1, h2⟩
  tok := by
    intro k A s Q Er env np pp hk hg hkind hbk hQ
    refine Attribute_name (ld_glob T.g (mg_of X T.g t1) hbk hk hg hkind (by decide +kernel) ?_)
    rw [Bool.and_eq_true, Bool.and_eq_true] at t3
    have t4 : tokIn K C mc k = true := by
      match k with
      | 0 => exact t3.1.1
      | 1 => exact t3.1.2
      | k + 2 => exact t3.2
    unfold tokIn at t4
    split at t4
    · rename_i i t e
      have ei : i = tokNum k := eq_of_beq t4
      subst ei
      exact cls_value (X.keeps hbk) t2 e rfl (hQ _ _)
    · cases t4

theorem callerA_ok : AOk 10 callerA := ⟨rfl, by decide, by decide⟩

theorem law_top {s : Shared} (T : Top p loose mean mg mb s.heap) (W : WF prog w s.heap mg mb) (fl : recIs p "law" = some (defOf "law")) {fa : Addr} (hmg : mg "law" = some (.ref fa))
    {l : Addr} {vs : List Value} {xs : List Int} (hl : s.heap.IsList l vs.toArray) (hv : IntsAre vs xs) (hn : vs.length ≤ 1000) {Q Er : Value → Shared → Prop}
    (hQ : ∀ s', OldK s.heap s'.heap → s'.os = s.os → (AllBare s.gens → AllBare s'.gens) → Q (.bool true) s') : wpAny (model prog w) callerA (call (.ref fa) [.ref l]) Q Er s := by
  obtain ⟨a, o, pm, cd, doc, h1, h2, h3, h4⟩ := fnAt_of T fl
  rw [hmg] at h1
  cases h1
  refine law_call W h2 h3 h4 hl hv hn callerA_ok fun s' hs hk hb => hQ s' (.of_keep hk) ?_ hb
  obtain ⟨_, _, _, e⟩ := hs
  rw [e]
end
end Mine

open PySem PySem.W PySem.W.X PyProof.Rows PySem.W.ZRun
set_option maxRecDepth 100000 in
set_option maxHeartbeats 0 in
theorem PySem.Challenge.cw_co0043_01_holds : PySem.Challenge.rw_co0043_01.Holds := by
  w_on; o_law; z_head; (case hw => w_witness2)
  k_fill
  intro w s₀ s₁ mg mb G y fa o pm cd doc dV kV ho hd hcd hD hmg hg args vals as L hpre hlay hrd hwl hlo
  z_open y L KX ZH ZN ZT
  refine Ground.open G ?_
  intro T B D TE TW
  clear y ho hd hcd hD ZH B D TE TW
  wrow_args hpre hlay hrd hwl hlo
  all_lens
  have W := Mine.mkWF (prog := PySem.Challenge.rw_co0043_01.row.prog) (w := w) (S := 36) (C := 24) (mc := .type "type") T KX (by kernel_rfl) (by kernel_rfl) (by kernel_rfl) (by kernel_rfl) (by kernel_rfl) (by kernel_rfl) (by kernel_rfl)
    (by kernel_rfl) (by kernel_rfl) (by kernel_rfl) (by kernel_rfl) (by kernel_rfl) (by kernel_rfl) (by kernel_rfl) (by kernel_rfl) (by kernel_rfl) (by kernel_rfl)
  refine Mine.law_top T W (by kernel_rfl) hmg ‹s₁.heap.IsList _ _› ‹IntsAre _ _› (by omega) ?_
  intro s' h1 h2 h3
  exact ⟨.inl ⟨.bool true, .bool true, [], rfl, raisesW_false (by wrow_none_raised), .bool true, (by wrow_post), fun _ => ⟨.nil, fun a h => nomatch h⟩⟩, h1, h2, h3 (hg ▸ .empty)⟩
