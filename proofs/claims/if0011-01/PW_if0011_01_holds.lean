import PyProof.Rows.All
import Wide.All
import OpenK.AllK
import Wide.FinOn
import Flt.Ops
import KE.KIntText
import PyProof.IsiH_list
import PyProof.AttrMissHeap
import KE.KFromBytes
import PyProof.GenRules
import PyProof.GenQ
import PyProof.Draws
import PyProof.EnumMake
import PyProof.EnumStmt
import PyProof.EnumFor
import PyProof.WalksT
import Lean
import PySem.Challenge.RW_if0011_01
set_option Elab.async false
set_option maxRecDepth 100000
set_option linter.all false
namespace Mine
open PySem PySem.W PyProof.Rows

/-- A pure value. -/
inductive PV where
  | none
  | bool (b : Bool)
  | int (i : Int)
  | flt (x : UInt64)
  | str (s : Str)
  | tup (l : List PV)
  | lst (l : List PV)
  | val (v : Value)
  | app (a : Addr)
  | gfl (x : UInt64)
  | fltB (x : UInt64) (lo hi : Nat)
  | lsa (a : Addr) (l : List PV)
  deriving Inhabited

mutual
/-- the value v reads p in the state s; its floats that are not the text's own bear marks from lo on, made before now -/
noncomputable def Rd (lo : Nat) (X : List Addr) (s : Shared) : PV → Value → Prop
  | .none, v => v = .none
  | .bool b, v => v = .bool b
  | .int i, v => ∃ t, v = .int i t
  | .flt x, v => ∃ t, t ≠ 0 ∧ lo ≤ t ∧ t < s.toks ∧ v = .float x t
  | .str x, v => ∃ t, v = .str x t
  | .tup l, v => ∃ a vs, v = .ref a ∧ a ∉ X ∧ IsTup s.heap a vs.toArray ∧ Rds lo X s l vs
  | .lst l, v => ∃ a vs, v = .ref a ∧ a ∉ X ∧ s.heap.IsList a vs.toArray ∧ Rds lo X s l vs
  | .val u, v => v = u
  | .app l, v => ∃ q, v = .ref q ∧ q ∉ X ∧ s.heap.get? q = some { cls := .type "builtin_function_or_method", data := .fields #[.builtin "list.append", .ref l] }
  | .gfl x, v => ∃ t, v = .float x t
  | .fltB x i j, v => ∃ t, t ≠ 0 ∧ i ≤ t ∧ t < j ∧ v = .float x t
  | .lsa a l, v => ∃ vs, v = .ref a ∧ a ∉ X ∧ s.heap.IsList a vs.toArray ∧ Rds lo X s l vs
noncomputable def Rds (lo : Nat) (X : List Addr) (s : Shared) : List PV → List Value → Prop
  | [], vs => vs = []
  | p :: ps, vs => ∃ v r, vs = v :: r ∧ Rd lo X s p v ∧ Rds lo X s ps r
end

noncomputable abbrev Keep (h h' : Heap) : Prop := ∀ b o, h.get? b = some o → h'.get? b = some o
/-- everything outside X stays -/
noncomputable abbrev KeepX (X : List Addr) (h h' : Heap) : Prop := ∀ b o, b ∉ X → h.get? b = some o → h'.get? b = some o

mutual
theorem Rd.keepX {lo : Nat} {X : List Addr} {s s' : Shared} (k : KeepX X s.heap s'.heap) (le : s.toks ≤ s'.toks) : ∀ {p : PV} {v : Value}, Rd lo X s p v → Rd lo X s' p v
  | .none, _, r => by simpa only [Rd] using r
  | .bool _, _, r => by simpa only [Rd] using r
  | .int _, _, r => by simpa only [Rd] using r
  | .flt _, _, r => by
    simp only [Rd] at r ⊢
    obtain ⟨t, h0, h1, h2, e⟩ := r
    exact ⟨t, h0, h1, Nat.lt_of_lt_of_le h2 le, e⟩
  | .str _, _, r => by simpa only [Rd] using r
  | .tup l, v, r => by
    simp only [Rd] at r ⊢
    obtain ⟨a, vs, e, hx, ⟨o, ho, q⟩, hr⟩ := r
    exact ⟨a, vs, e, hx, ⟨o, k a o hx ho, q⟩, Rds.keepX k le hr⟩
  | .lst l, v, r => by
    simp only [Rd] at r ⊢
    obtain ⟨a, vs, e, hx, ⟨o, ho, q⟩, hr⟩ := r
    exact ⟨a, vs, e, hx, ⟨o, k a o hx ho, q⟩, Rds.keepX k le hr⟩
  | .val _, _, r => by simpa only [Rd] using r
  | .app l, v, r => by
    simp only [Rd] at r ⊢
    obtain ⟨q, e, hx, ho⟩ := r
    exact ⟨q, e, hx, k q _ hx ho⟩
  | .gfl _, _, r => by simpa only [Rd] using r
  | .fltB _ _ _, _, r => by simpa only [Rd] using r
  | .lsa a l, v, r => by
    simp only [Rd] at r ⊢
    obtain ⟨vs, e, hx, ⟨o, ho, q⟩, hr⟩ := r
    exact ⟨vs, e, hx, ⟨o, k a o hx ho, q⟩, Rds.keepX k le hr⟩
theorem Rds.keepX {lo : Nat} {X : List Addr} {s s' : Shared} (k : KeepX X s.heap s'.heap) (le : s.toks ≤ s'.toks) : ∀ {ps : List PV} {vs : List Value}, Rds lo X s ps vs → Rds lo X s' ps vs
  | [], _, r => by simpa only [Rds] using r
  | p :: ps, vs, r => by
    simp only [Rds] at r ⊢
    obtain ⟨v, r', e, h1, h2⟩ := r
    exact ⟨v, r', e, Rd.keepX k le h1, Rds.keepX k le h2⟩
end
theorem Keep.x {X : List Addr} {h h' : Heap} (k : Keep h h') : KeepX X h h' := fun b o _ e => k b o e
theorem Rd.keep {lo : Nat} {X : List Addr} {s s' : Shared} (k : Keep s.heap s'.heap) (le : s.toks ≤ s'.toks) {p : PV} {v : Value} (r : Rd lo X s p v) : Rd lo X s' p v := Rd.keepX k.x le r
theorem Rds.keep {lo : Nat} {X : List Addr} {s s' : Shared} (k : Keep s.heap s'.heap) (le : s.toks ≤ s'.toks) {p : List PV} {v : List Value} (r : Rds lo X s p v) : Rds lo X s' p v := Rds.keepX k.x le r

mutual
theorem Rd.less {lo : Nat} {X Y : List Addr} {s : Shared} (h : ∀ a, a ∈ Y → a ∈ X) : ∀ {p : PV} {v : Value}, Rd lo X s p v → Rd lo Y s p v
  | .none, _, r => by simpa only [Rd] using r
  | .bool _, _, r => by simpa only [Rd] using r
  | .int _, _, r => by simpa only [Rd] using r
  | .flt _, _, r => by simpa only [Rd] using r
  | .str _, _, r => by simpa only [Rd] using r
  | .tup l, v, r => by
    simp only [Rd] at r ⊢
    obtain ⟨a, vs, e, hx, q, hr⟩ := r
    exact ⟨a, vs, e, fun m => hx (h a m), q, Rds.less h hr⟩
  | .lst l, v, r => by
    simp only [Rd] at r ⊢
    obtain ⟨a, vs, e, hx, q, hr⟩ := r
    exact ⟨a, vs, e, fun m => hx (h a m), q, Rds.less h hr⟩
  | .val _, _, r => by simpa only [Rd] using r
  | .app l, v, r => by
    simp only [Rd] at r ⊢
    obtain ⟨q, e, hx, ho⟩ := r
    exact ⟨q, e, fun m => hx (h q m), ho⟩
  | .gfl _, _, r => by simpa only [Rd] using r
  | .fltB _ _ _, _, r => by simpa only [Rd] using r
  | .lsa a l, v, r => by
    simp only [Rd] at r ⊢
    obtain ⟨vs, e, hx, q, hr⟩ := r
    exact ⟨vs, e, fun m => hx (h a m), q, Rds.less h hr⟩
theorem Rds.less {lo : Nat} {X Y : List Addr} {s : Shared} (h : ∀ a, a ∈ Y → a ∈ X) : ∀ {ps : List PV} {vs : List Value}, Rds lo X s ps vs → Rds lo Y s ps vs
  | [], _, r => by simpa only [Rds] using r
  | p :: ps, vs, r => by
    simp only [Rds] at r ⊢
    obtain ⟨v, r', e, h1, h2⟩ := r
    exact ⟨v, r', e, Rd.less h h1, Rds.less h h2⟩
end

theorem Rds.length {lo : Nat} {X : List Addr} {s : Shared} : ∀ {ps : List PV} {vs : List Value}, Rds lo X s ps vs → vs.length = ps.length
  | [], vs, r => by simp only [Rds] at r; subst r; rfl
  | p :: ps, vs, r => by
    simp only [Rds] at r
    obtain ⟨v, r', e, _, h2⟩ := r
    subst e
    simp [h2.length]
theorem Rds.append {lo : Nat} {X : List Addr} {s : Shared} : ∀ {ps qs : List PV} {vs us : List Value}, Rds lo X s ps vs → Rds lo X s qs us → Rds lo X s (ps ++ qs) (vs ++ us)
  | [], qs, vs, us, r, r' => by simp only [Rds] at r; subst r; exact r'
  | p :: ps, qs, vs, us, r, r' => by
    simp only [Rds] at r
    obtain ⟨v, w, e, h1, h2⟩ := r
    subst e
    simp only [List.cons_append, Rds]
    exact ⟨v, w ++ us, rfl, h1, h2.append r'⟩
theorem Rds.get {lo : Nat} {X : List Addr} {s : Shared} : ∀ {ps : List PV} {vs : List Value} {i : Nat} {p : PV}, Rds lo X s ps vs → ps[i]? = some p → ∃ v, vs[i]? = some v ∧ Rd lo X s p v
  | [], _, _, _, _, e => by simp at e
  | q :: ps, vs, 0, p, r, e => by
    simp only [Rds] at r
    obtain ⟨v, w, rfl, h1, h2⟩ := r
    simp at e; subst e
    exact ⟨v, rfl, h1⟩
  | q :: ps, vs, i + 1, p, r, e => by
    simp only [Rds] at r
    obtain ⟨v, w, rfl, h1, h2⟩ := r
    simp at e
    obtain ⟨u, e1, e2⟩ := h2.get e
    exact ⟨u, by simpa using e1, e2⟩
theorem Rds.nil {lo : Nat} {X : List Addr} {s : Shared} : Rds lo X s [] [] := by simp only [Rds]
theorem Rds.cons {lo : Nat} {X : List Addr} {s : Shared} {p : PV} {ps : List PV} {v : Value} {vs : List Value} (a : Rd lo X s p v) (b : Rds lo X s ps vs) : Rds lo X s (p :: ps) (v :: vs) := by
  simp only [Rds]; exact ⟨v, vs, rfl, a, b⟩
theorem Rds.sub {lo : Nat} {X : List Addr} {s : Shared} {ps : List PV} {vs : List Value} (r : Rds lo X s ps vs) (n m : Nat) : Rds lo X s ((ps.drop n).take m) ((vs.drop n).take m) := by
  induction ps generalizing vs n m with
  | nil => simp only [Rds] at r; subst r; simp [Rds]
  | cons p ps ih =>
    simp only [Rds] at r
    obtain ⟨v, w, rfl, h1, h2⟩ := r
    cases n with
    | zero =>
      cases m with
      | zero => simp [Rds]
      | succ m =>
        have := ih h2 0 m
        simp only [List.drop_zero] at this
        simp only [List.drop_zero, List.take_succ_cons]
        exact .cons h1 this
    | succ n => simpa using ih h2 n m

/-- no generator in the air, and marks above nought -/
noncomputable def Good (s : Shared) : Prop := AllBare s.gens ∧ 0 < s.toks

/-- what a pure step does to the state -/
structure Ext (s s' : Shared) : Prop where
  keep : Keep s.heap s'.heap
  os : s'.os = s.os
  gens : ∀ (g : Nat) (x : GenState), s.gens[g]? = some x → s'.gens[g]? = some x
  bare : AllBare s.gens → AllBare s'.gens
  le : s.toks ≤ s'.toks

theorem Ext.refl (s : Shared) : Ext s s := ⟨fun _ _ e => e, rfl, fun _ _ e => e, id, Nat.le_refl _⟩
theorem Ext.trans {a b c : Shared} (x : Ext a b) (y : Ext b c) : Ext a c :=
  ⟨fun b o e => y.keep b o (x.keep b o e), y.os.trans x.os, fun g z e => y.gens g z (x.gens g z e), fun h => y.bare (x.bare h), Nat.le_trans x.le y.le⟩
theorem Ext.heapLe {s : Shared} {h' : Heap} {tk : Nat} (k : Keep s.heap h') (ht : s.toks ≤ tk) : Ext s { s with heap := h', toks := tk } := ⟨k, rfl, fun _ _ e => e, id, ht⟩
theorem Ext.toks1 {s : Shared} : Ext s { s with toks := s.toks + 1 } := ⟨fun _ _ e => e, rfl, fun _ _ e => e, id, Nat.le_succ _⟩
theorem Ext.push {s : Shared} {o : Obj} : Ext s { s with heap := s.heap.push o } := ⟨fun _ _ e => Heap.get?_push_of_some _ e, rfl, fun _ _ e => e, id, Nat.le_refl _⟩
theorem Ext.good {s s' : Shared} (e : Ext s s') (g : Good s) : Good s' := ⟨e.bare g.1, Nat.lt_of_lt_of_le g.2 e.le⟩
theorem Rd.ext {lo : Nat} {X : List Addr} {s s' : Shared} (e : Ext s s') {p : PV} {v : Value} (r : Rd lo X s p v) : Rd lo X s' p v := r.keep e.keep e.le
theorem Rds.ext {lo : Nat} {X : List Addr} {s s' : Shared} (e : Ext s s') {p : List PV} {v : List Value} (r : Rds lo X s p v) : Rds lo X s' p v := r.keep e.keep e.le

structure XOk (lo : Nat) (K : Frag) (X : List Addr) (s : Shared) : Prop where
  good : Good s
  low : lo ≤ s.toks
  out : ∀ a ∈ X, (∃ o, s.heap.get? a = some o) ∧ K.lookup a = none
theorem XOk.ext {lo : Nat} {K : Frag} {X : List Addr} {s s' : Shared} (x : XOk lo K X s) (e : Ext s s') : XOk lo K X s' := ⟨e.good x.good, Nat.le_trans x.low e.le, fun a m => let ⟨⟨o, h⟩, q⟩ := x.out a m; ⟨⟨o, e.keep a o h⟩, q⟩⟩
theorem get_size_none (h : Heap) : h.get? h.objs.size = none := by
  cases q : h.get? h.objs.size with
  | none => rfl
  | some o => exact absurd (Heap.lt_size q) (Nat.lt_irrefl _)
theorem XOk.fresh {lo : Nat} {K : Frag} {X : List Addr} {s : Shared} (x : XOk lo K X s) : s.heap.objs.size ∉ X := fun m => by
  obtain ⟨⟨o, h⟩, _⟩ := x.out _ m
  rw [get_size_none] at h; cases h
theorem XOk.off {lo : Nat} {K : Frag} {X : List Addr} {s : Shared} (x : XOk lo K X s) {a : Addr} {o : Obj} (h : K.lookup a = some o) : a ∉ X := fun m => by
  rw [(x.out a m).2] at h; cases h

/-- room for k more frames -/
structure Room (k : Nat) (A : Around) : Prop where
  handled : A.handled = none
  depth : A.depth + k < recursionLimit
  units : A.units + 20 * k + 100 < cLine
theorem Room.less {k j : Nat} {A : Around} (r : Room k A) (h : j ≤ k) : Room j A := ⟨r.handled, by have := r.depth; lia, by have := r.units; lia⟩
theorem Room.in1 {k : Nat} {A : Around} (r : Room (k + 1) A) : Room k A.in1 := ⟨r.handled, by have := r.depth; simp only [Around.in1_depth]; lia, by have := r.units; simp only [Around.in1_units]; lia⟩
theorem Room.deeper {k : Nat} {A : Around} {env : Env} (r : Room (k + 1) A) : Room k (A.deeper env) := ⟨r.handled, by have := r.depth; show A.depth + 1 + k < _; lia, by have := r.units; show A.units + 3 + 20 * k + 100 < _; lia⟩

/-- the tree t gives, from s, a value that reads p, and changes nothing that stands. -/
noncomputable def Does (lo : Nat) (M : Model) (A : Around) (X : List Addr) (s : Shared) (t : Sem Value) (p : PV) : Prop :=
  ∀ Q : Value → Shared → Prop, (∀ v s', Ext s s' → Rd lo X s' p v → Q v s') → wpAny M A t Q (fun _ _ => False) s

/-- what a pure step does to the state, the marks aside -/
structure ExtW (s s' : Shared) : Prop where
  keep : Keep s.heap s'.heap
  os : s'.os = s.os
  gens : ∀ (g : Nat) (x : GenState), s.gens[g]? = some x → s'.gens[g]? = some x
  bare : AllBare s.gens → AllBare s'.gens
theorem ExtW.refl (s : Shared) : ExtW s s := ⟨fun _ _ e => e, rfl, fun _ _ e => e, id⟩
theorem ExtW.heap {s : Shared} {h' : Heap} {tk : Nat} (k : Keep s.heap h') : ExtW s { s with heap := h', toks := tk } := ⟨k, rfl, fun _ _ e => e, id⟩
theorem ExtW.toks {s : Shared} {tk : Nat} : ExtW s { s with toks := tk } := ⟨fun _ _ e => e, rfl, fun _ _ e => e, id⟩
theorem ExtW.up {s s' : Shared} (e : ExtW s s') (ht : s.toks ≤ s'.toks) : Ext s s' := ⟨e.keep, e.os, e.gens, e.bare, ht⟩
theorem up_any {α : Type} {M : Model} {A : Around} {s : Shared} {t : Sem α} {Q : α → Shared → Prop} (h : wpAny M A t (fun v s' => s.toks ≤ s'.toks → Q v s') (fun _ _ => False) s) : wpAny M A t Q (fun _ _ => False) s :=
  wpAny_with_toks (Nat.le_refl _) (wpAny_mono h (fun _ _ x => x) fun _ _ x => x.elim)
theorem Does.up {lo : Nat} {M : Model} {A : Around} {X : List Addr} {s : Shared} {t : Sem Value} {p : PV} (w : ∀ Q : Value → Shared → Prop, (∀ v s', ExtW s s' → Rd lo X s' p v → Q v s') → wpAny M A t Q (fun _ _ => False) s) : Does lo M A X s t p :=
  fun Q h => up_any (w _ fun v s' e r le => h v s' (e.up le) r)

/-- the same, where the answer is read after the marks have risen -/
theorem Does.up2 {lo : Nat} {M : Model} {A : Around} {X : List Addr} {s : Shared} {t : Sem Value} {p : PV} (w : ∀ Q : Value → Shared → Prop, (∀ v s', ExtW s s' → (s.toks ≤ s'.toks → Rd lo X s' p v) → Q v s') → wpAny M A t Q (fun _ _ => False) s) : Does lo M A X s t p :=
  fun Q h => up_any (w _ fun v s' e r le => h v s' (e.up le) (r le))

end Mine
namespace Mine
open PySem PySem.W PyProof.Rows

structure Cx where
  prog : Program
  w : World
  mg : Str → Option Value
  K : Frag
  /-- the lowest mark of a float made here -/
  lo : Nat

structure Base (c : Cx) (h : Heap) : Prop where
  g : h.Ns mainGlobals c.mg
  b : ∃ mb, h.Ns builtinsNs mb ∧ ∀ x : Str, x ≠ "__name__" → mb x = bootBuiltins x
  nolimit : h.NoLimit
  nodigits : ∃ mc, h.Ns cStatics mc ∧ mc "sys.int_max_str_digits" = none
  booked : NoneBooked h
  k : c.K.In h
theorem Base.keep {c : Cx} {h h' : Heap} (x : Base c h) (k : Keep h h') : Base c h' :=
  ⟨x.g.keeps k, (let ⟨mb, a, b⟩ := x.b; ⟨mb, a.keeps k, b⟩), x.nolimit.keeps k, (let ⟨mb, a, b⟩ := x.nodigits; ⟨mb, a.keeps k, b⟩), (let ⟨mb, a, b⟩ := x.booked; ⟨mb, a.keeps k, b⟩), x.k.keeps k⟩
theorem Base.ext {c : Cx} {s s' : Shared} (x : Base c s.heap) (e : Ext s s') : Base c s'.heap := x.keep e.keep

structure Frm where
  env : Env
  hE : Heap
  names : List Str
  rho : List (Option PV)
  own : Option (Addr × List PV)
  X0 : List Addr

noncomputable def Xw (X0 : List Addr) : Option (Addr × List PV) → List Addr
  | some p => p.1 :: X0
  | none => X0
noncomputable def Frm.X (F : Frm) : List Addr := Xw F.X0 F.own

noncomputable def VarAt (h : Heap) (env : Env) (m : Str → Option Value) (x : Str) (v : Value) : Prop :=
  (env.kindOf x = some .local ∧ m x = some v) ∨ (env.kindOf x = some .cell ∧ ∃ c, env.cells.lookup x = some c ∧ h.IsCell c (some v)) ∨
  (env.kindOf x = some .free ∧ (x == ("__classdict__" : Str)) = false ∧ ∃ c, env.cells.lookup x = some c ∧ h.IsCell c (some v))

/-- what holds of an environment once and for all -/
structure EnvOk (env : Env) : Prop where
  kind : env.scope.kind = .function
  glob : env.globals = mainGlobals
  bui : env.builtins = builtinsNs
  apart : ∀ x y a, env.cells.lookup x = some a → env.cells.lookup y = some a → x = y

/-- a list without a dict of its own -/
noncomputable def PlL (h : Heap) (a : Addr) (items : Array Value) : Prop := ∃ o, h.get? a = some o ∧ o.cls = .type "list" ∧ o.dict = none ∧ ∃ n, o.data = .seq items n
theorem PlL.list {h : Heap} {a : Addr} {items : Array Value} (x : PlL h a items) : h.IsList a items := let ⟨o, ho, c, _, d⟩ := x; ⟨o, ho, c, d⟩
theorem PlL.plain {h : Heap} {a : Addr} {items : Array Value} (x : PlL h a items) : PlainL h a items := let ⟨o, ho, c, e, n, d⟩ := x; ⟨o, n, ho, c, e, d⟩
theorem PlL.of {h : Heap} {a : Addr} {items : Array Value} (x : PlainL h a items) : PlL h a items := let ⟨o, n, ho, c, e, d⟩ := x; ⟨o, ho, c, e, n, d⟩

structure Rel (c : Cx) (F : Frm) (s : Shared) : Prop where
  baseE : Base c F.hE
  keep : Keep F.hE s.heap
  env : EnvOk F.env
  vars : ∃ m, s.heap.Ns F.env.locals m ∧ ∀ (i : Nat) x p, F.names[i]? = some x → F.rho[i]? = some (some p) → ∃ v, VarAt s.heap F.env m x v ∧ Rd c.lo F.X s p v
  own : ∀ a l, F.own = some (a, l) → ∃ vs, PlL s.heap a vs.toArray ∧ Rds c.lo F.X s l vs ∧ F.hE.get? a = none
  cells : ∀ x a, F.env.cells.lookup x = some a → ∃ v, s.heap.IsCell a v
  x0 : ∀ a ∈ F.X0, (∃ o, F.hE.get? a = some o) ∧ c.K.lookup a = none
  good : Good s
  low : c.lo ≤ s.toks

theorem Rel.base {c : Cx} {F : Frm} {s : Shared} (r : Rel c F s) : Base c s.heap := r.baseE.keep r.keep
/-- what any step may count on -/
structure Fine (c : Cx) (s : Shared) : Prop where
  base : Base c s.heap
  good : Good s
  low : c.lo ≤ s.toks
theorem Fine.ext {c : Cx} {s s' : Shared} (x : Fine c s) (e : Ext s s') : Fine c s' := ⟨x.base.ext e, e.good x.good, Nat.le_trans x.low e.le⟩
theorem Rel.fine {c : Cx} {F : Frm} {s : Shared} (r : Rel c F s) : Fine c s := ⟨r.base, r.good, r.low⟩
theorem Rel.xok {c : Cx} {F : Frm} {s : Shared} (r : Rel c F s) : XOk c.lo c.K F.X s := by
  refine ⟨r.good, r.low, fun a m => ?_⟩
  have x0 : a ∈ F.X0 → (∃ o, s.heap.get? a = some o) ∧ c.K.lookup a = none := fun m => let ⟨⟨o, h⟩, q⟩ := r.x0 a m; ⟨⟨o, r.keep a o h⟩, q⟩
  unfold Frm.X at m
  cases q : F.own with
  | none => rw [q] at m; exact x0 m
  | some p =>
    rw [q] at m
    obtain ⟨b, l⟩ := p
    rcases List.mem_cons.mp m with e | m
    · have e : a = b := e
      subst e
      obtain ⟨vs, ⟨o, ho, _⟩, _, hn⟩ := r.own a l q
      refine ⟨⟨o, ho⟩, ?_⟩
      cases z : c.K.lookup a with
      | none => rfl
      | some o' => rw [r.baseE.k a o' z] at hn; cases hn
    · exact x0 m

theorem VarAt.keep {h h' : Heap} {env : Env} {m : Str → Option Value} {x : Str} {v : Value} (k : Keep h h') (a : VarAt h env m x v) : VarAt h' env m x v := by
  rcases a with a | ⟨a, c, b, d⟩ | ⟨a, q, c, b, d⟩
  · exact .inl a
  · exact .inr (.inl ⟨a, c, b, d.keeps k⟩)
  · exact .inr (.inr ⟨a, q, c, b, d.keeps k⟩)

theorem Rel.ext {c : Cx} {F : Frm} {s s' : Shared} (r : Rel c F s) (e : Ext s s') : Rel c F s' where
  baseE := r.baseE
  keep := fun b o q => e.keep b o (r.keep b o q)
  env := r.env
  vars := by
    obtain ⟨m, hn, h⟩ := r.vars
    refine ⟨m, hn.keeps e.keep, fun i x p h1 h2 => ?_⟩
    obtain ⟨v, a, b⟩ := h i x p h1 h2
    exact ⟨v, a.keep e.keep, b.ext e⟩
  own := fun a l q => by
    obtain ⟨vs, ⟨o, ho, t⟩, h2, h3⟩ := r.own a l q
    exact ⟨vs, ⟨o, e.keep a o ho, t⟩, h2.ext e, h3⟩
  cells := fun x a q => let ⟨v, h⟩ := r.cells x a q; ⟨v, h.keeps e.keep⟩
  x0 := r.x0
  good := e.good r.good
  low := Nat.le_trans r.low e.le

noncomputable abbrev Cx.M (c : Cx) : Model := model c.prog c.w

noncomputable def Evals (c : Cx) (k : Nat) (F : Frm) (e : Expr) (p : PV) : Prop :=
  ∀ A s, Room k A → Rel c F s → Does c.lo c.M A F.X s (eval e F.env) p

noncomputable def Tests (c : Cx) (k : Nat) (F : Frm) (e : Expr) (b : Bool) : Prop :=
  ∀ A s, Room k A → Rel c F s → ∀ Q : Bool → Shared → Prop, (∀ s', Ext s s' → Q b s') → wpAny c.M A (isTrue e F.env (eval e F.env)) Q (fun _ _ => False) s

noncomputable def Op2 (c : Cx) (k : Nat) (f : Value → Value → Sem Value) (p q r : PV) : Prop :=
  ∀ A X s a b, Room k A → Base c s.heap → XOk c.lo c.K X s → Rd c.lo X s p a → Rd c.lo X s q b → Does c.lo c.M A X s (f a b) r

noncomputable def Op1 (c : Cx) (k : Nat) (f : Value → Sem Value) (p r : PV) : Prop :=
  ∀ A X s a, Room k A → Base c s.heap → XOk c.lo c.K X s → Rd c.lo X s p a → Does c.lo c.M A X s (f a) r

noncomputable def OpN (c : Cx) (k : Nat) (f : List Value → Sem Value) (ps : List PV) (r : PV) : Prop :=
  ∀ A X s vs, Room k A → Base c s.heap → XOk c.lo c.K X s → Rds c.lo X s ps vs → Does c.lo c.M A X s (f vs) r

noncomputable def Truth (c : Cx) (p : PV) (b : Bool) : Prop :=
  ∀ A X s a, Room 0 A → Base c s.heap → XOk c.lo c.K X s → Rd c.lo X s p a → ∀ Q : Bool → Shared → Prop, (∀ s', Ext s s' → Q b s') → wpAny c.M A (truthy a) Q (fun _ _ => False) s

noncomputable def EvalsL (c : Cx) (k : Nat) (F : Frm) (es : List Expr) (ps : List PV) : Prop :=
  ∀ A s pos, Room k A → Rel c F s → ∀ Q : List Value → Shared → Prop, (∀ vs s', Ext s s' → Rds c.lo F.X s' ps vs → Q vs s') →
    wpAny c.M A (spliced (backTo pos (starEach es F.env))) Q (fun _ _ => False) s

section
variable {c : Cx} {k : Nat} {F : Frm}

theorem Does.mono {lo : Nat} {M : Model} {A : Around} {X : List Addr} {s s' : Shared} {t : Sem Value} {p : PV} {Q : Value → Shared → Prop} (e : Ext s s') (d : Does lo M A X s' t p)
    (h : ∀ v s'', Ext s s'' → Rd lo X s'' p v → Q v s'') : wpAny M A t Q (fun _ _ => False) s' := d Q fun v s'' e' r => h v s'' (e.trans e') r
theorem Does.now {lo : Nat} {M : Model} {A : Around} {X : List Addr} {s : Shared} {v : Value} {p : PV} (r : Rd lo X s p v) : Does lo M A X s (pure v) p :=
  fun _ h => wpAny_pure (h v s (Ext.refl s) r)

-- constants
theorem e_int {i : Int} {kd pos} : Evals c k F (.Constant (.int i) kd pos) (.int i) := fun _ s _ _ _ h => wpAny_Constant_int (h _ _ Ext.toks1 (by simp only [Rd]; exact ⟨_, rfl⟩))
theorem e_flt {x : UInt64} {kd pos} : Evals c k F (.Constant (.float x) kd pos) (.flt x) := fun _ s _ r _ h => wpAny_Constant_float (h _ _ Ext.toks1 (by simp only [Rd]; exact ⟨_, Nat.ne_of_gt r.good.2, r.low, Nat.lt_succ_self _, rfl⟩))
theorem e_str {x : Str} {kd pos} : Evals c k F (.Constant (.str x) kd pos) (.str x) := fun _ s _ _ _ h => Calls.Constant_str (h _ _ Ext.toks1 (by simp only [Rd]; exact ⟨_, rfl⟩))
theorem e_bool {b : Bool} {kd pos} : Evals c k F (.Constant (.bool b) kd pos) (.bool b) := fun _ s _ _ _ h => Constant_bool (h _ _ (Ext.refl _) (by simp only [Rd]))
theorem e_none {kd pos} : Evals c k F (.Constant .none kd pos) .none := fun _ s _ _ _ h => Constant_none (h _ _ (Ext.refl _) (by simp only [Rd]))

theorem loadVar {M : Model} {A : Around} {E : Value → Shared → Prop} {s : Shared} {env : Env} {m : Str → Option Value} {x : Str} {v : Value} {Q : Value → Shared → Prop} (hk : env.scope.kind = .function) (hn : s.heap.Ns env.locals m)
    (a : VarAt s.heap env m x v) (h : Q v s) : wpAny M A (loadName env x) Q E s := by
  rcases a with ⟨a, b⟩ | ⟨a, c, b, d⟩ | ⟨a, q, c, b, d⟩
  · exact wpAny_loadName_local hk a hn b h
  · exact wpAny_loadName_cell hk a b d h
  · exact wpAny_loadName_free hk a b d h q

theorem e_var (i : Nat) {x : Str} {pos : Pos} {p : PV} (h1 : F.names[i]? = some x) (h2 : F.rho[i]? = some (some p)) (hd : (x == ("__debug__" : Str)) = false) : Evals c k F (.Name x pos) p := by
  intro A s _ r Q h
  obtain ⟨m, hn, hv⟩ := r.vars
  obtain ⟨v, a, b⟩ := hv i x p h1 h2
  exact wpAny_Name (loadVar r.env.kind hn a (h v s (Ext.refl s) b)) hd

theorem e_glob {x : Str} {pos : Pos} {v : Value} (h1 : F.env.kindOf x = some .globalImplicit) (h2 : c.mg x = some v) (hd : (x == ("__debug__" : Str)) = false) : Evals c k F (.Name x pos) (.val v) := by
  intro A s _ r Q h
  exact Calls.Name_function_global r.env.kind h1 (Calls.loadGlobal_global (by rw [r.env.glob]; exact r.base.g) h2 (h v s (Ext.refl s) (by simp only [Rd]))) hd
theorem e_globP {x : Str} {pos : Pos} {p : PV} (h1 : F.env.kindOf x = some .globalImplicit) (h2 : ∃ v, c.mg x = some v ∧ ∀ (X : List Addr) (s : Shared), c.K.In s.heap → (∀ a ∈ X, c.K.lookup a = none) → Rd c.lo X s p v) (hd : (x == ("__debug__" : Str)) = false) : Evals c k F (.Name x pos) p := by
  intro A s _ r Q h
  obtain ⟨v, h2, h3⟩ := h2
  exact Calls.Name_function_global r.env.kind h1 (Calls.loadGlobal_global (by rw [r.env.glob]; exact r.base.g) h2 (h v s (Ext.refl s) (h3 _ _ r.base.k fun a m => (r.xok.out a m).2))) hd
theorem e_bui {x : Str} {pos : Pos} {v : Value} (h1 : F.env.kindOf x = some .globalImplicit) (h2 : c.mg x = none) (h3 : bootBuiltins x = some v) (h4 : x ≠ "__name__") (hd : (x == ("__debug__" : Str)) = false) : Evals c k F (.Name x pos) (.val v) := by
  intro A s _ r Q h
  obtain ⟨mb, hb, hv⟩ := r.base.b
  exact Calls.Name_function_global r.env.kind h1 (Calls.loadGlobal_builtin (by rw [r.env.glob]; exact r.base.g) h2 (by rw [r.env.bui]; exact hb) ((hv x h4).trans h3) (h v s (Ext.refl s) (by simp only [Rd]))) hd

theorem e_bin {l r : Expr} {op : Operator} {pos : Pos} {p q z : PV} (h1 : Evals c k F l p) (h2 : Evals c k F r q) (h3 : Op2 c k (binaryOp op) p q z) : Evals c k F (.BinOp l op r pos) z := by
  intro A s R r Q h
  refine wpAny_BinOp (h1 A s R r _ fun a s₁ e₁ ra => h2 A s₁ R (r.ext e₁) _ fun b s₂ e₂ rb => ?_)
  exact (h3 A F.X s₂ a b R ((r.base.ext e₁).ext e₂) ((r.xok.ext e₁).ext e₂) (ra.ext e₂) rb).mono (e₁.trans e₂) h

theorem e_cmp {l r : Expr} {op : CmpOp} {pos : Pos} {p q z : PV} (h1 : Evals c k F l p) (h2 : Evals c k F r q) (h3 : Op2 c k (compareOp op) p q z) (hm : behindInMarks op r = false) : Evals c k F (.Compare l [op] [r] pos) z := by
  intro A s R r Q h
  refine wpAny_Compare1 (h1 A s R r _ fun a s₁ e₁ ra => h2 A s₁ R (r.ext e₁) _ fun b s₂ e₂ rb => ?_) hm
  exact (h3 A F.X s₂ a b R ((r.base.ext e₁).ext e₂) ((r.xok.ext e₁).ext e₂) (ra.ext e₂) rb).mono (e₁.trans e₂) h

theorem t_cmp {l r : Expr} {op : CmpOp} {pos : Pos} {p q : PV} {b : Bool} (h1 : Evals c k F l p) (h2 : Evals c k F r q) (h3 : Op2 c k (compareOp op) p q (.bool b)) (hm : behindInMarks op r = false) : Tests c k F (.Compare l [op] [r] pos) b := by
  intro A s R r Q h
  refine wpAny_isTrue_Compare1 (h1 A s R r _ fun a s₁ e₁ ra => h2 A s₁ R (r.ext e₁) _ fun b s₂ e₂ rb => ?_) hm
  refine (h3 A F.X s₂ a b R ((r.base.ext e₁).ext e₂) ((r.xok.ext e₁).ext e₂) (ra.ext e₂) rb).mono (e₁.trans e₂) fun v s₃ e₃ rv => ?_
  simp only [Rd] at rv
  subst rv
  exact wpAny_truthy_bool (h s₃ e₃)

theorem t_not {x : Expr} {pos : Pos} {b : Bool} (h1 : Tests c k F x b) : Tests c k F (.UnaryOp .Not x pos) (!b) :=
  fun A s R r _ h => isTrue_not (h1 A s R r _ fun s' e => h s' e)
theorem t_plain {e : Expr} {p : PV} {b : Bool} (h1 : Evals c k F e p) (h2 : Truth c p b) (he : ∀ whole, isTrue e F.env whole = (do let v ← whole; standAt e.pos; holding [v] (truthy v))) : Tests c k F e b := by
  intro A s R r Q h
  exact isTrue_plain (h1 A s R r _ fun v s₁ e₁ rv => h2 A F.X s₁ v (R.less (Nat.zero_le _)) (r.base.ext e₁) (r.xok.ext e₁) rv Q fun s₂ e₂ => h s₂ (e₁.trans e₂)) (he _)
theorem t_and_nil {pos : Pos} : Tests c k F (.BoolOp .And [] pos) true := fun _ s _ _ _ h => isTrue_and_nil (h s (Ext.refl s))
theorem t_or_nil {pos : Pos} : Tests c k F (.BoolOp .Or [] pos) false := fun _ s _ _ _ h => isTrue_or_nil (h s (Ext.refl s))
theorem t_and {x : Expr} {rest : List Expr} {pos : Pos} {a b : Bool} (h1 : Tests c k F x a) (h2 : a = true → Tests c k F (.BoolOp .And rest pos) b) : Tests c k F (.BoolOp .And (x :: rest) pos) (a && b) := by
  intro A s R r Q h
  refine isTrue_and (h1 A s R r _ fun s' e => ?_)
  cases a with
  | false => exact h s' e
  | true => exact h2 rfl A s' R (r.ext e) Q fun s'' e' => h s'' (e.trans e')
theorem t_or {x : Expr} {rest : List Expr} {pos : Pos} {a b : Bool} (h1 : Tests c k F x a) (h2 : a = false → Tests c k F (.BoolOp .Or rest pos) b) : Tests c k F (.BoolOp .Or (x :: rest) pos) (a || b) := by
  intro A s R r Q h
  refine isTrue_or (h1 A s R r _ fun s' e => ?_)
  cases a with
  | true => exact h s' e
  | false => exact h2 rfl A s' R (r.ext e) Q fun s'' e' => h s'' (e.trans e')
theorem t_ite {t x y : Expr} {pos : Pos} {a b : Bool} (h1 : Tests c k F t a) (h2 : a = true → Tests c k F x b) (h3 : a = false → Tests c k F y b) : Tests c k F (.IfExp t x y pos) b := by
  intro A s R r Q h
  refine isTrue_IfExp (h1 A s R r _ fun s' e => ?_)
  cases a with
  | true => exact h2 rfl A s' R (r.ext e) Q fun s'' e' => h s'' (e.trans e')
  | false => exact h3 rfl A s' R (r.ext e) Q fun s'' e' => h s'' (e.trans e')
theorem e_ite {t x y : Expr} {pos : Pos} {a : Bool} {p : PV} (h1 : Tests c k F t a) (h2 : a = true → Evals c k F x p) (h3 : a = false → Evals c k F y p) : Evals c k F (.IfExp t x y pos) p := by
  intro A s R r Q h
  refine IfExp_ (h1 A s R r _ fun s' e => ?_)
  cases a with
  | true => exact (h2 rfl A s' R (r.ext e)).mono e h
  | false => exact (h3 rfl A s' R (r.ext e)).mono e h
theorem e_and1 {op : BoolOp} {x : Expr} {pos : Pos} {p : PV} (h1 : Evals c k F x p) : Evals c k F (.BoolOp op [x] pos) p := fun A s R r _ h => BoolOp_one (h1 A s R r _ h)
/-- and over bools -/
theorem e_and {x y : Expr} {rest : List Expr} {pos : Pos} {a b : Bool} (h1 : Evals c k F x (.bool a)) (h2 : a = true → Evals c k F (.BoolOp .And (y :: rest) pos) (.bool b)) : Evals c k F (.BoolOp .And (x :: y :: rest) pos) (.bool (a && b)) := by
  intro A s R r Q h
  refine BoolOp_and (h1 A s R r _ fun v s₁ e₁ rv => ?_)
  simp only [Rd] at rv
  subst rv
  refine wpAny_truthy_bool ?_
  cases a with
  | false => exact h _ s₁ e₁ (by simp only [Rd, Bool.false_and])
  | true => exact (h2 rfl A s₁ R (r.ext e₁)).mono e₁ h

theorem l_nil : EvalsL c k F [] [] := fun _ s _ _ _ _ h => spliced_none (h [] s (Ext.refl s) Rds.nil)
theorem l_cons {e : Expr} {es : List Expr} {p : PV} {ps : List PV} (h1 : Evals c k F e p) (h2 : EvalsL c k F es ps) (he : starEach (e :: es) F.env = (false, eval e F.env) :: starEach es F.env) : EvalsL c k F (e :: es) (p :: ps) := by
  intro A s pos R r Q h
  refine spliced_more (h1 A s R r _ fun v s₁ e₁ rv => ?_) he
  exact h2 A s₁ pos R (r.ext e₁) _ fun vs s₂ e₂ rvs => h (v :: vs) s₂ (e₁.trans e₂) (Rds.cons (rv.ext e₂) rvs)

theorem newTuple_does {A : Around} {X : List Addr} {s : Shared} {vs : List Value} {ps : List PV} (x : XOk c.lo c.K X s) (r : Rds c.lo X s ps vs) (hsz : ps.length ≤ sizeLine) : Does c.lo c.M A X s (newTuple vs) (.tup ps) := by
  intro Q h
  refine wpAny_newObj_type (h _ _ Ext.push ?_) (by show vs.toArray.size ≤ sizeLine; rw [List.size_toArray, r.length]; exact hsz)
  simp only [Rd]
  exact ⟨_, vs, rfl, x.fresh, IsTup.new _ _, r.ext Ext.push⟩
theorem newList_does {A : Around} {X : List Addr} {s : Shared} {vs : List Value} {ps : List PV} (x : XOk c.lo c.K X s) (r : Rds c.lo X s ps vs) (hsz : ps.length ≤ sizeLine) : Does c.lo c.M A X s (newList vs) (.lst ps) := by
  intro Q h
  refine wpAny_newObj_type (h _ _ Ext.push ?_) (by show vs.toArray.size ≤ sizeLine; rw [List.size_toArray, r.length]; exact hsz)
  simp only [Rd]
  exact ⟨_, vs, rfl, x.fresh, ⟨_, Heap.get?_push_size _ rfl, rfl, _, rfl⟩, r.ext Ext.push⟩
theorem e_tup {es : List Expr} {kd : Nat} {pos : Pos} {ps : List PV} (h1 : EvalsL c k F es ps) (hsz : ps.length ≤ sizeLine) : Evals c k F (.Tuple es kd pos) (.tup ps) := by
  intro A s R r Q h
  refine Tuple_ (h1 A s pos R r _ fun vs s₁ e₁ rvs => ?_)
  exact (newTuple_does (r.xok.ext e₁) rvs hsz).mono e₁ h
theorem e_lst {es : List Expr} {pos : Pos} {ps : List PV} (h1 : EvalsL c k F es ps) (hsz : ps.length ≤ sizeLine) : Evals c k F (.List es pos) (.lst ps) := by
  intro A s R r Q h
  refine List_ (h1 A s pos R r _ fun vs s₁ e₁ rvs => ?_)
  exact (newList_does (r.xok.ext e₁) rvs hsz).mono e₁ h

-- subscripts
theorem e_sub {v i : Expr} {pos : Pos} {p q z : PV} (h1 : Evals c k F v p) (h2 : Evals c k F i q) (h3 : Op2 c k (subscriptTail v i) p q z) : Evals c k F (.Subscript v i pos) z := by
  intro A s R r Q h
  refine Subscript_ (h1 A s R r _ fun a s₁ e₁ ra => h2 A s₁ R (r.ext e₁) _ fun b s₂ e₂ rb => ?_)
  exact (h3 A F.X s₂ a b R ((r.base.ext e₁).ext e₂) ((r.xok.ext e₁).ext e₂) (ra.ext e₂) rb).mono (e₁.trans e₂) h

-- calls of a plain name
/-- what callWith hands on for these callees -/
noncomputable def Callee (c : Cx) (f : Value) : Prop :=
  (∃ id, f = .builtin id) ∨ (∃ T, f = .type T) ∨ (∃ a o fd, f = .ref a ∧ c.K.lookup a = some o ∧ o.data = .func fd)

theorem evalArgs_of {f : Value} {A : Around} {s : Shared} {args : List Expr} {pos : Pos} {Q : Args → Shared → Prop} {E : Value → Shared → Prop} (hne : args ≠ [] → ∃ e r, args = e :: r ∧ starEach (e :: r) F.env = (false, eval e F.env) :: starEach r F.env)
    (h : wpAny c.M A (spliced (backTo pos (starEach args F.env))) (fun vs s' => Q ⟨vs, []⟩ s') E s) : wpAny c.M A (evalArgs f true (backTo pos (starEach args F.env)) []) Q E s := by
  cases args with
  | nil =>
    unfold evalArgs
    show wpAny c.M A (spliced [] >>= _) Q E s
    refine wpAny_bind (wpAny_mono h (fun vs s' h' => ?_) fun _ _ x => x)
    refine wpAny_holding ?_
    exact wpAny_bind (wpAny_pure (wpAny_bind (wpAny_pure (wpAny_pure h'))))
  | cons e r =>
    obtain ⟨e', r', q, hs⟩ := hne (by simp)
    cases q
    rw [hs] at h ⊢
    exact Calls.evalArgs_plain h

theorem any_backTo (pos : Pos) (l : List (Bool × Sem Value)) : (backTo pos l).any (·.1) = l.any (·.1) := by
  unfold backTo
  rw [List.any_map]
  rfl

theorem callWith_any {f : Value} {A : Around} {s : Shared} {args : List Expr} {pos : Pos} {first : List Value} {Q : Value → Shared → Prop} {E : Value → Shared → Prop} (hf : Callee c f) (hK : c.K.In s.heap)
    (hne : args ≠ [] → ∃ e r, args = e :: r ∧ starEach (e :: r) F.env = (false, eval e F.env) :: starEach r F.env) (hpl : (starEach args F.env).any (·.1) = false)
    (h : wpAny c.M A (spliced (backTo pos (starEach args F.env))) (fun vs s' => Keep s.heap s'.heap ∧ wpAny c.M A (call f (first ++ vs)) Q E s') E s) : wpAny c.M A (callWith pos f first (backTo pos (starEach args F.env)) []) Q E s := by
  have hpl' : (backTo pos (starEach args F.env)).any (·.1) = false := (any_backTo _ _).trans hpl
  rcases hf with ⟨id, rfl⟩ | ⟨T, rfl⟩ | ⟨a, o, fd, rfl, ho, hd⟩
  · exact Calls.callWith_builtin hpl' (evalArgs_of hne (wpAny_mono h (fun _ _ x => x.2) fun _ _ x => x))
  · exact PySem.callWith_type hpl' (evalArgs_of hne (wpAny_mono h (fun _ _ x => x.2) fun _ _ x => x))
  · exact Calls.callWith_function (o := o) (fd := fd) (evalArgs_of hne (wpAny_mono h (fun _ s' x => ⟨⟨x.1 _ _ (hK _ _ ho), hd⟩, x.2⟩) fun _ _ x => x))

theorem e_call {fe : Expr} {f : Value} {args : List Expr} {pos : Pos} {ps : List PV} {z : PV} (h0 : Evals c k F fe (.val f)) (hf : Callee c f) (h1 : EvalsL c k F args ps) (h2 : OpN c k (fun vs => call f vs) ps z)
    (hattr : eval (.Call fe args [] pos) F.env = (do callWith pos (← eval fe F.env) [] (backTo pos (starEach args F.env)) []))
    (hne : args ≠ [] → ∃ e r, args = e :: r ∧ starEach (e :: r) F.env = (false, eval e F.env) :: starEach r F.env) (hpl : (starEach args F.env).any (·.1) = false) :
    Evals c k F (.Call fe args [] pos) z := by
  intro A s R r Q h
  rw [hattr]
  refine wpAny_bind (h0 A s R r _ fun v s₁ e₁ rv => ?_)
  simp only [Rd] at rv
  subst rv
  refine callWith_any hf (r.base.ext e₁).k hne hpl ?_
  refine h1 A s₁ pos R (r.ext e₁) _ fun vs s₂ e₂ rvs => ⟨e₂.keep, ?_⟩
  exact (h2 A F.X s₂ vs R ((r.base.ext e₁).ext e₂) ((r.xok.ext e₁).ext e₂) rvs).mono (e₁.trans e₂) h
end

end Mine
namespace Mine
open PySem PySem.W PyProof.Rows

/-- objects that a value may be read from -/
noncomputable def GoodObj (o : Obj) : Prop := (∃ xs n, o.data = .seq xs n) ∨ o = { cls := .type "builtin_function_or_method", data := .fields (match o.data with | .fields vs => vs | _ => #[]) }
noncomputable abbrev KeepD (X : List Addr) (h h' : Heap) : Prop := ∀ b o, b ∉ X → GoodObj o → h.get? b = some o → h'.get? b = some o

theorem good_seq {o : Obj} {xs n} (h : o.data = .seq xs n) : GoodObj o := .inl ⟨xs, n, h⟩
theorem good_meth {vs : Array Value} : GoodObj { cls := .type "builtin_function_or_method", data := .fields vs } := .inr rfl
theorem not_good_dict {o : Obj} {es n} (h : o.data = .dict es n) : ¬ GoodObj o := by
  rintro (⟨xs, n', e⟩ | e)
  · rw [h] at e; cases e
  · have := congrArg Obj.data e; rw [h] at this; cases this
theorem not_good_cell {o : Obj} {v} (h : o.data = .cell v) : ¬ GoodObj o := by
  rintro (⟨xs, n', e⟩ | e)
  · rw [h] at e; cases e
  · have := congrArg Obj.data e; rw [h] at this; cases this
theorem not_good_fields {o : Obj} {vs} {T : String} (h : o.data = .fields vs) (hc : o.cls = .type T) (hT : T ≠ "builtin_function_or_method") : ¬ GoodObj o := by
  rintro (⟨xs, n', e⟩ | e)
  · rw [h] at e; cases e
  · have := congrArg Obj.cls e; rw [hc] at this; injection this with q; exact hT q

mutual
theorem Rd.keepD {lo : Nat} {X : List Addr} {s s' : Shared} (k : KeepD X s.heap s'.heap) (le : s.toks ≤ s'.toks) : ∀ {p : PV} {v : Value}, Rd lo X s p v → Rd lo X s' p v
  | .none, _, r => by simpa only [Rd] using r
  | .bool _, _, r => by simpa only [Rd] using r
  | .int _, _, r => by simpa only [Rd] using r
  | .flt _, _, r => by
    simp only [Rd] at r ⊢
    obtain ⟨t, h0, h1, h2, e⟩ := r
    exact ⟨t, h0, h1, Nat.lt_of_lt_of_le h2 le, e⟩
  | .str _, _, r => by simpa only [Rd] using r
  | .tup l, v, r => by
    simp only [Rd] at r ⊢
    obtain ⟨a, vs, e, hx, ⟨o, ho, q, n, hd⟩, hr⟩ := r
    exact ⟨a, vs, e, hx, ⟨o, k a o hx (good_seq hd) ho, q, n, hd⟩, Rds.keepD k le hr⟩
  | .lst l, v, r => by
    simp only [Rd] at r ⊢
    obtain ⟨a, vs, e, hx, ⟨o, ho, q, n, hd⟩, hr⟩ := r
    exact ⟨a, vs, e, hx, ⟨o, k a o hx (good_seq hd) ho, q, n, hd⟩, Rds.keepD k le hr⟩
  | .val _, _, r => by simpa only [Rd] using r
  | .app l, v, r => by
    simp only [Rd] at r ⊢
    obtain ⟨q, e, hx, ho⟩ := r
    exact ⟨q, e, hx, k q _ hx good_meth ho⟩
  | .gfl _, _, r => by simpa only [Rd] using r
  | .fltB _ _ _, _, r => by simpa only [Rd] using r
  | .lsa a l, v, r => by
    simp only [Rd] at r ⊢
    obtain ⟨vs, e, hx, ⟨o, ho, q, n, hd⟩, hr⟩ := r
    exact ⟨vs, e, hx, ⟨o, k a o hx (good_seq hd) ho, q, n, hd⟩, Rds.keepD k le hr⟩
theorem Rds.keepD {lo : Nat} {X : List Addr} {s s' : Shared} (k : KeepD X s.heap s'.heap) (le : s.toks ≤ s'.toks) : ∀ {ps : List PV} {vs : List Value}, Rds lo X s ps vs → Rds lo X s' ps vs
  | [], _, r => by simpa only [Rds] using r
  | p :: ps, vs, r => by
    simp only [Rds] at r ⊢
    obtain ⟨v, r', e, h1, h2⟩ := r
    exact ⟨v, r', e, Rd.keepD k le h1, Rds.keepD k le h2⟩
end

theorem Rd.keepDh {lo : Nat} {X : List Addr} {s : Shared} {h' : Heap} (k : KeepD X s.heap h') {p : PV} {v : Value} (r : Rd lo X s p v) : Rd lo X { s with heap := h' } p v := Rd.keepD (s' := { s with heap := h' }) k (Nat.le_refl s.toks) r
theorem Rds.keepDh {lo : Nat} {X : List Addr} {s : Shared} {h' : Heap} (k : KeepD X s.heap h') {p : List PV} {v : List Value} (r : Rds lo X s p v) : Rds lo X { s with heap := h' } p v := Rds.keepD (s' := { s with heap := h' }) k (Nat.le_refl s.toks) r

noncomputable def Frm.at (F : Frm) (rho : List (Option PV)) (own : Option (Addr × List PV)) : Frm := { F with rho := rho, own := own }

/-- what a statement may do -/
structure Step (env : Env) (w w' : Option (Addr × List PV)) (s s' : Shared) : Prop where
  os : s'.os = s.os
  gens : ∀ (g : Nat) (x : GenState), s.gens[g]? = some x → s'.gens[g]? = some x
  bare : AllBare s.gens → AllBare s'.gens
  le : s.toks ≤ s'.toks
  keep : ∀ b o, b ≠ env.locals → (∀ x, env.cells.lookup x ≠ some b) → (∀ a l, w = some (a, l) → b ≠ a) → s.heap.get? b = some o → s'.heap.get? b = some o
  own : ∀ a l, w' = some (a, l) → (∃ l₀, w = some (a, l₀)) ∨ s.heap.get? a = none
  dom : ∀ b o, s.heap.get? b = some o → ∃ o', s'.heap.get? b = some o'
theorem Step.refl {env : Env} {w} (s : Shared) : Step env w w s s := ⟨rfl, fun _ _ e => e, id, Nat.le_refl _, fun _ _ _ _ _ e => e, fun a l e => .inl ⟨l, e⟩, fun b o e => ⟨o, e⟩⟩
theorem Step.trans {env : Env} {w w' w''} {a b d : Shared} (x : Step env w w' a b) (y : Step env w' w'' b d) : Step env w w'' a d where
  os := y.os.trans x.os
  gens := fun g z e => y.gens g z (x.gens g z e)
  bare := fun h => y.bare (x.bare h)
  le := Nat.le_trans x.le y.le
  keep := fun q o h1 h2 h3 e => y.keep q o h1 h2 (fun a' l' hw => by
    rcases x.own a' l' hw with ⟨l₀, h⟩ | h
    · exact h3 a' l₀ h
    · rintro rfl; rw [h] at e; cases e) (x.keep q o h1 h2 h3 e)
  own := fun a' l' hw => by
    rcases y.own a' l' hw with ⟨l₀, h⟩ | h
    · exact x.own a' l₀ h
    · refine .inr ?_
      cases q : a.heap.get? a' with
      | none => rfl
      | some o => obtain ⟨o', h'⟩ := x.dom a' o q; rw [h] at h'; cases h'
  dom := fun q o e => let ⟨o', h⟩ := x.dom q o e; y.dom q o' h
theorem Ext.s {env : Env} {w} {s s' : Shared} (e : Ext s s') : Step env w w s s' := ⟨e.os, e.gens, e.bare, e.le, fun b o _ _ _ q => e.keep b o q, fun a l q => .inl ⟨l, q⟩, fun b o q => ⟨o, e.keep b o q⟩⟩
theorem Step.done {env : Env} {w w'} {s s' : Shared} (x : Step env w w' s s') : Step env w none s s' := ⟨x.os, x.gens, x.bare, x.le, x.keep, fun _ _ h => (nomatch h), x.dom⟩

structure FrmSt (F : Frm) : Prop where
  nodup : F.names.Nodup
  locals : F.hE.get? F.env.locals = none
  cells : ∀ x a, F.env.cells.lookup x = some a → F.hE.get? a = none
theorem FrmSt.at {F : Frm} {r o} (S : FrmSt F) : FrmSt (F.at r o) := ⟨S.nodup, S.locals, S.cells⟩

noncomputable def Slot (F : Frm) (i : Nat) (x : Str) : Prop := F.names[i]? = some x ∧ (F.env.kindOf x = some .local ∨ (F.env.kindOf x = some .cell ∧ (F.env.cells.lookup x).isSome = true))

section
variable {c : Cx} {k : Nat} {F : Frm} {A : Around} {s : Shared}

theorem keepD_dict {h h' : Heap} {L : Addr} {m : Str → Option Value} {X : List Addr} (hn : h.Ns L m) (hs : Heap.SameBut L h h') : KeepD X h h' := by
  intro b o _ nv e
  obtain ⟨oL, es, ep, hL, hd, _⟩ := hn
  refine (hs.2 b ?_).trans e
  rintro rfl
  rw [hL] at e; cases e
  exact not_good_dict hd nv
theorem keepD_cell {h h' : Heap} {L : Addr} {v : Option Value} {X : List Addr} (hn : h.IsCell L v) (hs : Heap.SameBut L h h') : KeepD X h h' := by
  intro b o _ nv e
  obtain ⟨oL, hL, hd⟩ := hn
  refine (hs.2 b ?_).trans e
  rintro rfl
  rw [hL] at e; cases e
  exact not_good_cell hd nv
theorem cell_ne_dict {h : Heap} {L a : Addr} {m : Str → Option Value} {v : Option Value} (hn : h.Ns L m) (hc : h.IsCell a v) : a ≠ L := by
  rintro rfl
  obtain ⟨o, ho, hd⟩ := hc
  obtain ⟨o', es, ep, ho', hd', _⟩ := hn
  rw [ho] at ho'; cases ho'
  rw [hd] at hd'; cases hd'

theorem X_at {r o} : (F.at r o).X = Xw F.X0 o := rfl

theorem store_any {i : Nat} {x : Str} {p : PV} {v : Value} {Q : Unit → Shared → Prop} {E : Value → Shared → Prop} (Snodup : F.names.Nodup) (Slocals : F.hE.get? F.env.locals = none) (Scells : ∀ a, F.env.cells.lookup x = some a → F.hE.get? a = none) (sl : Slot F i x) (r : Rel c F s) (rv : Rd c.lo F.X s p v)
    (h : ∀ s', Step F.env F.own F.own s s' → Rel c (F.at (F.rho.set i (some p)) F.own) s' → Q () s') : wpAny c.M A (storeName F.env x v) Q E s := by
  obtain ⟨hx, hk⟩ := sl
  obtain ⟨m, hn, hv⟩ := r.vars
  have nd : ∀ {j : Nat} {y : Str}, F.names[j]? = some y → j ≠ i → y ≠ x := by
    intro j y hj hne e
    subst e
    have h1 := (List.getElem?_eq_some_iff.mp hj)
    have h2 := (List.getElem?_eq_some_iff.mp hx)
    obtain ⟨l1, e1⟩ := h1
    obtain ⟨l2, e2⟩ := h2
    exact hne ((List.getElem_inj Snodup).mp (e1.trans e2.symm))
  rcases hk with hk | ⟨hk, hc⟩
  · refine wpAny_storeName_local hk hn (fun h' hn' hs => ?_) (by rw [r.env.kind]; rfl)
    have kd : ∀ {X}, KeepD X s.heap h' := keepD_dict hn hs
    have domL : ∀ b o, s.heap.get? b = some o → ∃ o', h'.get? b = some o' := fun b o e => by
      by_cases hb : b = F.env.locals
      · subst hb; obtain ⟨o', _, _, ho', _⟩ := hn'; exact ⟨o', ho'⟩
      · exact ⟨o, (hs.2 b hb).trans e⟩
    refine h _ ⟨rfl, fun _ _ e => e, id, Nat.le_succ _, fun b o h1 _ _ e => (hs.2 b h1).trans e, fun a l e => .inl ⟨l, e⟩, domL⟩ ⟨r.baseE, fun b o e => ?_, r.env, ⟨_, hn', fun j y q h1 h2 => ?_⟩, fun a l e => ?_, fun y a e => ?_, ?_, ⟨r.good.1, Nat.lt_succ_of_lt r.good.2⟩, Nat.le_succ_of_le r.low⟩
    · refine (hs.2 b ?_).trans (r.keep b o e)
      rintro rfl
      rw [show (F.at (F.rho.set i (some p)) F.own).hE = F.hE from rfl, Slocals] at e; cases e
    · have h1' : F.names[j]? = some y := h1
      have h2' : (F.rho.set i (some p))[j]? = some (some q) := h2
      by_cases hj : j = i
      · subst hj
        rw [hx] at h1'; cases h1'
        rw [List.getElem?_set_self'] at h2'
        cases hr : F.rho[j]? with
        | none => rw [hr] at h2'; cases h2'
        | some z =>
          rw [hr] at h2'; cases h2'
          exact ⟨v, .inl ⟨hk, by simp⟩, Rd.keepD kd (Nat.le_succ _) rv⟩
      · rw [List.getElem?_set_ne (Ne.symm hj)] at h2'
        obtain ⟨u, hu, ru⟩ := hv j y q h1' h2'
        refine ⟨u, ?_, Rd.keepD kd (Nat.le_succ _) ru⟩
        have hne := nd h1' hj
        rcases hu with ⟨a1, a2⟩ | ⟨a1, ca, a2, a3⟩ | ⟨a1, a0, ca, a2, a3⟩
        · exact .inl ⟨a1, by simp [hne, a2]⟩
        · exact .inr (.inl ⟨a1, ca, a2, a3.sameBut hs (cell_ne_dict hn a3)⟩)
        · exact .inr (.inr ⟨a1, a0, ca, a2, a3.sameBut hs (cell_ne_dict hn a3)⟩)
    · obtain ⟨vs, ⟨o, ho, hcl, hpl, n, hd⟩, h2, h3⟩ := r.own a l e
      refine ⟨vs, ⟨o, (hs.2 a ?_).trans ho, hcl, hpl, n, hd⟩, Rds.keepD kd (Nat.le_succ _) h2, h3⟩
      rintro rfl
      obtain ⟨o', es, ep, ho', hd', _⟩ := hn
      rw [ho] at ho'; cases ho'
      rw [hd] at hd'; cases hd'
    · obtain ⟨u, hu⟩ := r.cells y a e
      exact ⟨u, hu.sameBut hs (cell_ne_dict hn hu)⟩
    · exact r.x0
  · obtain ⟨ca, hca⟩ := Option.isSome_iff_exists.mp hc
    obtain ⟨v₀, hv₀⟩ := r.cells x ca hca
    refine wpAny_storeName_cell r.env.kind hk hca hv₀ fun h' hv' hs => ?_
    have kd : ∀ {X}, KeepD X s.heap h' := keepD_cell hv₀ hs
    have domC : ∀ b o, s.heap.get? b = some o → ∃ o', h'.get? b = some o' := fun b o e => by
      by_cases hb : b = ca
      · subst hb; obtain ⟨o', ho', _⟩ := hv'; exact ⟨o', ho'⟩
      · exact ⟨o, (hs.2 b hb).trans e⟩
    have nL : F.env.locals ≠ ca := (cell_ne_dict hn hv₀).symm
    refine h _ ⟨rfl, fun _ _ e => e, id, Nat.le_refl _, fun b o _ h2 _ e => (hs.2 b (fun q => h2 x (q ▸ hca))).trans e, fun a l e => .inl ⟨l, e⟩, domC⟩ ⟨r.baseE, fun b o e => ?_, r.env, ⟨m, hn.sameBut hs nL, fun j y q h1 h2 => ?_⟩, fun a l e => ?_, fun y a e => ?_, ?_, r.good, r.low⟩
    · refine (hs.2 b ?_).trans (r.keep b o e)
      rintro rfl
      rw [show (F.at (F.rho.set i (some p)) F.own).hE = F.hE from rfl, Scells _ hca] at e; cases e
    · have h1' : F.names[j]? = some y := h1
      have h2' : (F.rho.set i (some p))[j]? = some (some q) := h2
      by_cases hj : j = i
      · subst hj
        rw [hx] at h1'; cases h1'
        rw [List.getElem?_set_self'] at h2'
        cases hr : F.rho[j]? with
        | none => rw [hr] at h2'; cases h2'
        | some z =>
          rw [hr] at h2'; cases h2'
          exact ⟨v, .inr (.inl ⟨hk, ca, hca, hv'⟩), Rd.keepDh kd rv⟩
      · rw [List.getElem?_set_ne (Ne.symm hj)] at h2'
        obtain ⟨u, hu, ru⟩ := hv j y q h1' h2'
        refine ⟨u, ?_, Rd.keepDh kd ru⟩
        have hne := nd h1' hj
        have nc : ∀ cb, F.env.cells.lookup y = some cb → cb ≠ ca := by
          rintro cb hcb rfl
          exact hne (r.env.apart _ _ _ hcb hca)
        rcases hu with ⟨a1, a2⟩ | ⟨a1, cb, a2, a3⟩ | ⟨a1, a0, cb, a2, a3⟩
        · exact .inl ⟨a1, a2⟩
        · exact .inr (.inl ⟨a1, cb, a2, a3.sameBut hs (nc _ a2)⟩)
        · exact .inr (.inr ⟨a1, a0, cb, a2, a3.sameBut hs (nc _ a2)⟩)
    · obtain ⟨vs, ⟨o, ho, hcl, hpl, n, hd⟩, h2, h3⟩ := r.own a l e
      refine ⟨vs, ⟨o, (hs.2 a ?_).trans ho, hcl, hpl, n, hd⟩, Rds.keepDh kd h2, h3⟩
      rintro rfl
      obtain ⟨o', ho', hd'⟩ := hv₀
      rw [ho] at ho'; cases ho'
      rw [hd] at hd'; cases hd'
    · by_cases hya : a = ca
      · subst hya; exact ⟨_, hv'⟩
      · obtain ⟨u, hu⟩ := r.cells y a e
        exact ⟨u, hu.sameBut hs hya⟩
    · exact r.x0

theorem store_wp {i : Nat} {x : Str} {p : PV} {v : Value} {Q : Unit → Shared → Prop} {E : Value → Shared → Prop} (S : FrmSt F) (sl : Slot F i x) (r : Rel c F s) (rv : Rd c.lo F.X s p v)
    (h : ∀ s', Step F.env F.own F.own s s' → Rel c (F.at (F.rho.set i (some p)) F.own) s' → Q () s') : wpAny c.M A (storeName F.env x v) Q E s :=
  store_any S.nodup S.locals (fun a => S.cells x a) sl r rv h
end

inductive Out where
  | next (rho : List (Option PV)) (own : Option (Addr × List PV))
  | brk (rho : List (Option PV)) (own : Option (Addr × List PV))
  | cont (rho : List (Option PV)) (own : Option (Addr × List PV))
  | ret (p : PV) (fresh : Bool)
noncomputable def Out.own : Out → Option (Addr × List PV)
  | .next _ w => w
  | .brk _ w => w
  | .cont _ w => w
  | .ret _ _ => none

noncomputable def EndRel (c : Cx) (F : Frm) : Out → Flow → Shared → Prop
  | .next r o, f, s => f = .next ∧ Rel c (F.at r o) s
  | .brk r o, f, s => f = .brk ∧ Rel c (F.at r o) s
  | .cont r o, f, s => f = .cont ∧ Rel c (F.at r o) s
  | .ret p fr, f, s => ∃ v, f = .ret v ∧ Keep F.hE s.heap ∧ Rd c.lo F.X0 s p v ∧ (fr = true → ∃ a, v = .ref a ∧ F.hE.get? a = none)

noncomputable abbrev Ow := Option (Addr × List PV)

noncomputable def Runs (c : Cx) (k : Nat) (F : Frm) (ρ : List (Option PV)) (w : Ow) (sts : List Stmt) (P : Out → Prop) : Prop :=
  FrmSt F → ∀ A s, Room k A → Rel c (F.at ρ w) s → ∀ Q : Flow → Shared → Prop, (∀ o f s', P o → Step F.env w o.own s s' → EndRel c F o f s' → Q f s') → wpAny c.M A (execs sts F.env) Q (fun _ _ => False) s

/-- one statement -/
noncomputable def Run1 (c : Cx) (k : Nat) (F : Frm) (ρ : List (Option PV)) (w : Ow) (st : Stmt) (P : Out → Prop) : Prop :=
  FrmSt F → ∀ A s, Room k A → Rel c (F.at ρ w) s → ∀ Q : Flow → Shared → Prop, (∀ o f s', P o → Step F.env w o.own s s' → EndRel c F o f s' → Q f s') → wpAny c.M A (exec st F.env) Q (fun _ _ => False) s

noncomputable def thenP (c : Cx) (k : Nat) (F : Frm) (rest : List Stmt) (P : Out → Prop) : Out → Prop
  | .next r w => Runs c k F r w rest P
  | o => P o

inductive SetAt {α : Type} : List α → Nat → α → List α → Prop
  | head {a x : α} {l : List α} : SetAt (a :: l) 0 x (x :: l)
  | tail {a x : α} {l l' : List α} {i : Nat} : SetAt l i x l' → SetAt (a :: l) (i + 1) x (a :: l')
theorem SetAt.eq {α : Type} {l l' : List α} {i : Nat} {x : α} (h : SetAt l i x l') : l' = l.set i x := by
  induction h with
  | head => rfl
  | tail _ ih => rw [List.set_cons_succ, ih]

section
variable {c : Cx} {k : Nat} {F : Frm} {ρ : List (Option PV)} {w : Ow}

theorem Runs.mono {sts : List Stmt} {P P' : Out → Prop} (h : Runs c k F ρ w sts P) (hp : ∀ o, P o → P' o) : Runs c k F ρ w sts P' :=
  fun S A s R r Q hq => h S A s R r Q fun o f s' p e q => hq o f s' (hp o p) e q
theorem r_nil {P : Out → Prop} (h : P (.next ρ w)) : Runs c k F ρ w [] P :=
  fun _ _ s _ r _ hq => wpAny_execs_nil (hq _ _ s h (Step.refl s) ⟨rfl, r⟩)

theorem r_cons {st : Stmt} {rest : List Stmt} {P : Out → Prop} (h1 : Run1 c k F ρ w st (thenP c k F rest P)) : Runs c k F ρ w (st :: rest) P := by
  intro S A s R r Q hq
  refine wpAny_execs_cons (h1 S A s R r _ fun o f s' p e q => ?_)
  cases o with
  | next r' w' =>
    obtain ⟨rfl, rel⟩ := q
    exact p S A s' R rel Q fun o' f' s'' p' e' q' => hq o' f' s'' p' (e.trans e') q'
  | brk r' w' => obtain ⟨rfl, rel⟩ := q; exact hq _ _ s' p e ⟨rfl, rel⟩
  | cont r' w' => obtain ⟨rfl, rel⟩ := q; exact hq _ _ s' p e ⟨rfl, rel⟩
  | ret p' fr => obtain ⟨v, rfl, rel⟩ := q; exact hq _ _ s' p e ⟨v, rfl, rel⟩

theorem X0_sub (F : Frm) {ρ : List (Option PV)} (w : Ow) : ∀ a, a ∈ F.X0 → a ∈ (F.at ρ w).X := fun a m => by
  show a ∈ Xw F.X0 w
  cases w with
  | none => exact m
  | some p => exact List.mem_cons_of_mem _ m
theorem Slot.at {i : Nat} {x : Str} (s : Slot F i x) : Slot (F.at ρ w) i x := s

-- x = e
theorem r_assign (i : Nat) {x : Str} {px pos : Pos} {e : Expr} {rest : List Stmt} {p : PV} {ρ' : List (Option PV)} {P : Out → Prop}
    (h1 : Evals c k (F.at ρ w) e p) (sl : Slot F i x) (hs : SetAt ρ i (some p) ρ') (hsw : swapsWith e (some (.Name x px)) pos.line F.env = pure false)
    (hn : Runs c k F ρ' w rest P) : Runs c k F ρ w (.Assign [.Name x px] e pos :: rest) P := by
  refine r_cons fun S A s R r Q hq => ?_
  refine wpAny_Assign_Name (h1 A s R r _ fun v s₁ e₁ rv => ?_) hsw
  refine store_wp (F := F.at ρ w) S.at sl.at (r.ext e₁) rv fun s₂ e₂ r₂ => hq (.next ρ' w) _ s₂ hn (Step.trans e₁.s e₂) ⟨rfl, ?_⟩
  rw [hs.eq]; exact r₂

-- x op= e
theorem r_aug (i : Nat) {x : Str} {px pos : Pos} {op : Operator} {e : Expr} {rest : List Stmt} {p q z : PV} {ρ' : List (Option PV)} {P : Out → Prop}
    (h0 : ρ[i]? = some (some p)) (h1 : Evals c k (F.at ρ w) e q) (h2 : Op2 c k (inplaceOp op) p q z) (sl : Slot F i x) (hs : SetAt ρ i (some z) ρ')
    (hn : Runs c k F ρ' w rest P) : Runs c k F ρ w (.AugAssign (.Name x px) op e pos :: rest) P := by
  refine r_cons fun S A s R r Q hq => ?_
  obtain ⟨m, hm, hv⟩ := r.vars
  obtain ⟨u, au, ru⟩ := hv i x p sl.1 h0
  refine wpAny_AugAssign_Name (loadVar r.env.kind hm au ?_)
  refine h1 A s R r _ fun v s₁ e₁ rv => ?_
  refine h2 A (F.at ρ w).X s₁ u v R (r.ext e₁).base (r.ext e₁).xok (ru.ext e₁) rv _ fun y s₂ e₂ ry => ?_
  refine store_wp (F := F.at ρ w) S.at sl.at ((r.ext e₁).ext e₂) ry fun s₃ e₃ r₃ => hq (.next ρ' w) _ s₃ hn (Step.trans (e₁.trans e₂).s e₃) ⟨rfl, ?_⟩
  rw [hs.eq]; exact r₃

theorem r_if {test : Expr} {body orelse rest : List Stmt} {pos : Pos} {b : Bool} {P : Out → Prop} (ht : Tests c k (F.at ρ w) test b)
    (h1 : b = true → Runs c k F ρ w body (thenP c k F rest P)) (h2 : b = false → Runs c k F ρ w orelse (thenP c k F rest P)) : Runs c k F ρ w (.If test body orelse pos :: rest) P := by
  refine r_cons fun S A s R r Q hq => ?_
  refine wpAny_If (ht A s R r _ fun s₁ e₁ => ?_)
  cases b with
  | true => exact h1 rfl S A s₁ R (r.ext e₁) Q fun o f s' p e q => hq o f s' p (Step.trans e₁.s e) q
  | false => exact h2 rfl S A s₁ R (r.ext e₁) Q fun o f s' p e q => hq o f s' p (Step.trans e₁.s e) q

theorem r_ret {e : Expr} {pos : Pos} {rest : List Stmt} {p : PV} {P : Out → Prop} (h1 : Evals c k (F.at ρ w) e p) (hp : P (.ret p false)) : Runs c k F ρ w (.Return (some e) pos :: rest) P := by
  refine r_cons fun S A s R r Q hq => ?_
  refine wpAny_Return_some (h1 A s R r _ fun v s₁ e₁ rv => ?_)
  exact hq (.ret p false) _ s₁ hp (Step.done (w' := w) e₁.s) ⟨v, rfl, (r.ext e₁).keep, rv.less (X0_sub F w), fun h => by cases h⟩

/-- return of the name that holds the list being built -/
theorem r_ret_own (i : Nat) {x : Str} {px pos : Pos} {rest : List Stmt} {a : Addr} {l : List PV} {P : Out → Prop} (hx : F.names[i]? = some x) (hv : ρ[i]? = some (some (.val (.ref a)))) (hd : (x == ("__debug__" : Str)) = false)
    (hp : P (.ret (.lst l) true)) : Runs c k F ρ (some (a, l)) (.Return (some (.Name x px)) pos :: rest) P := by
  refine r_cons fun S A s R r Q hq => ?_
  refine wpAny_Return_some (e_var (F := F.at ρ (some (a, l))) i hx hv hd A s R r _ fun v s₁ e₁ rv => ?_)
  simp only [Rd] at rv
  subst rv
  obtain ⟨vs, h1, h2, h3⟩ := (r.ext e₁).own a l rfl
  refine hq (.ret (.lst l) true) _ s₁ hp (Step.done (w' := some (a, l)) e₁.s) ⟨_, rfl, (r.ext e₁).keep, ?_, fun _ => ⟨a, rfl, h3⟩⟩
  simp only [Rd]
  refine ⟨a, vs, rfl, fun m => ?_, h1.list, h2.less (X0_sub F (some (a, l)))⟩
  obtain ⟨⟨o, ho⟩, _⟩ := r.x0 a m
  rw [h3] at ho
  cases ho

theorem r_pass {pos : Pos} {rest : List Stmt} {P : Out → Prop} (hn : Runs c k F ρ w rest P) : Runs c k F ρ w (.Pass pos :: rest) P :=
  r_cons fun _ _ s _ r _ hq => wpAny_Pass (hq (.next ρ w) _ s hn (Step.refl s) ⟨rfl, r⟩)
theorem r_brk {pos : Pos} {rest : List Stmt} {P : Out → Prop} (hp : P (.brk ρ w)) : Runs c k F ρ w (.Break pos :: rest) P :=
  r_cons fun _ _ s _ r _ hq => wpAny_Break (hq (.brk ρ w) _ s hp (Step.refl s) ⟨rfl, r⟩)
theorem r_cont {pos : Pos} {rest : List Stmt} {P : Out → Prop} (hp : P (.cont ρ w)) : Runs c k F ρ w (.Continue pos :: rest) P :=
  r_cons fun _ _ s _ r _ hq => wpAny_Continue (hq (.cont ρ w) _ s hp (Step.refl s) ⟨rfl, r⟩)
end
end Mine
namespace Mine
open PySem PySem.W PyProof.Rows

theorem X_on {F : Frm} {ρ w} : (F.at ρ w).X = Xw F.X0 w := rfl

/-- what an iterator's step may do -/
structure StepW (wr : List Addr) (gw : List Nat) (s s' : Shared) : Prop where
  os : s'.os = s.os
  gens : ∀ (g : Nat) (x : GenState), g ∉ gw → s.gens[g]? = some x → s'.gens[g]? = some x
  bare : AllBare s.gens → AllBare s'.gens
  le : s.toks ≤ s'.toks
  keep : ∀ b o, b ∉ wr → s.heap.get? b = some o → s'.heap.get? b = some o

structure Iter (c : Cx) (A : Around) (X : List Addr) (it : Value) (fp wr : List Addr) (gw : List Nat) (St : List PV → Shared → Prop) : Prop where
  sub : ∀ b ∈ wr, b ∈ fp
  dom : ∀ xs s, St xs s → ∀ b ∈ fp, ∃ o, s.heap.get? b = some o ∧ (b ∈ wr → ¬ GoodObj o)
  stable : ∀ xs s s', St xs s → (∀ b ∈ fp, ∀ o, s.heap.get? b = some o → s'.heap.get? b = some o) → KeepD X s.heap s'.heap → s.toks ≤ s'.toks → (∀ g ∈ gw, ∀ x, s.gens[g]? = some x → s'.gens[g]? = some x) → St xs s'
  item : ∀ x xs s (Q : Option Value → Shared → Prop), Fine c s → St (x :: xs) s → (∀ v s', StepW wr gw s s' → Rd c.lo X s' x v → St xs s' → Q (some v) s') → wpAny c.M A (pyNext it) Q (fun _ _ => False) s
  done : ∀ s (Q : Option Value → Shared → Prop), Fine c s → St [] s → (∀ s', StepW wr gw s s' → Q none s') → wpAny c.M A (pyNext it) Q (fun _ _ => False) s
  self : ∀ xs s (Q : Value → Shared → Prop), St xs s → Q it s → wpAny c.M A (pyIter it) Q (fun _ _ => False) s
  owned : ∀ tgt v xs s (Q : Unit → Shared → Prop), St xs s → Q () s → wpAny c.M A (letOwnedTupleGo tgt it v) Q (fun _ _ => False) s

/-- where a new iterator's objects lie, seen from the state s -/
structure NewIt (X : List Addr) (s : Shared) (fp wr : List Addr) (gw : List Nat) : Prop where
  fresh : ∀ b ∈ wr, s.heap.get? b = none
  old : ∀ b ∈ fp, b ∉ wr → b ∉ X ∧ (s.heap.get? b = none ∨ ∃ o, s.heap.get? b = some o ∧ GoodObj o)
  gens : ∀ g ∈ gw, s.gens[g]? = none

noncomputable def IterE (c : Cx) (k : Nat) (F : Frm) (e : Expr) (xs : List PV) : Prop :=
  ∀ A s, Room k A → Rel c F s → ∀ Q : Value → Shared → Prop, (∀ it s' fp wr gw, Ext s s' → (∀ Y : List Addr, (∀ a ∈ Y, s'.heap.get? a = none) → ∃ St, Iter c A (Y ++ F.X) it fp wr gw St ∧ St xs s') → NewIt F.X s fp wr gw → Q it s') →
    wpAny c.M A (eval e F.env) (fun v s₁ => wpAny c.M A (pyIter v) Q (fun _ _ => False) s₁) (fun _ _ => False) s

noncomputable def Asg (c : Cx) (k : Nat) (F : Frm) (tgt : Expr) (x : PV) (ρ ρ' : List (Option PV)) : Prop :=
  FrmSt F → ∀ A s w v, Room k A → Rel c (F.at ρ w) s → Rd c.lo (Xw F.X0 w) s x v → ∀ Q : Unit → Shared → Prop, (∀ s', Step F.env w w s s' → Rel c (F.at ρ' w) s' → Q () s') → wpAny c.M A (assign tgt F.env v) Q (fun _ _ => False) s

theorem asg_name {c : Cx} {k : Nat} {F : Frm} {x : Str} {px : Pos} {p : PV} {ρ ρ' : List (Option PV)} (i : Nat) (sl : Slot F i x) (hs : SetAt ρ i (some p) ρ') : Asg c k F (.Name x px) p ρ ρ' := by
  intro S A s w v R r rv Q h
  refine assign_Name (store_wp (F := F.at ρ w) S.at sl.at r (by rw [X_on]; exact rv) fun s₂ e₂ r₂ => h s₂ e₂ ?_)
  rw [hs.eq]; exact r₂

theorem mono0 {α : Type} {M : Model} {A : Around} {t : Sem α} {Q : α → Shared → Prop} {E : Value → Shared → Prop} {s : Shared} (h : wpAny M A t Q (fun _ _ => False) s) : wpAny M A t Q E s :=
  wpAny_mono h (fun _ _ x => x) fun _ _ x => x.elim

/-- one turn of a for -/
theorem for_turn {prog : Program} {w : World} {A : Around} {s : Shared} {R : Result → Shared → Prop} {target : Expr} {it : Value} {body : List Stmt} {env : Env}
    (turn : wpAny (model prog w) A (pyNext it) (fun r s₁ => match r with
      | none => R (.ok .next) s₁
      | some v => wpAny (model prog w) A (letOwnedTupleGo target it v) (fun _ s₁' => wpAny (model prog w) A (assign target env v) (fun _ s₂ => wpAny (model prog w) A (execs body env) (fun f s₃ => match f with
          | .next | .cont => codeAny (model prog w) A (.forLoop target it body [] env) R s₃
          | .brk => R (.ok .next) s₃
          | .ret v => R (.ok (.ret v)) s₃) (fun _ _ => False) s₂) (fun _ _ => False) s₁') (fun _ _ => False) s₁) (fun _ _ => False) s) :
    codeAny (model prog w) A (.forLoop target it body [] env) R s := by
  refine codeAny_of_tree ?_
  show wpAny _ _ ((forTurn target it body [] env).onRaise (fun x => do noteFrame x env; theTreesLotGoes x)) _ _ s
  refine wpAny_noted ?_
  simp only [forTurn]
  refine wpAny_bind (wpAny_standAt (wpAny_bind (wpAny_onRaise (wpAny_mono turn (fun r s₁ h₁ => ?_) fun _ _ h' => h'.elim))))
  cases r with
  | none => exact wpAny_pure ⟨rfl, codeAny_block (wpAny_execs_nil h₁)⟩
  | some v =>
    refine wpAny_bind (wpAny_mono h₁ (fun _ s₁' h₁' => ?_) fun _ _ h' => h'.elim)
    refine wpAny_bind (wpAny_mono h₁' (fun _ s₂ h₂ => wpAny_bind (wpAny_mono h₂ (fun f s₃ h₃ => ?_) fun _ _ h' => h'.elim)) fun _ _ h' => h'.elim)
    cases f with
    | next => exact wpAny_pure ⟨rfl, h₃⟩
    | cont => exact wpAny_pure ⟨rfl, h₃⟩
    | brk => exact wpAny_pure h₃
    | ret v => exact wpAny_pure h₃

theorem while_turn {prog : Program} {w : World} {A : Around} {s : Shared} {R : Result → Shared → Prop} {test : Expr} {body : List Stmt} {env : Env}
    (turn : wpAny (model prog w) A (isTrue test env (eval test env)) (fun b s₂ =>
        if b then wpAny (model prog w) A (execs body env) (fun f s₃ => match f with
            | .next | .cont => codeAny (model prog w) A (.whileLoop test body [] env) R s₃
            | .brk => R (.ok .next) s₃
            | .ret v => R (.ok (.ret v)) s₃) (fun _ _ => False) s₂
        else R (.ok .next) s₂) (fun _ _ => False) s) : codeAny (model prog w) A (.whileLoop test body [] env) R s := by
  refine codeAny_of_tree ?_
  show wpAny _ A ((whileTurn test body [] env).onRaise (fun x => do noteFrame x env; theTreesLotGoes x)) _ _ s
  refine wpAny_noted ?_
  simp only [whileTurn]
  refine wpAny_bind (wpAny_mono turn (fun b s₂ h₂ => ?_) fun _ _ h' => h'.elim)
  cases b with
  | false =>
    simp only [Bool.false_eq_true, if_false] at h₂ ⊢
    exact wpAny_bind (wpAny_execs_nil (wpAny_pure h₂))
  | true =>
    simp only [if_true] at h₂ ⊢
    refine wpAny_bind (wpAny_mono h₂ (fun f s₃ h₃ => ?_) fun _ _ h' => h'.elim)
    cases f with
    | next => exact wpAny_pure ⟨rfl, h₃⟩
    | cont => exact wpAny_pure ⟨rfl, h₃⟩
    | brk => exact wpAny_pure h₃
    | ret v => exact wpAny_pure h₃

inductive WhileRuns (c : Cx) (k : Nat) (F : Frm) (test : Expr) (body : List Stmt) (P₁ : Out → Prop) : List (Option PV) → Ow → Prop
  | done {ρ : List (Option PV)} {w : Ow} : Tests c k (F.at ρ w) test false → P₁ (.next ρ w) → WhileRuns c k F test body P₁ ρ w
  | turn {ρ : List (Option PV)} {w : Ow} (P₂ : Out → Prop) : Tests c k (F.at ρ w) test true → Runs c k F ρ w body P₂ →
      (∀ r w', P₂ (.next r w') → WhileRuns c k F test body P₁ r w') → (∀ r w', P₂ (.cont r w') → WhileRuns c k F test body P₁ r w') →
      (∀ r w', P₂ (.brk r w') → P₁ (.next r w')) → (∀ p f, P₂ (.ret p f) → P₁ (.ret p f)) → WhileRuns c k F test body P₁ ρ w

theorem while_code {c : Cx} {k : Nat} {F : Frm} {test : Expr} {body : List Stmt} {P₁ : Out → Prop} (S : FrmSt F) {A : Around} (R : Room k A) {ρ : List (Option PV)} {w : Ow} (h : WhileRuns c k F test body P₁ ρ w) :
    ∀ s, Rel c (F.at ρ w) s → ∀ Q : Flow → Shared → Prop, (∀ o f s', P₁ o → Step F.env w o.own s s' → EndRel c F o f s' → Q f s') →
      codeAny c.M A (.whileLoop test body [] F.env) (fun r s' => match r with | .ok f => Q f s' | .error _ => False) s := by
  induction h with
  | @done ρ w t p =>
    intro s r Q hq
    refine while_turn (t A s R r _ fun s' e => ?_)
    simp only [Bool.false_eq_true, if_false]
    exact hq (.next ρ w) _ s' p e.s ⟨rfl, r.ext e⟩
  | @turn ρ w P₂ t b _ _ hb hr ihn ihc =>
    intro s r Q hq
    refine while_turn (t A s R r _ fun s' e => ?_)
    simp only [if_true]
    refine b S A s' R (r.ext e) _ fun o f s'' p st q => ?_
    have st' := Step.trans (Ext.s (env := F.env) (w := w) e) st
    cases o with
    | next r' w' => obtain ⟨rfl, rel⟩ := q; exact ihn r' w' p s'' rel Q fun o' f' s₃ p' st₃ q' => hq o' f' s₃ p' (st'.trans st₃) q'
    | cont r' w' => obtain ⟨rfl, rel⟩ := q; exact ihc r' w' p s'' rel Q fun o' f' s₃ p' st₃ q' => hq o' f' s₃ p' (st'.trans st₃) q'
    | brk r' w' => obtain ⟨rfl, rel⟩ := q; exact hq (.next r' w') _ s'' (hb r' w' p) st' ⟨rfl, rel⟩
    | ret p' fr => obtain ⟨v, rfl, rel⟩ := q; exact hq (.ret p' fr) _ s'' (hr p' fr p) st' ⟨v, rfl, rel⟩

theorem r_while {c : Cx} {k : Nat} {F : Frm} {ρ : List (Option PV)} {w : Ow} {test : Expr} {body rest : List Stmt} {pos : Pos} {P : Out → Prop} (h : WhileRuns c k F test body (thenP c k F rest P) ρ w) :
    Runs c k F ρ w (.While test body [] pos :: rest) P := by
  refine r_cons fun S A s R r Q hq => ?_
  refine wpAny_While (codeAny_mono (while_code S R h s r Q hq) fun r' s' h' => ?_)
  cases r' with
  | ok f => exact h'
  | error e => exact h'.elim

noncomputable def ForRuns (c : Cx) (k : Nat) (F : Frm) (tgt : Expr) (body : List Stmt) (P₁ : Out → Prop) : List PV → List (Option PV) → Ow → Prop
  | [], ρ, w => P₁ (.next ρ w)
  | x :: xs, ρ, w => ∃ ρ', Asg c k F tgt x ρ ρ' ∧ Runs c k F ρ' w body (fun o => match o with
      | .next r w' | .cont r w' => Xw F.X0 w' = Xw F.X0 w ∧ ForRuns c k F tgt body P₁ xs r w'
      | .brk r w' => P₁ (.next r w')
      | .ret p f => P₁ (.ret p f))

/-- an iterator's addresses stand off the frame's own -/
noncomputable def Off (F : Frm) (w : Ow) (fp : List Addr) : Prop := ∀ b ∈ fp, b ≠ F.env.locals ∧ (∀ x, F.env.cells.lookup x ≠ some b) ∧ (∀ a l, w = some (a, l) → b ≠ a)

theorem locals_obj {c : Cx} {F : Frm} {s : Shared} (r : Rel c F s) : ∃ o, s.heap.get? F.env.locals = some o ∧ ¬ GoodObj o := by
  obtain ⟨m, ⟨o, es, ep, ho, hd, _⟩, _⟩ := r.vars
  exact ⟨o, ho, not_good_dict hd⟩
theorem cell_obj {c : Cx} {F : Frm} {s : Shared} (r : Rel c F s) {x a} (h : F.env.cells.lookup x = some a) : ∃ o, s.heap.get? a = some o ∧ ¬ GoodObj o := by
  obtain ⟨v, o, ho, hd⟩ := r.cells x a h
  exact ⟨o, ho, not_good_cell hd⟩

theorem off_new {c : Cx} {F : Frm} {ρ : List (Option PV)} {w : Ow} {s : Shared} {fp wr : List Addr} {gw : List Nat} (r : Rel c (F.at ρ w) s) (n : NewIt (Xw F.X0 w) s fp wr gw) : Off F w fp := by
  intro b hb
  have key : ∀ a o, s.heap.get? a = some o → ¬ GoodObj o → b ≠ a := by
    rintro a o ho ng rfl
    by_cases hw : b ∈ wr
    · rw [n.fresh b hw] at ho; cases ho
    · rcases (n.old b hb hw).2 with h | ⟨o', h, g⟩
      · rw [h] at ho; cases ho
      · rw [h] at ho; cases ho; exact ng g
  refine ⟨?_, fun x hx => ?_, ?_⟩
  · obtain ⟨o, ho, ng⟩ := locals_obj r
    exact key _ o ho ng
  · obtain ⟨o, ho, ng⟩ := cell_obj r (show (F.at ρ w).env.cells.lookup x = some b from hx)
    exact key _ o ho ng rfl
  · rintro a l rfl rfl
    obtain ⟨vs, ⟨o, ho, _⟩, _⟩ := r.own b l rfl
    by_cases hw : b ∈ wr
    · rw [n.fresh b hw] at ho; cases ho
    · exact (n.old b hb hw).1 (by simp [Xw])

theorem Rel.stepW {c : Cx} {F : Frm} {ρ : List (Option PV)} {w : Ow} {s s' : Shared} {wr : List Addr} {gw : List Nat} (r : Rel c (F.at ρ w) s) (st : StepW wr gw s s') (off : Off F w wr)
    (ng : ∀ b ∈ wr, ∃ o, s.heap.get? b = some o ∧ ¬ GoodObj o) (hE : ∀ b ∈ wr, F.hE.get? b = none) : Rel c (F.at ρ w) s' := by
  have kd : ∀ {X}, KeepD X s.heap s'.heap := fun b o _ g e => st.keep b o (fun m => by
    obtain ⟨o', h, n⟩ := ng b m
    rw [h] at e; cases e; exact n g) e
  have nL : F.env.locals ∉ wr := fun m => (off _ m).1 rfl
  have nC : ∀ {x a}, F.env.cells.lookup x = some a → a ∉ wr := fun {x a} h m => (off _ m).2.1 x h
  refine ⟨r.baseE, fun b o e => st.keep b o (fun m => by rw [show (F.at ρ w).hE = F.hE from rfl, hE b m] at e; cases e) (r.keep b o e), r.env, ?_, fun a l e => ?_, fun x a h => ?_, r.x0, ⟨st.bare r.good.1, Nat.lt_of_lt_of_le r.good.2 st.le⟩, Nat.le_trans r.low st.le⟩
  · obtain ⟨m, ⟨oL, es, ep, hL, q⟩, hv⟩ := r.vars
    refine ⟨m, ⟨oL, es, ep, st.keep _ _ nL hL, q⟩, fun i x p h1 h2 => ?_⟩
    obtain ⟨v, a, b⟩ := hv i x p h1 h2
    refine ⟨v, ?_, b.keepD kd st.le⟩
    rcases a with a | ⟨a, ca, b, o, ho, hd⟩ | ⟨a, q, ca, b, o, ho, hd⟩
    · exact .inl a
    · exact .inr (.inl ⟨a, ca, b, o, st.keep _ _ (nC b) ho, hd⟩)
    · exact .inr (.inr ⟨a, q, ca, b, o, st.keep _ _ (nC b) ho, hd⟩)
  · obtain ⟨vs, ⟨o, ho, t⟩, h2, h3⟩ := r.own a l e
    exact ⟨vs, ⟨o, st.keep _ _ (fun m => (off _ m).2.2 a l e rfl) ho, t⟩, h2.keepD kd st.le, h3⟩
  · obtain ⟨v, o, ho, hd⟩ := r.cells x a h
    exact ⟨v, o, st.keep _ _ (nC h) ho, hd⟩

theorem keepD_step {c : Cx} {F : Frm} {ρ : List (Option PV)} {w w' : Ow} {s s' : Shared} (r : Rel c (F.at ρ w) s) (st : Step F.env w w' s s') : KeepD (Xw F.X0 w) s.heap s'.heap := by
  intro b o hx g e
  refine st.keep b o ?_ (fun x h => ?_) (fun a l h => ?_) e
  · rintro rfl
    obtain ⟨o', ho, ng⟩ := locals_obj r
    rw [show (F.at ρ w).env = F.env from rfl] at ho
    rw [ho] at e; cases e; exact ng g
  · obtain ⟨o', ho, ng⟩ := cell_obj r (show (F.at ρ w).env.cells.lookup x = some b from h)
    rw [ho] at e; cases e; exact ng g
  · rintro rfl
    subst h
    exact hx (by simp [Xw])

theorem Off.step {F : Frm} {w w' : Ow} {fp : List Addr} {s s' : Shared} (off : Off F w fp) (st : Step F.env w w' s s') (dom : ∀ b ∈ fp, ∃ o, s.heap.get? b = some o) : Off F w' fp := by
  intro b hb
  refine ⟨(off b hb).1, (off b hb).2.1, fun a l h => ?_⟩
  rcases st.own a l h with ⟨l₀, h'⟩ | h'
  · exact (off b hb).2.2 a l₀ h'
  · rintro rfl
    obtain ⟨o, ho⟩ := dom b hb
    rw [h'] at ho; cases ho

theorem Step.over {env : Env} {w₀ w : Ow} {s₀ s s' : Shared} {wr : List Addr} {gw : List Nat} (x : Step env w₀ w s₀ s) (y : StepW wr gw s s') (h : ∀ b ∈ wr, s₀.heap.get? b = none) (g : ∀ i ∈ gw, s₀.gens[i]? = none) : Step env w₀ w s₀ s' where
  os := y.os.trans x.os
  gens := fun i z e => y.gens i z (fun m => by rw [g i m] at e; cases e) (x.gens i z e)
  bare := fun b => y.bare (x.bare b)
  le := Nat.le_trans x.le y.le
  keep := fun b o h1 h2 h3 e => y.keep b o (fun m => by rw [h b m] at e; cases e) (x.keep b o h1 h2 h3 e)
  own := x.own
  dom := fun b o e => let ⟨o', h'⟩ := x.dom b o e; ⟨o', y.keep b o' (fun m => by rw [h b m] at e; cases e) h'⟩

theorem for_code {c : Cx} {k : Nat} {F : Frm} {tgt : Expr} {body : List Stmt} {P₁ : Out → Prop} (S : FrmSt F) {A : Around} (R : Room k A) {it : Value} {fp wr : List Addr} {gw : List Nat} {X : List Addr} {St : List PV → Shared → Prop}
    (I : Iter c A X it fp wr gw St) (hE : ∀ b ∈ wr, F.hE.get? b = none) {w₀ : Ow} {s₀ : Shared} (hf : ∀ b ∈ wr, s₀.heap.get? b = none) (hg : ∀ g ∈ gw, s₀.gens[g]? = none)
    {Q : Flow → Shared → Prop} (hq : ∀ o f s', P₁ o → Step F.env w₀ o.own s₀ s' → EndRel c F o f s' → Q f s') :
    ∀ (xs : List PV) (ρ : List (Option PV)) (w : Ow) (s : Shared), Xw F.X0 w = X → ForRuns c k F tgt body P₁ xs ρ w → Rel c (F.at ρ w) s → St xs s → Off F w fp → Step F.env w₀ w s₀ s →
      codeAny c.M A (.forLoop tgt it body [] F.env) (fun r s' => match r with | .ok f => Q f s' | .error _ => False) s
  | [], ρ, w, s, hX, h, r, st, off, e => by
    have offw : Off F w wr := fun b hb => off b (I.sub b hb)
    have ng : ∀ b ∈ wr, ∃ o, s.heap.get? b = some o ∧ ¬ GoodObj o := fun b hb => let ⟨o, h1, h2⟩ := I.dom _ _ st b (I.sub b hb); ⟨o, h1, h2 hb⟩
    refine for_turn (I.done s _ r.fine st fun s' sw => ?_)
    exact hq (.next ρ w) _ s' h (e.over sw hf hg) ⟨rfl, r.stepW sw offw ng hE⟩
  | x :: xs, ρ, w, s, hX, h, r, st, off, e => by
    obtain ⟨ρ', ha, hb⟩ := h
    have offw : Off F w wr := fun b hb => off b (I.sub b hb)
    have ng : ∀ b ∈ wr, ∃ o, s.heap.get? b = some o ∧ ¬ GoodObj o := fun b hb => let ⟨o, h1, h2⟩ := I.dom _ _ st b (I.sub b hb); ⟨o, h1, h2 hb⟩
    refine for_turn (I.item x xs s _ r.fine st fun v s₁ sw rv st₁ => ?_)
    have r₁ := r.stepW sw offw ng hE
    have e₁ := e.over sw hf hg
    refine I.owned tgt v xs s₁ _ st₁ ?_
    refine ha S A s₁ w v R r₁ (hX ▸ rv) _ fun s₂ e₂ r₂ => ?_
    have kp : ∀ {w' : Ow} {a b : Shared} {ρ₁ : List (Option PV)}, Rel c (F.at ρ₁ w) a → St xs a → Step F.env w w' a b → St xs b := fun {w' a b ρ₁} ra sa st' =>
      I.stable xs a b sa (fun q hq' o ho => st'.keep q o (off q hq').1 (off q hq').2.1 (off q hq').2.2 ho) (hX ▸ keepD_step ra st') st'.le (fun g _ z hz => st'.gens g z hz)
    have st₂ := kp r₁ st₁ e₂
    refine hb S A s₂ R r₂ _ fun o f s₃ p e₃ q => ?_
    have e' := (e₁.trans e₂).trans e₃
    have dom2 : ∀ b ∈ fp, ∃ o, s₂.heap.get? b = some o := fun b hb => let ⟨o, h1, _⟩ := I.dom _ _ st₂ b hb; ⟨o, h1⟩
    cases o with
    | next r' w' =>
      obtain ⟨rfl, rel⟩ := q
      exact for_code S R I hE hf hg hq xs r' w' s₃ (p.1.trans hX) p.2 rel (kp r₂ st₂ e₃) (off.step e₃ dom2) e'
    | cont r' w' =>
      obtain ⟨rfl, rel⟩ := q
      exact for_code S R I hE hf hg hq xs r' w' s₃ (p.1.trans hX) p.2 rel (kp r₂ st₂ e₃) (off.step e₃ dom2) e'
    | brk r' w' => obtain ⟨rfl, rel⟩ := q; exact hq (.next r' w') _ s₃ p e' ⟨rfl, rel⟩
    | ret p' fr => obtain ⟨v', rfl, rel⟩ := q; exact hq (.ret p' fr) _ s₃ p e' ⟨v', rfl, rel⟩

theorem r_for {c : Cx} {k : Nat} {F : Frm} {ρ : List (Option PV)} {w : Ow} {tgt iter : Expr} {body rest : List Stmt} {pos : Pos} {xs : List PV} {P : Out → Prop} (hi : IterE c k (F.at ρ w) iter xs)
    (h : ForRuns c k F tgt body (thenP c k F rest P) xs ρ w) (hfs : ∀ x, foldedSetIterable iter F.env x = pure x) : Runs c k F ρ w (.For tgt iter body [] pos :: rest) P := by
  refine r_cons fun S A s R r Q hq => ?_
  refine wpAny_For (hi A s R r _ fun it s' fp wr gw e H n => ?_) hfs
  obtain ⟨St, I, st⟩ := H [] (fun _ m => by cases m)
  rw [List.nil_append] at I
  rw [X_on] at I n
  have r' := r.ext e
  have off : Off F w fp := off_new r n
  have hE : ∀ b ∈ wr, F.hE.get? b = none := fun b hb => by
    cases q : F.hE.get? b with
    | none => rfl
    | some o => have := r.keep b o q; rw [n.fresh b hb] at this; cases this
  refine codeAny_mono (for_code S R I hE (w₀ := w) (s₀ := s) n.fresh n.gens hq xs ρ w s' rfl h r' st off e.s) fun r' s' h' => ?_
  cases r' with
  | ok f => exact h'
  | error e => exact h'.elim
end Mine
namespace Mine
open PySem PySem.W PyProof.Rows

noncomputable def Fn (c : Cx) (k : Nat) (f : Addr) (args : List PV) (p : PV) : Prop := OpN c k (fun vs => call (.ref f) vs) args p
/-- the same, and the answer is a new object -/
noncomputable def FnNew (c : Cx) (k : Nat) (f : Addr) (args : List PV) (p : PV) : Prop :=
  ∀ A X s vs, Room k A → Base c s.heap → XOk c.lo c.K X s → Rds c.lo X s args vs → ∀ Q : Value → Shared → Prop, (∀ v s', Ext s s' → Rd c.lo X s' p v → (∃ a, v = .ref a ∧ s.heap.get? a = none) → Q v s') →
    wpAny c.M A (call (.ref f) vs) Q (fun _ _ => False) s

theorem bindL_not {kindOf : Str → Option NameKind} {x : Str} : ∀ {binds : List (Str × Value)} {m : Str → Option Value}, x ∉ binds.map (·.1) → bindL kindOf binds m x = m x
  | [], _, _ => rfl
  | (n, v) :: r, m, h => by
    simp only [List.map_cons, List.mem_cons, not_or] at h
    unfold bindL
    rw [bindL_not h.2]
    split
    · simp [h.1]
    · rfl
theorem bindC_not {kindOf : Str → Option NameKind} {x : Str} : ∀ {binds : List (Str × Value)} {m : Str → Option Value}, x ∉ binds.map (·.1) → bindC kindOf binds m x = m x
  | [], _, _ => rfl
  | (n, v) :: r, m, h => by
    simp only [List.map_cons, List.mem_cons, not_or] at h
    unfold bindC
    rw [bindC_not h.2]
    split
    · rfl
    · simp [h.1]
theorem bindL_at {kindOf : Str → Option NameKind} : ∀ {ps : List Str} {vs : List Value} {m : Str → Option Value} {i : Nat} {x : Str} {v : Value}, ps.Nodup → ps[i]? = some x → vs[i]? = some v → kindOf x = some .local → bindL kindOf (ps.zip vs) m x = some v
  | [], _, _, _, _, _, _, h, _, _ => by simp at h
  | _ :: _, [], _, _, _, _, _, _, h, _ => by simp at h
  | p :: ps, u :: vs, m, 0, x, v, nd, h1, h2, hk => by
    simp at h1 h2
    subst h1; subst h2
    simp only [List.zip_cons_cons, bindL]
    rw [bindL_not]
    · simp [hk]
    · intro hm
      obtain ⟨⟨a, b⟩, hab, rfl⟩ := List.mem_map.mp hm
      exact (List.nodup_cons.mp nd).1 (List.of_mem_zip hab).1
  | p :: ps, u :: vs, m, i + 1, x, v, nd, h1, h2, hk => by
    simp at h1 h2
    simp only [List.zip_cons_cons, bindL]
    exact bindL_at (List.nodup_cons.mp nd).2 h1 h2 hk
theorem bindC_at {kindOf : Str → Option NameKind} : ∀ {ps : List Str} {vs : List Value} {m : Str → Option Value} {i : Nat} {x : Str} {v : Value}, ps.Nodup → ps[i]? = some x → vs[i]? = some v → kindOf x = some .cell → bindC kindOf (ps.zip vs) m x = some v
  | [], _, _, _, _, _, _, h, _, _ => by simp at h
  | _ :: _, [], _, _, _, _, _, _, h, _ => by simp at h
  | p :: ps, u :: vs, m, 0, x, v, nd, h1, h2, hk => by
    simp at h1 h2
    subst h1; subst h2
    simp only [List.zip_cons_cons, bindC]
    rw [bindC_not]
    · simp [hk]
    · intro hm
      obtain ⟨⟨a, b⟩, hab, rfl⟩ := List.mem_map.mp hm
      exact (List.nodup_cons.mp nd).1 (List.of_mem_zip hab).1
  | p :: ps, u :: vs, m, i + 1, x, v, nd, h1, h2, hk => by
    simp at h1 h2
    simp only [List.zip_cons_cons, bindC]
    exact bindC_at (List.nodup_cons.mp nd).2 h1 h2 hk

/-- what is known of a function of the text's -/
structure FnAt (c : Cx) (f : Addr) (fd : FuncData) : Prop where
  obj : ∃ o, c.K.lookup f = some o ∧ o.data = .func fd
  code : ∀ h : Heap, c.K.In h → h.CodeRec fd.code fd.qualname
  clo : fd.closure = []
  glob : fd.globals = mainGlobals
  bui : fd.builtins = builtinsNs

noncomputable def fnFrm (fd : FuncData) (f L : Addr) (hE : Heap) (names : List Str) (X0 : List Addr) : Frm := { env := callEnvC fd L f, hE := hE, names := names, rho := [], own := none, X0 := X0 }

noncomputable def start (args : List PV) (n : Nat) : List (Option PV) := args.map some ++ List.replicate n none

theorem start_get {args : List PV} {n i : Nat} {p : PV} (h : (start args n)[i]? = some (some p)) : args[i]? = some p := by
  unfold start at h
  by_cases hi : i < args.length
  · rw [List.getElem?_append_left (by simpa using hi)] at h
    simpa using h
  · rw [List.getElem?_append_right (by simpa using hi)] at h
    exfalso
    rw [List.getElem?_replicate] at h
    split at h <;> simp at h

/-- the library's rule for the call of a function with cells, and the marks do not sink -/
theorem call_cells {prog : Program} {w : World} {A : Around} {s : Shared} {R : Result → Shared → Prop} {a : Addr} {o : Obj} {fd : FuncData} {body : List Stmt} {vals : List Value} {binds : List (Str × Value)}
    (hroom : A.depth < recursionLimit) (ho : s.heap.get? a = some o) (hdata : o.data = .func fd) (hlim : s.heap.NoLimit) (hcd : s.heap.CodeRec fd.code fd.qualname)
    (hbody : fd.body = .stmts body) (hbind : BindsTo s fd ⟨vals, []⟩ binds) (hclo : fd.closure = [])
    (hkind : ∀ x ∈ binds, fd.scope.names.lookup x.1 = some .local ∨ (fd.scope.names.lookup x.1 = some .cell ∧ ((cellsFrom (s.heap.objs.size + 1) fd.scope.names []).lookup x.1).isSome = true))
    (h : ∀ s₁, s.toks ≤ s₁.toks → InCallC s (callEnvC fd s.heap.objs.size a).locals (bindL (callEnvC fd s.heap.objs.size a).kindOf binds fun _ => none) (callEnvC fd s.heap.objs.size a).cells
        (bindC (callEnvC fd s.heap.objs.size a).kindOf binds fun _ => none) s₁ →
      wpAny (model prog w) (A.deeper (callEnvC fd s.heap.objs.size a)) (execs body (callEnvC fd s.heap.objs.size a)) (fun f s' => R (.ok (.ret (match f with | .ret v => v | _ => .none))) s')
        (fun e s' => wpAny (model prog w) (A.deeper (callEnvC fd s.heap.objs.size a)) (leaving (callEnvC fd s.heap.objs.size a) e) (fun _ s'' => R (.error e) s'') (fun e' s'' => R (.error e') s'') s') s₁)
    (hco : fd.scope.isCoroutine = false) (hgen : fd.scope.isGenerator = false) (hk : fd.scope.kind = .function) :
    codeAny (model prog w) A (.call (.ref a) ⟨vals, []⟩) R s := by
  refine codeAny_call_function hroom ho hdata hco hgen hbody hcd (hbind _ _ _ _ ?_)
  rw [hclo]
  refine wpAny_with_toks (n := s.toks) (Nat.le_refl _) (wpAny_newFunctionEnv_cells hk hkind fun env he s' x le => ?_)
  subst he
  exact ⟨hlim.keeps x.toInCall.keep, codeAny_func (h s' le x)⟩

/-- how the arguments are bound: dargs are the defaults that step in -/
noncomputable def HBind (c : Cx) (fd : FuncData) (ps : List Str) (args dargs : List PV) : Prop :=
  ∀ (s : Shared) (vals : List Value), Base c s.heap → vals.length = args.length →
    ∃ dv : List Value, (∀ (X : List Addr) (s' : Shared), c.K.In s'.heap → (∀ a ∈ X, c.K.lookup a = none) → Rds c.lo X s' dargs dv) ∧ BindsTo s fd ⟨vals, []⟩ (ps.zip (vals ++ dv))
theorem HBind.plain {c : Cx} {fd : FuncData} {ps : List Str} {args : List PV} (h : ∀ vals : List Value, vals.length = args.length → bindArgs fd ⟨vals, []⟩ = pure (ps.zip vals)) : HBind c fd ps args [] :=
  fun s vals _ hl => ⟨[], fun _ _ _ _ => Rds.nil, by rw [List.append_nil]; exact BindsTo.of_eq (h vals hl)⟩

theorem fn_any {c : Cx} {k : Nat} {f : Addr} {fd : FuncData} {body : List Stmt} {ps ls : List Str} {args dargs : List PV} {p : PV} {fr : Bool} (F : FnAt c f fd) (hb : fd.body = .stmts body)
    (hbind : HBind c fd ps args dargs) (hlen : (args ++ dargs).length = ps.length) (hnd : (ps ++ ls).Nodup)
    (hkind : ∀ x ∈ ps, fd.scope.names.lookup x = some .local ∨ (fd.scope.names.lookup x = some .cell ∧ ((cellsFrom 0 fd.scope.names []).lookup x).isSome = true))
    (run : ∀ L hE X0, Runs c k (fnFrm fd f L hE (ps ++ ls) X0) (start (args ++ dargs) ls.length) none body (fun o => o = .ret p fr))
    (hco : fd.scope.isCoroutine = false) (hgen : fd.scope.isGenerator = false) (hk : fd.scope.kind = .function) :
    ∀ A X s vs, Room (k + 1) A → Base c s.heap → XOk c.lo c.K X s → Rds c.lo X s args vs → ∀ Q : Value → Shared → Prop, (∀ v s', Ext s s' → Rd c.lo X s' p v → (fr = true → ∃ a, v = .ref a ∧ s.heap.get? a = none) → Q v s') →
      wpAny c.M A (call (.ref f) vs) Q (fun _ _ => False) s := by
  intro A X s vs R B XO rvs Q hq
  obtain ⟨o, ho, hd⟩ := F.obj
  have hps : ps.Nodup := (List.nodup_append.mp hnd).1
  have hl : vs.length = args.length := rvs.length
  obtain ⟨dv, hdv, hbt⟩ := hbind s vs B hl
  replace rvs := rvs.append (hdv X s B.k fun a m => (XO.out a m).2)
  clear hl
  refine wpAny_call (call_cells (by have := R.depth; lia) (B.k _ _ ho) hd B.nolimit (F.code _ B.k) hb hbt F.clo ?_ (fun s₁ le x => ?_) hco hgen hk)
  · intro x hx
    obtain ⟨a, b⟩ := x
    have hm : a ∈ ps := (List.of_mem_zip hx).1
    rcases hkind a hm with h | ⟨h1, h2⟩
    · exact .inl h
    · refine .inr ⟨h1, ?_⟩
      have e := cellsFrom_names fd.scope.names 0 (s.heap.objs.size + 1) [] [] rfl
      have key : ∀ {l l' : List (Str × Addr)}, l.map (·.1) = l'.map (·.1) → (l.lookup a).isSome = true → (l'.lookup a).isSome = true := by
        intro l
        induction l with
        | nil => intro l' _ h; simp at h
        | cons y l ih =>
          intro l' e h
          cases l' with
          | nil => simp at e
          | cons z l' =>
            simp only [List.map_cons, List.cons.injEq] at e
            obtain ⟨y1, y2⟩ := y
            obtain ⟨z1, z2⟩ := z
            simp only at e
            rw [List.lookup_cons] at h ⊢
            rw [← e.1]
            cases hh : a == y1 with
            | true => rfl
            | false => rw [hh] at h; exact ih e.2 h
      exact key e h2
  · have hL : (callEnvC fd s.heap.objs.size f).locals = s.heap.objs.size := rfl
    obtain ⟨h₁, tk, hs₁⟩ := x.toInCall.same
    have G₁ : Good s → Good s₁ := fun g => ⟨by rw [hs₁]; exact g.1, Nat.lt_of_lt_of_le g.2 le⟩
    have FS : FrmSt (fnFrm fd f s.heap.objs.size s.heap (ps ++ ls) X) := by
      refine ⟨hnd, get_size_none _, fun y a e => ?_⟩
      have := x.above y a (mem_of_lookup e)
      cases q : s.heap.get? a with
      | none => exact q
      | some o' => exact absurd (Nat.lt_trans this (Heap.lt_size q)) (Nat.lt_irrefl _)
    have REL : Rel c ((fnFrm fd f s.heap.objs.size s.heap (ps ++ ls) X).at (start (args ++ dargs) ls.length) none) s₁ := by
      refine ⟨B, x.toInCall.keep, ⟨hk, F.glob, F.bui, fun y z a e1 e2 => name_of_addr x.apart (mem_of_lookup e1) (mem_of_lookup e2)⟩, ⟨_, x.toInCall.ns, fun i y q h1 h2 => ?_⟩, fun a l e => (nomatch e), fun y a e => ⟨_, x.cell y a e⟩, XO.out, G₁ XO.good, Nat.le_trans XO.low le⟩
      have hi := start_get h2
      obtain ⟨v, hv, rv⟩ := rvs.get hi
      have hlt : i < ps.length := by
        rw [← hlen]
        exact (List.getElem?_eq_some_iff.mp hi).1
      have hy : ps[i]? = some y := by
        have h1' : (ps ++ ls)[i]? = some y := h1
        rwa [List.getElem?_append_left hlt] at h1'
      refine ⟨v, ?_, rv.keep x.toInCall.keep le⟩
      rcases hkind y (List.mem_of_getElem? hy) with h | ⟨h, h'⟩
      · exact .inl ⟨h, bindL_at hps hy hv h⟩
      · refine .inr (.inl ⟨h, ?_⟩)
        have hcs : (((callEnvC fd s.heap.objs.size f).cells).lookup y).isSome = true := by
          have e := cellsFrom_names fd.scope.names 0 (s.heap.objs.size + 1) [] [] rfl
          have key : ∀ {l l' : List (Str × Addr)}, l.map (·.1) = l'.map (·.1) → (l.lookup y).isSome = true → (l'.lookup y).isSome = true := by
            intro l
            induction l with
            | nil => intro l' _ h; simp at h
            | cons u l ih =>
              intro l' e h
              cases l' with
              | nil => simp at e
              | cons z l' =>
                simp only [List.map_cons, List.cons.injEq] at e
                obtain ⟨y1, y2⟩ := u
                obtain ⟨z1, z2⟩ := z
                simp only at e
                rw [List.lookup_cons] at h ⊢
                rw [← e.1]
                cases hh : y == y1 with
                | true => rfl
                | false => rw [hh] at h; exact ih e.2 h
          exact key e h'
        obtain ⟨ca, hca⟩ := Option.isSome_iff_exists.mp hcs
        refine ⟨ca, hca, ?_⟩
        have := x.cell y ca hca
        rwa [bindC_at hps hy hv h] at this
    refine mono0 (run s.heap.objs.size s.heap X FS _ s₁ (R.deeper) REL _ fun o fl s' ho' st er => ?_)
    subst ho'
    obtain ⟨v, rfl, kp, rd, fresh⟩ := er
    refine hq v s' ⟨kp, ?_, ?_, ?_, Nat.le_trans le st.le⟩ rd fresh
    · rw [st.os, hs₁]
    · intro g z e; exact st.gens g z (by rw [hs₁]; exact e)
    · intro b; exact st.bare (by rw [hs₁]; exact b)

theorem fn_of {c : Cx} {k : Nat} {f : Addr} {fd : FuncData} {body : List Stmt} {ps ls : List Str} {args dargs : List PV} {p : PV} {fr : Bool} (F : FnAt c f fd) (hb : fd.body = .stmts body)
    (hbind : HBind c fd ps args dargs) (hlen : (args ++ dargs).length = ps.length) (hnd : (ps ++ ls).Nodup)
    (hkind : ∀ x ∈ ps, fd.scope.names.lookup x = some .local ∨ (fd.scope.names.lookup x = some .cell ∧ ((cellsFrom 0 fd.scope.names []).lookup x).isSome = true))
    (run : ∀ L hE X0, Runs c k (fnFrm fd f L hE (ps ++ ls) X0) (start (args ++ dargs) ls.length) none body (fun o => o = .ret p fr))
    (hco : fd.scope.isCoroutine = false) (hgen : fd.scope.isGenerator = false) (hk : fd.scope.kind = .function) : Fn c (k + 1) f args p :=
  fun A X s vs R B XO rvs Q hq => fn_any F hb hbind hlen hnd hkind run hco hgen hk A X s vs R B XO rvs Q fun v s' e r _ => hq v s' e r
end Mine
namespace Mine
open PySem PySem.W PyProof.Rows

mutual
theorem Rd.more {lo : Nat} {X Y : List Addr} {s : Shared} (f : ∀ a ∈ Y, s.heap.get? a = none) : ∀ {p : PV} {v : Value}, Rd lo X s p v → Rd lo (Y ++ X) s p v
  | .none, _, r => by simpa only [Rd] using r
  | .bool _, _, r => by simpa only [Rd] using r
  | .int _, _, r => by simpa only [Rd] using r
  | .flt _, _, r => by simpa only [Rd] using r
  | .str _, _, r => by simpa only [Rd] using r
  | .tup l, v, r => by
    simp only [Rd] at r ⊢
    obtain ⟨a, vs, e, hx, ⟨o, ho, q⟩, hr⟩ := r
    refine ⟨a, vs, e, fun m => ?_, ⟨o, ho, q⟩, Rds.more f hr⟩
    rcases List.mem_append.mp m with m | m
    · rw [f a m] at ho; cases ho
    · exact hx m
  | .lst l, v, r => by
    simp only [Rd] at r ⊢
    obtain ⟨a, vs, e, hx, ⟨o, ho, q⟩, hr⟩ := r
    refine ⟨a, vs, e, fun m => ?_, ⟨o, ho, q⟩, Rds.more f hr⟩
    rcases List.mem_append.mp m with m | m
    · rw [f a m] at ho; cases ho
    · exact hx m
  | .val _, _, r => by simpa only [Rd] using r
  | .app l, v, r => by
    simp only [Rd] at r ⊢
    obtain ⟨q, e, hx, ho⟩ := r
    refine ⟨q, e, fun m => ?_, ho⟩
    rcases List.mem_append.mp m with m | m
    · rw [f q m] at ho; cases ho
    · exact hx m
  | .gfl _, _, r => by simpa only [Rd] using r
  | .fltB _ _ _, _, r => by simpa only [Rd] using r
  | .lsa a l, v, r => by
    simp only [Rd] at r ⊢
    obtain ⟨vs, e, hx, ⟨o, ho, q⟩, hr⟩ := r
    refine ⟨vs, e, fun m => ?_, ⟨o, ho, q⟩, Rds.more f hr⟩
    rcases List.mem_append.mp m with m | m
    · rw [f a m] at ho; cases ho
    · exact hx m
theorem Rds.more {lo : Nat} {X Y : List Addr} {s : Shared} (f : ∀ a ∈ Y, s.heap.get? a = none) : ∀ {ps : List PV} {vs : List Value}, Rds lo X s ps vs → Rds lo (Y ++ X) s ps vs
  | [], _, r => by simpa only [Rds] using r
  | p :: ps, vs, r => by
    simp only [Rds] at r ⊢
    obtain ⟨v, r', e, h1, h2⟩ := r
    exact ⟨v, r', e, Rd.more f h1, Rds.more f h2⟩
end

/-- an iterator of the library's, one object that turns -/
theorem iter_of {c : Cx} {A : Around} {X : List Addr} {I : Addr} {fp : List Addr} {n : Nat} {P : Nat → Value → Prop} {St : Nat → Heap → Prop} (W : Walks c.prog c.w A I fp [I] n P St)
    (hfp : ∀ i h, St i h → ∀ b ∈ fp, ∃ o, h.get? b = some o)
    (hT : ∀ i h, St i h → ∃ o T vs, h.get? I = some o ∧ o.cls = .type T ∧ o.data = .fields vs ∧ T ≠ "builtin_function_or_method" ∧ (["enumerate", "zip", "dict_itemiterator", "dict_reverseitemiterator", "odict_iterator", "itertools.zip_longest", "itertools.pairwise"] : List String).contains T = false)
    (pv : List PV) :
    Iter c A X (.ref I) fp [I] [] (fun xs s => ∃ i, i + xs.length = n ∧ xs = pv.drop i ∧ St i s.heap ∧ ∀ j p, pv[j]? = some p → ∀ v, P j v → Rd c.lo X s p v) where
  sub := W.sub
  dom := fun xs s ⟨i, _, _, st, _⟩ b hb => by
    obtain ⟨o, ho⟩ := hfp i _ st b hb
    refine ⟨o, ho, fun m => ?_⟩
    rw [List.mem_singleton] at m
    subst m
    obtain ⟨o', T, vs, ho', hc, hd, hT, _⟩ := hT i _ st
    rw [ho] at ho'; cases ho'
    exact not_good_fields hd hc hT
  stable := fun xs s s' ⟨i, h1, h2, st, h3⟩ k kd le _ => ⟨i, h1, h2, W.frame _ _ _ st k, fun j p hp v hv => (h3 j p hp v hv).keepD kd le⟩
  item := fun x xs s Q _ ⟨i, h1, h2, st, h3⟩ hQ => by
    have hi : i < n := by simp only [List.length_cons] at h1; lia
    refine up_any (W.item i s _ _ hi st fun v h' tk hP st' hk => fun le => ?_)
    have hx : pv[i]? = some x := by
      have : (pv.drop i)[0]? = some x := by rw [← h2]; rfl
      simpa using this
    have hxs : xs = pv.drop (i + 1) := by
      have : (pv.drop i).drop 1 = xs := by rw [← h2]; rfl
      rw [← this, List.drop_drop]
    have kd : KeepD X s.heap h' := fun b o _ g e => hk b o (fun m => by
      rw [List.mem_singleton] at m
      subst m
      obtain ⟨o', T, vs, ho', hc, hd, hT, _⟩ := hT i _ st
      rw [e] at ho'; cases ho'
      exact not_good_fields hd hc hT g) e
    exact hQ v _ ⟨rfl, fun _ _ _ e => e, id, le, hk⟩ ((h3 i x hx v hP).keepD kd le) ⟨i + 1, by simp only [List.length_cons] at h1; lia, hxs, st', fun j p hp u hu => (h3 j p hp u hu).keepD kd le⟩
  done := fun s Q _ ⟨i, h1, h2, st, h3⟩ hQ => by
    have hi : i = n := by simp only [List.length_nil] at h1; lia
    subst hi
    exact up_any (W.done s _ _ st fun h' tk hk => fun le => hQ _ ⟨rfl, fun _ _ _ e => e, id, le, hk⟩)
  self := fun xs s Q ⟨i, _, _, st, _⟩ h => W.self i s Q _ st h
  owned := fun tgt v xs s Q ⟨i, _, _, st, _⟩ h => by
    obtain ⟨o, T, vs, ho, hc, hd, _, hn⟩ := hT i _ st
    unfold letOwnedTupleGo
    split
    · cases v with
      | ref a =>
        refine wpAny_bind (wpAny_load ho ?_)
        rw [hc, hd]
        simp only [hn, Bool.false_and, Bool.false_eq_true, if_false]
        exact wpAny_pure h
      | _ => exact wpAny_pure h
    · cases v with
      | ref a =>
        refine wpAny_bind (wpAny_load ho ?_)
        rw [hc, hd]
        simp only [hn, Bool.false_and, Bool.false_eq_true, if_false]
        exact wpAny_pure h
      | _ => exact wpAny_pure h
    · exact wpAny_pure h

section
variable {c : Cx} {k : Nat} {F : Frm}
theorem keep_none {h h' : Heap} (k : Keep h h') {a : Addr} (n : h'.get? a = none) : h.get? a = none := by
  cases q : h.get? a with
  | none => rfl
  | some o => rw [k a o q] at n; cases n

theorem ie_list {e : Expr} {xs : List PV} (h1 : Evals c k F e (.lst xs)) : IterE c k F e xs := by
  intro A s R r Q hq
  refine h1 A s R r _ fun v s₁ e₁ rv => ?_
  simp only [Rd] at rv
  obtain ⟨a, vs, rfl, hx, hl, rvs⟩ := rv
  refine wpAny_pyIter_list hl ?_
  have hla : a < s₁.heap.objs.size := by obtain ⟨_, ho, _⟩ := hl; exact Heap.lt_size ho
  have W := Walks.list (prog := c.prog) (w := c.w) R.handled s₁.heap.objs.size a (Nat.ne_of_lt hla) vs.toArray
  have ex : Ext s₁ { s₁ with heap := s₁.heap.push { cls := .type "list_iterator", data := .fields #[.ref a, .int 0 0] } } := Ext.push
  refine hq _ _ [s₁.heap.objs.size, a] [s₁.heap.objs.size] [] (e₁.trans ex) (fun Y hY => ?_) ⟨fun b m => ?_, fun b m n => ?_, fun _ m => nomatch m⟩
  · refine ⟨_, iter_of W (fun i h st b m => ?_) (fun i h st => ?_) xs, 0, by simp [rvs.length], by simp, ⟨⟨_, Heap.get?_push_size _ rfl, rfl, rfl⟩, hl.push _⟩, fun j p hp v hv => ?_⟩
    · rcases List.mem_cons.mp m with rfl | m
      · obtain ⟨o, ho, _⟩ := st.1; exact ⟨o, ho⟩
      · rw [List.mem_singleton] at m; subst m; obtain ⟨o, ho, _⟩ := st.2; exact ⟨o, ho⟩
    · obtain ⟨o, ho, hc, hd⟩ := st.1
      exact ⟨o, _, _, ho, hc, hd, by decide, by decide⟩
    · obtain ⟨u, hu, ru⟩ := (rvs.ext ex).get hp
      have : vs[j]? = some v := by simpa using hv
      rw [hu] at this; cases this
      exact Rd.more hY ru
  · rw [List.mem_singleton] at m; subst m
    exact keep_none e₁.keep (get_size_none _)
  · rcases List.mem_cons.mp m with rfl | m
    · exact absurd (List.mem_singleton.mpr rfl) n
    · rw [List.mem_singleton] at m; subst m
      refine ⟨hx, ?_⟩
      cases q : s.heap.get? b with
      | none => exact .inl rfl
      | some o =>
        obtain ⟨o', ho', _, nn, hd⟩ := hl
        have := e₁.keep b o q
        rw [ho'] at this; cases this
        exact .inr ⟨_, rfl, good_seq hd⟩

theorem ie_tup {e : Expr} {xs : List PV} (h1 : Evals c k F e (.tup xs)) : IterE c k F e xs := by
  intro A s R r Q hq
  refine h1 A s R r _ fun v s₁ e₁ rv => ?_
  simp only [Rd] at rv
  obtain ⟨a, vs, rfl, hx, hl, rvs⟩ := rv
  refine wpAny_pyIter_tuple hl ?_
  have hla : a < s₁.heap.objs.size := by obtain ⟨_, ho, _⟩ := hl; exact Heap.lt_size ho
  have W := Walks.tuple (prog := c.prog) (w := c.w) R.handled s₁.heap.objs.size a (Nat.ne_of_lt hla) vs.toArray
  have ex : Ext s₁ { s₁ with heap := s₁.heap.push { cls := .type "tuple_iterator", data := .fields #[.ref a, .int 0 0] } } := Ext.push
  refine hq _ _ [s₁.heap.objs.size, a] [s₁.heap.objs.size] [] (e₁.trans ex) (fun Y hY => ?_) ⟨fun b m => ?_, fun b m n => ?_, fun _ m => nomatch m⟩
  · refine ⟨_, iter_of W (fun i h st b m => ?_) (fun i h st => ?_) xs, 0, by simp [rvs.length], by simp, ⟨⟨_, Heap.get?_push_size _ rfl, rfl, rfl⟩, IsTup.push hl _⟩, fun j p hp v hv => ?_⟩
    · rcases List.mem_cons.mp m with rfl | m
      · obtain ⟨o, ho, _⟩ := st.1; exact ⟨o, ho⟩
      · rw [List.mem_singleton] at m; subst m; obtain ⟨o, ho, _⟩ := st.2; exact ⟨o, ho⟩
    · obtain ⟨o, ho, hc, hd⟩ := st.1
      exact ⟨o, _, _, ho, hc, hd, by decide, by decide⟩
    · obtain ⟨u, hu, ru⟩ := (rvs.ext ex).get hp
      have : vs[j]? = some v := by simpa using hv
      rw [hu] at this; cases this
      exact Rd.more hY ru
  · rw [List.mem_singleton] at m; subst m
    exact keep_none e₁.keep (get_size_none _)
  · rcases List.mem_cons.mp m with rfl | m
    · exact absurd (List.mem_singleton.mpr rfl) n
    · rw [List.mem_singleton] at m; subst m
      refine ⟨hx, ?_⟩
      cases q : s.heap.get? b with
      | none => exact .inl rfl
      | some o =>
        obtain ⟨o', ho', _, nn, hd⟩ := hl
        have := e₁.keep b o q
        rw [ho'] at this; cases this
        exact .inr ⟨_, rfl, good_seq hd⟩

/-- the signs of a text, each as a text -/
noncomputable def signs (x : Str) : List PV := x.cps.toList.map fun c => .str ⟨#[c]⟩
theorem ie_str {e : Expr} {x : Str} (h1 : Evals c k F e (.str x)) : IterE c k F e (signs x) := by
  intro A s R r Q hq
  refine h1 A s R r _ fun v s₁ e₁ rv => ?_
  simp only [Rd] at rv
  obtain ⟨t, rfl⟩ := rv
  have main : ∀ (T : String) (W : Walks c.prog c.w A s₁.heap.objs.size [s₁.heap.objs.size] [s₁.heap.objs.size] x.cps.size (SignAt x) (fun i h => h.IsStrIter s₁.heap.objs.size T x t i)) (hT : T ≠ "builtin_function_or_method")
      (hn : (["enumerate", "zip", "dict_itemiterator", "dict_reverseitemiterator", "odict_iterator", "itertools.zip_longest", "itertools.pairwise"] : List String).contains T = false),
      Q (.ref s₁.heap.objs.size) { s₁ with heap := s₁.heap.push { cls := .type T, data := .fields #[.str x t, .int 0 0] } } := by
    intro T W hT hn
    have ex : Ext s₁ { s₁ with heap := s₁.heap.push { cls := .type T, data := .fields #[.str x t, .int 0 0] } } := Ext.push
    refine hq _ _ [s₁.heap.objs.size] [s₁.heap.objs.size] [] (e₁.trans ex) (fun Y hY => ?_) ⟨fun b m => ?_, fun b m n => absurd m n, fun _ m => nomatch m⟩
    · refine ⟨_, iter_of W (fun i h st b m => ?_) (fun i h st => ?_) (signs x), 0, by simp [signs], by simp, ⟨_, Heap.get?_push_size _ rfl, rfl, rfl⟩, fun j p hp v hv => ?_⟩
      · rw [List.mem_singleton] at m; subst m; obtain ⟨o, ho, _⟩ := st; exact ⟨o, ho⟩
      · obtain ⟨o, ho, hc, hd⟩ := st
        exact ⟨o, _, _, ho, hc, hd, hT, hn⟩
      · obtain ⟨cp, u, hu, rfl⟩ := hv
        simp only [signs, List.getElem?_map, Option.map_eq_some_iff] at hp
        obtain ⟨z, hz, rfl⟩ := hp
        simp only [Rd]
        have : x.cps[j]? = some z := by simpa using hz
        rw [this] at hu; cases hu
        exact ⟨_, rfl⟩
    · rw [List.mem_singleton] at m; subst m
      exact keep_none e₁.keep (get_size_none _)
  cases ha : x.cps.all (· < 128)
  · exact wpAny_pyIter_wide ha (main _ (Walks.strWide R.handled _ x t) (by decide) (by decide))
  · exact wpAny_pyIter_ascii ha (main _ (Walks.strAscii R.handled _ x t) (by decide) (by decide))
end
end Mine
namespace Mine
open PySem PySem.W PyProof.Rows

noncomputable def rangeL (n : Int) : List PV := (List.range n.toNat).map fun (i : Nat) => .int (i : Int)

section
variable {c : Cx} {k : Nat} {F : Frm}

theorem ie_range {fe a : Expr} {pos : Pos} {n : Int} (h0 : Evals c k F fe (.val (.type "range"))) (h1 : Evals c k F a (.int n)) (hlo : -(2 ^ 62) ≤ n) (hhi : n < 2 ^ 62)
    (hattr : eval (.Call fe [a] [] pos) F.env = (do callWith pos (← eval fe F.env) [] (backTo pos (starEach [a] F.env)) []))
    (hs : starEach [a] F.env = [(false, eval a F.env)]) : IterE c k F (.Call fe [a] [] pos) (rangeL n) := by
  intro A s R r Q hq
  rw [hattr]
  refine wpAny_bind (h0 A s R r _ fun v s₁ e₁ rv => ?_)
  simp only [Rd] at rv
  subst rv
  refine callWith_any (F := F) (.inr (.inl ⟨_, rfl⟩)) (r.base.ext e₁).k (fun _ => ⟨a, [], rfl, hs⟩) (by rw [hs]; rfl) ?_
  rw [hs]
  show wpAny c.M A (spliced [(false, eval a F.env)]) _ _ s₁
  refine Calls.spliced_cons (h1 A s₁ R (r.ext e₁) _ fun v s₂ e₂ rv => Calls.spliced_nil ⟨e₂.keep, ?_⟩)
  simp only [Rd] at rv
  obtain ⟨t, rfl⟩ := rv
  show wpAny c.M A (call (.type "range") [.int n t]) _ _ s₂
  refine call_range_1 ?_
  refine wpAny_pyIter_range (IsRange.new ..) (small_one (by decide) (by decide) hlo hhi) ?_
  have hsz : Builtin.Range.rangeSize 0 n 1 = (n.toNat : Int) := by rw [rangeSize_one]; split <;> lia
  generalize hH : (s₂.heap.push { cls := .type "range", data := .fields #[.int 0 s₂.toks, .int n t, .int 1 (s₂.toks + 1)] }) = H
  have ex : Ext s₂ { s₂ with heap := H.push { cls := .type "range_iterator", data := .fields #[rawInt 0, rawInt (Builtin.Range.rangeSize 0 n 1), rawInt 1] }, toks := s₂.toks + 1 + 1 } :=
    Ext.heapLe (fun b o e => Heap.get?_push_of_some _ (hH ▸ Heap.get?_push_of_some _ e)) (Nat.le_trans (Nat.le_succ _) (Nat.le_succ _))
  have W := Walks.range (prog := c.prog) (w := c.w) R.handled H.objs.size 0 1 n.toNat
  have hHn : H.get? H.objs.size = none := get_size_none _
  refine hq _ _ [H.objs.size] [H.objs.size] [] ((e₁.trans e₂).trans ex) (fun Y hY => ?_) ⟨fun b m => ?_, fun b m n => absurd m n, fun _ m => nomatch m⟩
  · refine ⟨_, iter_of W (fun i h st b m => ?_) (fun i h st => ?_) (rangeL n), 0, by simp [rangeL], by simp, ?_, fun j p hp v hv => ?_⟩
    · rw [List.mem_singleton] at m; subst m; exact ⟨_, st⟩
    · exact ⟨_, _, _, st, rfl, rfl, by decide, by decide⟩
    · have e1 : (0 + ((0 : Nat) : Int) * 1) = 0 := by simp
      have e2 : ((n.toNat : Int) - ((0 : Nat) : Int)) = Builtin.Range.rangeSize 0 n 1 := by rw [hsz]; simp
      show IsRangeIter _ _ _ _ _
      rw [e1, e2]
      exact Heap.get?_push_size _ rfl
    · obtain ⟨u, rfl⟩ := hv
      simp only [rangeL, List.getElem?_map, Option.map_eq_some_iff] at hp
      obtain ⟨z, hz, rfl⟩ := hp
      obtain ⟨_, rfl⟩ := List.getElem?_eq_some_iff.mp hz
      simp only [Rd, List.getElem_range]
      exact ⟨u, by simp⟩
  · rw [List.mem_singleton] at m; subst m
    refine keep_none (e₁.trans e₂).keep ?_
    cases q : s₂.heap.get? H.objs.size with
    | none => rfl
    | some o => have := hH ▸ Heap.get?_push_of_some { cls := .type "range", data := .fields #[.int 0 s₂.toks, .int n t, .int 1 (s₂.toks + 1)] } q; rw [hHn] at this; cases this
end

/-- one more item on the list being built -/
theorem Rel.app {c : Cx} {F : Frm} {ρ : List (Option PV)} {s : Shared} {a : Addr} {l : List PV} {p : PV} {v : Value} {h' : Heap} {vs : List Value} (r : Rel c (F.at ρ (some (a, l))) s) (rv : Rd c.lo (a :: F.X0) s p v)
    (hs : Heap.SameBut a s.heap h') (hvs : PlL s.heap a vs.toArray) (rvs : Rds c.lo (a :: F.X0) s l vs) (hl : PlL h' a (vs.toArray.push v)) :
    Rel c (F.at ρ (some (a, l ++ [p]))) { s with heap := h' } ∧ Step F.env (some (a, l)) (some (a, l ++ [p])) s { s with heap := h' } := by
  have hn := (r.own a l rfl).choose_spec.2.2
  have kd : KeepD (a :: F.X0) s.heap h' := fun b o hx _ e => (hs.2 b (fun q => hx (q ▸ List.mem_cons_self))).trans e
  obtain ⟨oa, hoa, _, _, na, hda⟩ := hvs
  have ne : ∀ {b : Addr} {o : Obj}, s.heap.get? b = some o → ¬ GoodObj o → b ≠ a := fun {b o} e ng q => by
    subst q; rw [hoa] at e; cases e; exact ng (good_seq hda)
  refine ⟨⟨r.baseE, fun b o e => (hs.2 b (fun q => ?_)).trans (r.keep b o e), r.env, ?_, fun a' l' e => ?_, fun x b h => ?_, r.x0, r.good, r.low⟩, ⟨rfl, fun _ _ e => e, id, Nat.le_refl _, fun b o _ _ h3 e => (hs.2 b (h3 a l rfl)).trans e, fun a' l' e => ?_, fun b o e => ?_⟩⟩
  · subst q
    rw [show (F.at ρ (some (b, l ++ [p]))).hE = F.hE from rfl] at e
    rw [show (F.at ρ (some (b, l))).hE = F.hE from rfl] at hn
    rw [hn] at e; cases e
  · obtain ⟨m, ⟨oL, es, ep, hL, hd, q⟩, hv⟩ := r.vars
    have nL : F.env.locals ≠ a := ne hL (not_good_dict hd)
    refine ⟨m, ⟨oL, es, ep, (hs.2 _ nL).trans hL, hd, q⟩, fun i x p' h1 h2 => ?_⟩
    obtain ⟨u, hu, ru⟩ := hv i x p' h1 h2
    refine ⟨u, ?_, ru.keepDh kd⟩
    rcases hu with hu | ⟨h1, ca, h2, o, ho, hd⟩ | ⟨h1, q, ca, h2, o, ho, hd⟩
    · exact .inl hu
    · exact .inr (.inl ⟨h1, ca, h2, o, (hs.2 _ (ne ho (not_good_cell hd))).trans ho, hd⟩)
    · exact .inr (.inr ⟨h1, q, ca, h2, o, (hs.2 _ (ne ho (not_good_cell hd))).trans ho, hd⟩)
  · injection e with e
    injection e with e1 e2
    subst e1; subst e2
    refine ⟨vs ++ [v], ?_, ?_, hn⟩
    · have : (vs ++ [v]).toArray = vs.toArray.push v := by simp
      rw [this]; exact hl
    · exact (rvs.keepDh kd).append (Rds.cons (rv.keepDh kd) Rds.nil)
  · obtain ⟨u, o, ho, hd⟩ := r.cells x b h
    exact ⟨u, o, (hs.2 _ (ne ho (not_good_cell hd))).trans ho, hd⟩
  · injection e with e
    injection e with e1 e2
    subst e1
    exact .inl ⟨l, rfl⟩
  · by_cases hb : b = a
    · subst hb; obtain ⟨o', ho', _⟩ := hl; exact ⟨o', ho'⟩
    · exact ⟨o, (hs.2 b hb).trans e⟩

noncomputable def closOf (env : Env) : List (Str × NameKind) → List (Str × Addr) → List (Str × Addr)
  | [], acc => acc
  | (n, kd) :: r, acc => if kd == .free then closOf env r ((n, (env.cells.lookup n).getD 0) :: acc) else closOf env r acc

theorem forIn_clos (env : Env) (f : Str × NameKind → List (Str × Addr) → Sem (ForInStep (List (Str × Addr)))) (hf : ∀ n kd cs, f (n, kd) cs = if (kd == NameKind.free) = true then (do let a ← cellOf env n; pure (.yield ((n, a) :: cs))) else pure (.yield cs)) :
    ∀ (names : List (Str × NameKind)) (acc : List (Str × Addr)), (∀ n, (n, NameKind.free) ∈ names → (env.cells.lookup n).isSome = true) → forIn names acc f = pure (closOf env names acc)
  | [], acc, _ => by rw [List.forIn_nil]; rfl
  | (n, kd) :: r, acc, h => by
    rw [List.forIn_cons, hf]
    unfold closOf
    have hr : ∀ n, (n, NameKind.free) ∈ r → (env.cells.lookup n).isSome = true := fun m hm => h m (List.mem_cons_of_mem _ hm)
    cases hk : kd == NameKind.free with
    | true =>
      simp only [if_true]
      have : kd = .free := by simpa using hk
      subst this
      obtain ⟨a, ha⟩ := Option.isSome_iff_exists.mp (h n List.mem_cons_self)
      have hc : cellOf env n = pure a := by unfold cellOf; rw [ha]
      rw [hc, ha]
      simp only [pure_bind, Option.getD_some]
      exact forIn_clos env f hf r _ hr
    | false =>
      simp only [Bool.false_eq_true, if_false, pure_bind]
      exact forIn_clos env f hf r acc hr

theorem closureFor_of {scope : Scope} {env : Env} (h : ∀ n, (n, NameKind.free) ∈ scope.names → (env.cells.lookup n).isSome = true) : closureFor scope env = pure (closOf env scope.names []) := by
  unfold closureFor
  simp only []
  rw [forIn_clos env _ (fun n kd cs => rfl) scope.names [] h]
  rfl

theorem mem_clos {env : Env} {n : Str} {a : Addr} : ∀ {names : List (Str × NameKind)} {acc : List (Str × Addr)}, (n, a) ∈ closOf env names acc → (n, a) ∈ acc ∨ ((n, NameKind.free) ∈ names ∧ a = (env.cells.lookup n).getD 0)
  | [], _, h => .inl h
  | (m, kd) :: r, acc, h => by
    unfold closOf at h
    split at h
    · rename_i hk
      have hk : kd = .free := by simpa using hk
      subst hk
      rcases mem_clos h with h | ⟨h1, h2⟩
      · rcases List.mem_cons.mp h with h | h
        · cases h; exact .inr ⟨List.mem_cons_self, rfl⟩
        · exact .inl h
      · exact .inr ⟨List.mem_cons_of_mem _ h1, h2⟩
    · rcases mem_clos h with h | ⟨h1, h2⟩
      · exact .inl h
      · exact .inr ⟨List.mem_cons_of_mem _ h1, h2⟩
theorem clos_mem {env : Env} {n : Str} : ∀ {names : List (Str × NameKind)} {acc : List (Str × Addr)}, ((n, (env.cells.lookup n).getD 0) ∈ acc ∨ (n, NameKind.free) ∈ names) → (n, (env.cells.lookup n).getD 0) ∈ closOf env names acc
  | [], _, h => by rcases h with h | h; exact h; cases h
  | (m, kd) :: r, acc, h => by
    unfold closOf
    split
    · rename_i hk
      have hk : kd = .free := by simpa using hk
      subst hk
      refine clos_mem ?_
      rcases h with h | h
      · exact .inl (List.mem_cons_of_mem _ h)
      · rcases List.mem_cons.mp h with h | h
        · cases h; exact .inl List.mem_cons_self
        · exact .inr h
    · rename_i hk
      refine clos_mem ?_
      rcases h with h | h
      · exact .inl h
      · rcases List.mem_cons.mp h with h | h
        · cases h; exact absurd rfl hk
        · exact .inr h
theorem lookup_one {l : List (Str × Addr)} {n : Str} {a : Addr} (h1 : (n, a) ∈ l) (h2 : ∀ b, (n, b) ∈ l → b = a) : l.lookup n = some a := by
  induction l with
  | nil => cases h1
  | cons y l ih =>
    obtain ⟨m, b⟩ := y
    rw [List.lookup_cons]
    cases hb : n == m with
    | true =>
      have : n = m := eq_of_beq hb
      subst this
      rw [h2 b List.mem_cons_self]
    | false =>
      refine ih ?_ fun b hb' => h2 b (List.mem_cons_of_mem _ hb')
      rcases List.mem_cons.mp h1 with e | h
      · cases e; simp at hb
      · exact h
theorem lookup_clos {env : Env} {names : List (Str × NameKind)} {n : Str} (h : (n, NameKind.free) ∈ names) (hs : (env.cells.lookup n).isSome = true) : (closOf env names []).lookup n = env.cells.lookup n := by
  obtain ⟨a, ha⟩ := Option.isSome_iff_exists.mp hs
  rw [ha]
  refine lookup_one (by have := clos_mem (env := env) (acc := []) (.inr h); rwa [ha] at this) fun b hb => ?_
  rcases mem_clos hb with h | ⟨_, h⟩
  · cases h
  · rw [ha] at h; exact h
theorem clos_lookup {env : Env} {names : List (Str × NameKind)} {n : Str} {a : Addr} (h : (closOf env names []).lookup n = some a) (hs : ∀ n, (n, NameKind.free) ∈ names → (env.cells.lookup n).isSome = true) : (n, NameKind.free) ∈ names ∧ env.cells.lookup n = some a := by
  rcases mem_clos (PySem.mem_of_lookup h) with q | ⟨h1, h2⟩
  · cases q
  · obtain ⟨b, hb⟩ := Option.isSome_iff_exists.mp (hs n h1)
    rw [hb] at h2
    exact ⟨h1, by rw [hb, h2]; rfl⟩
end Mine
namespace Mine
open PySem PySem.W PyProof.Rows

noncomputable def cmpEnv (scope : Scope) (env : Env) (L : Addr) (x : Str) (oc : Bool) : Env :=
  { scope := relabel scope env, locals := L, globals := env.globals, cells := (if oc then [(x, L + 1)] else []) ++ closOf env scope.names [], qual := env.qual, func := none, code := env.code, frame := env.frame, builtins := env.builtins }

theorem newEnv_comp {M : Model} {A : Around} {E : Value → Shared → Prop} {s : Shared} {scope : Scope} {globals : Addr} {cl : List (Str × Addr)} {qual : Str} {env : Env} {x : Str} {oc : Bool} {Q : Env → Shared → Prop}
    (hcell : ∀ n acc, cellsFrom n scope.names acc = (if oc then [(x, n)] else []) ++ acc) (hpush : ∀ h, pushCells h scope.names = if oc then h.push { cls := .type "cell", data := .cell none } else h)
    (h : Q { scope := scope, locals := s.heap.objs.size, globals := globals, cells := (if oc then [(x, s.heap.objs.size + 1)] else []) ++ cl, qual := qual, func := none, code := env.code, frame := env.frame, builtins := env.builtins }
      { s with heap := if oc then (s.heap.push { cls := .type "dict", data := .dict #[] }).push { cls := .type "cell", data := .cell none } else s.heap.push { cls := .type "dict", data := .dict #[] } }) :
    wpAny M A (newFunctionEnv scope globals cl [] qual none .none (some env)) Q E s := by
  simp only [newFunctionEnv, Option.isSome_some, if_true]
  refine wpAny_bind (wpAny_alloc ?_)
  refine wpAny_bind (wpAny_layCells _ (fun name kind cells => by cases hkc : kind == NameKind.cell <;> simp [hkc]) _ _ _ _ ?_)
  rw [hcell, hpush]
  rw [show ({ s with heap := s.heap.push { cls := .type "dict", data := .dict #[] } } : Shared).heap.objs.size = s.heap.objs.size + 1 from Heap.size_push ..]
  simp only [List.forIn_nil, pure_bind]
  exact wpAny_pure h

inductive Caps (F : Frm) : List Str → List (Option PV) → Prop
  | nil : Caps F [] []
  | cons (i : Nat) {y : Str} {ys : List Str} {p : Option PV} {ps : List (Option PV)} : F.names[i]? = some y → F.rho[i]? = some p → Caps F ys ps → Caps F (y :: ys) (p :: ps)
theorem Caps.get {F : Frm} {ys ps} (h : Caps F ys ps) : ∀ {j : Nat} {y : Str} {p : Option PV}, ys[j]? = some y → ps[j]? = some p → ∃ i : Nat, F.names[i]? = some y ∧ F.rho[i]? = some p := by
  induction h with
  | nil => intro j y p h; simp at h
  | cons i h1 h2 _ ih =>
    intro j y p e1 e2
    cases j with
    | zero => simp at e1 e2; subst e1; subst e2; exact ⟨i, h1, h2⟩
    | succ j => exact ih (by simpa using e1) (by simpa using e2)

noncomputable def cmpFrm (F : Frm) (scope : Scope) (x : Str) (oc : Bool) (fvs : List Str) (L : Addr) (hE : Heap) : Frm :=
  { env := cmpEnv scope F.env L x oc, hE := hE, names := x :: fvs, rho := [], own := none, X0 := F.X }

noncomputable def TestsAll (c : Cx) (k : Nat) (F : Frm) (ifs : List Expr) (b : Bool) : Prop :=
  ∀ A s, Room k A → Rel c F s → ∀ Q : Bool → Shared → Prop, (∀ s', Ext s s' → Q b s') →
    wpAny c.M A (forIn ifs true fun c r => if r = true then do let ok ← isTrue c F.env (eval c F.env); pure (ForInStep.yield ok) else pure (ForInStep.yield r)) Q (fun _ _ => False) s
theorem ta_nil {c k F} : TestsAll c k F [] true := fun A s _ _ Q h => by rw [List.forIn_nil]; exact wpAny_pure (h s (Ext.refl s))
theorem ta_one {c k F} {t : Expr} {b : Bool} (h1 : Tests c k F t b) : TestsAll c k F [t] b := fun A s R r Q h => by
  rw [List.forIn_cons]
  simp only [if_true]
  refine wpAny_bind (wpAny_bind (h1 A s R r _ fun s' e => wpAny_pure ?_))
  simp only [List.forIn_nil]
  exact wpAny_pure (h s' e)

/-- the side conditions of a comprehension's scope -/
structure ScopeOk (F : Frm) (scope : Scope) (x : Str) (oc : Bool) (fvs : List Str) : Prop where
  kind : scope.kind = .function
  names : (scope.names.all fun y => y.2 != .local || scope.names.lookup y.1 == some .local) = true
  free : (scope.names.all fun y => y.2 != .free || (F.env.cells.lookup y.1).isSome) = true
  cell : ∀ n acc, cellsFrom n scope.names acc = (if oc then [(x, n)] else []) ++ acc
  push : ∀ h, pushCells h scope.names = if oc then h.push { cls := .type "cell", data := .cell none } else h
  xk : scope.names.lookup x = some (if oc then .cell else .local)
  xf : (scope.names.all fun y => y.2 != .free || y.1 != x) = true
  nodup : (x :: fvs).Nodup
  fvs : (fvs.all fun y => scope.names.lookup y == some .free && (F.env.kindOf y == some .cell || F.env.kindOf y == some .free) && !(y == ("__classdict__" : Str))) = true

theorem lookup_relabel_free {env : Env} (hk : env.scope.kind = .function) : ∀ {names : List (Str × NameKind)} {y : Str}, names.lookup y = some .free →
    (names.map fun (n, k) => if (k == NameKind.free && env.scope.kind == .function && env.kindOf n == some .cell) then (n, NameKind.cell) else (n, k)).lookup y = some (if env.kindOf y == some .cell then .cell else .free)
  | [], _, h => by simp at h
  | (n, k) :: r, y, h => by
    have ih := @lookup_relabel_free env hk r y
    rw [List.lookup_cons] at h
    rw [List.map_cons]
    cases hx : y == n with
    | true =>
      rw [hx] at h
      simp only [Option.some.injEq] at h
      subst h
      have : y = n := eq_of_beq hx
      subst this
      simp only [hk, beq_self_eq_true, Bool.true_and]
      by_cases hc : env.kindOf y = some .cell
      · simp [hc, List.lookup_cons]
      · have : (env.kindOf y == some .cell) = false := by simpa using hc
        simp [this, List.lookup_cons]
    | false =>
      rw [hx] at h
      have h := ih h
      show List.lookup y ((if (k == NameKind.free && env.scope.kind == .function && env.kindOf n == some .cell) = true then (n, NameKind.cell) else (n, k)) :: _) = _
      by_cases hc : (k == NameKind.free && env.scope.kind == .function && env.kindOf n == some .cell) = true
      · rw [if_pos hc, List.lookup_cons, hx]; exact h
      · rw [if_neg hc, List.lookup_cons, hx]; exact h
theorem lookup_relabel_other {env : Env} {kd : NameKind} (hkd : kd ≠ .free) : ∀ {names : List (Str × NameKind)} {y : Str}, names.lookup y = some kd →
    (names.map fun (n, k) => if (k == NameKind.free && env.scope.kind == .function && env.kindOf n == some .cell) then (n, NameKind.cell) else (n, k)).lookup y = some kd
  | [], _, h => by simp at h
  | (n, k) :: r, y, h => by
    have ih := @lookup_relabel_other env kd hkd r y
    rw [List.lookup_cons] at h
    rw [List.map_cons]
    cases hx : y == n with
    | true =>
      rw [hx] at h
      simp only [Option.some.injEq] at h
      subst h
      have : (k == NameKind.free) = false := by simpa using hkd
      simp [this, List.lookup_cons, hx]
    | false =>
      rw [hx] at h
      have h := ih h
      show List.lookup y ((if (k == NameKind.free && env.scope.kind == .function && env.kindOf n == some .cell) = true then (n, NameKind.cell) else (n, k)) :: _) = _
      by_cases hc : (k == NameKind.free && env.scope.kind == .function && env.kindOf n == some .cell) = true
      · rw [if_pos hc, List.lookup_cons, hx]; exact h
      · rw [if_neg hc, List.lookup_cons, hx]; exact h

section
variable {c : Cx} {k : Nat} {F : Frm} {scope : Scope} {x : Str} {oc : Bool} {fvs : List Str} {vals : List (Option PV)}

theorem cmp_free (O : ScopeOk F scope x oc fvs) : ∀ n, (n, NameKind.free) ∈ scope.names → (F.env.cells.lookup n).isSome = true := fun n h => by
  have := List.all_eq_true.mp O.free _ h
  simpa using this
theorem cmp_xf (O : ScopeOk F scope x oc fvs) : (x, NameKind.free) ∉ scope.names := fun h => by
  have := List.all_eq_true.mp O.xf _ h
  simp at this

theorem cmp_lookup {L : Addr} {hE : Heap} (O : ScopeOk F scope x oc fvs) {y : Str} {a : Addr} (h : (cmpFrm F scope x oc fvs L hE).env.cells.lookup y = some a) : (oc = true ∧ y = x ∧ a = L + 1) ∨ (y ≠ x ∧ (y, NameKind.free) ∈ scope.names ∧ F.env.cells.lookup y = some a) := by
  have h : ((if oc then [(x, L + 1)] else []) ++ closOf F.env scope.names []).lookup y = some a := h
  have cl : (closOf F.env scope.names []).lookup y = some a → y ≠ x ∧ (y, NameKind.free) ∈ scope.names ∧ F.env.cells.lookup y = some a := fun q => by
    obtain ⟨h1, h2⟩ := clos_lookup q (cmp_free O)
    exact ⟨fun e => cmp_xf O (e ▸ h1), h1, h2⟩
  cases oc with
  | false => exact .inr (cl h)
  | true =>
    simp only [if_true, List.cons_append, List.nil_append, List.lookup_cons] at h
    cases hb : y == x with
    | true => rw [hb] at h; cases h; exact .inl ⟨rfl, eq_of_beq hb, rfl⟩
    | false => rw [hb] at h; exact .inr (cl h)

theorem mem_of_lookupK {names : List (Str × NameKind)} {y : Str} {kd : NameKind} (h : names.lookup y = some kd) : (y, kd) ∈ names := PySem.mem_of_lookup h

theorem cmp_cap {L : Addr} {hE : Heap} (O : ScopeOk F scope x oc fvs) {y : Str} (hy : y ∈ fvs) : (cmpFrm F scope x oc fvs L hE).env.cells.lookup y = F.env.cells.lookup y := by
  have h1 := List.all_eq_true.mp O.fvs y hy
  simp only [Bool.and_eq_true, beq_iff_eq, Bool.or_eq_true] at h1
  have hm := mem_of_lookupK h1.1.1
  have hne : y ≠ x := fun e => cmp_xf O (e ▸ hm)
  show ((if oc then [(x, L + 1)] else []) ++ closOf F.env scope.names []).lookup y = _
  have e := lookup_clos hm (cmp_free O y hm)
  cases oc with
  | false => exact e
  | true =>
    have : (y == x) = false := by simpa using hne
    simp only [if_true, List.cons_append, List.nil_append, List.lookup_cons, this]
    exact e

/-- the frame of a comprehension, as it begins -/
theorem cmp_rel {s s₄ : Shared} {L D : Addr} (r : Rel c F s) (O : ScopeOk F scope x oc fvs) (cap : Caps F fvs vals) (e : Ext s s₄) (hL : s.heap.get? L = none) (hD : s.heap.get? D = none) (hns : s₄.heap.Ns L (fun _ => none)) (hc : oc = true → s₄.heap.IsCell (L + 1) none) (hL1 : s.heap.get? (L + 1) = none)
    (hl : PlL s₄.heap D #[]) : Rel c ((cmpFrm F scope x oc fvs L s.heap).at (none :: vals) (some (D, []))) s₄ := by
  refine ⟨r.base, e.keep, ⟨O.kind, r.env.glob, r.env.bui, fun y z a h1 h2 => ?_⟩, ⟨_, hns, fun i y p h1 h2 => ?_⟩, fun a l h => ?_, fun y a h => ?_, fun a m => ?_, e.good r.good, Nat.le_trans r.low e.le⟩
  · rcases cmp_lookup (hE := s.heap) O h1 with ⟨_, rfl, rfl⟩ | ⟨_, _, q1⟩ <;> rcases cmp_lookup (hE := s.heap) O h2 with ⟨_, rfl, e2⟩ | ⟨_, _, q2⟩
    · rfl
    · obtain ⟨v, o, ho, _⟩ := r.cells _ _ q2; rw [hL1] at ho; cases ho
    · subst e2; obtain ⟨v, o, ho, _⟩ := r.cells _ _ q1; rw [hL1] at ho; cases ho
    · exact r.env.apart _ _ _ q1 q2
  · cases i with
    | zero => have h2 : (none :: vals)[0]? = some (some p) := h2; simp at h2
    | succ i =>
      have h1 : (x :: fvs)[i + 1]? = some y := h1
      have h2 : (none :: vals)[i + 1]? = some (some p) := h2
      simp only [List.getElem?_cons_succ] at h1 h2
      obtain ⟨j, e1, e2⟩ := cap.get h1 h2
      obtain ⟨m, hn, hv⟩ := r.vars
      obtain ⟨v, hva, rv⟩ := hv j y p e1 e2
      have hy : y ∈ fvs := List.mem_of_getElem? h1
      have hf := List.all_eq_true.mp O.fvs y hy
      simp only [Bool.and_eq_true, beq_iff_eq, Bool.or_eq_true, Bool.not_eq_true'] at hf
      have hkd := lookup_relabel_free (env := F.env) r.env.kind hf.1.1
      have hcl := cmp_cap (L := L) (hE := s.heap) O hy
      refine ⟨v, ?_, ?_⟩
      · have key : ∀ ca, F.env.cells.lookup y = some ca → s.heap.IsCell ca (some v) → VarAt s₄.heap (cmpEnv scope F.env L x oc) (fun _ => none) y v := by
          intro ca h3 h4
          cases hb : F.env.kindOf y == some .cell with
          | true =>
            rw [hb] at hkd
            exact .inr (.inl ⟨hkd, ca, hcl.trans h3, h4.keeps e.keep⟩)
          | false =>
            rw [hb] at hkd
            exact .inr (.inr ⟨hkd, hf.2, ca, hcl.trans h3, h4.keeps e.keep⟩)
        rcases hva with ⟨h3, _⟩ | ⟨_, ca, h3, h4⟩ | ⟨_, _, ca, h3, h4⟩
        · rcases hf.1.2 with q | q <;> rw [h3] at q <;> cases q
        · exact key ca h3 h4
        · exact key ca h3 h4
      · have := Rd.more (Y := [D]) (fun a m => by rw [List.mem_singleton] at m; subst m; exact hD) rv
        exact Rd.ext e this
  · injection h with h
    injection h with h1 h2
    subst h1; subst h2
    exact ⟨[], hl, Rds.nil, hD⟩
  · rcases cmp_lookup (hE := s.heap) O h with ⟨h1, _, rfl⟩ | ⟨_, _, q1⟩
    · exact ⟨_, hc h1⟩
    · obtain ⟨v, hv⟩ := r.cells _ _ q1
      exact ⟨v, hv.keeps e.keep⟩
  · obtain ⟨⟨o, ho⟩, hk⟩ := r.xok.out a m
    exact ⟨⟨o, ho⟩, hk⟩
end
end Mine
namespace Mine
open PySem PySem.W PyProof.Rows

section
variable {c : Cx} {k : Nat} {F : Frm} {scope : Scope} {x : Str} {oc : Bool} {fvs : List Str} {vals : List (Option PV)}

theorem slot_cmp {L : Addr} {hE : Heap} (O : ScopeOk F scope x oc fvs) : Slot (cmpFrm F scope x oc fvs L hE) 0 x := by
  refine ⟨rfl, ?_⟩
  have hx := O.xk
  cases oc with
  | false => exact .inl (lookup_relabel_other (by decide) hx)
  | true =>
    refine .inr ⟨lookup_relabel_other (by decide) hx, ?_⟩
    show (([(x, L + 1)] ++ closOf F.env scope.names []).lookup x).isSome = true
    simp [List.lookup_cons]

theorem comp_loop {A : Around} (R : Room k A) {s : Shared} {L D : Addr} {elt iter : Expr} {px pos : Pos} {ifs : List Expr} {it : Value} {fp wr : List Addr} {gw : List Nat} {St : List PV → Shared → Prop} (O : ScopeOk F scope x oc fvs)
    (I : Iter c A (D :: F.X) it fp wr gw St) (off : ∀ l, Off (cmpFrm F scope x oc fvs L s.heap) (some (D, l)) fp) (hf : ∀ b ∈ wr, s.heap.get? b = none) (hg : ∀ g ∈ gw, s.gens[g]? = none) (hL : s.heap.get? L = none) (hL1 : s.heap.get? (L + 1) = none) (hDL : D ≠ L)
    {xs : List PV} (tb : PV → Bool) (ev : PV → PV) (hsz : xs.length ≤ sizeLine)
    (ok : ∀ p ∈ xs, ∀ w, TestsAll c k ((cmpFrm F scope x oc fvs L s.heap).at (some p :: vals) w) ifs (tb p) ∧ (tb p = true → Evals c k ((cmpFrm F scope x oc fvs L s.heap).at (some p :: vals) w) elt (ev p)))
    {RR : Result → Shared → Prop}
    (hRR : ∀ s' vs m, Ext s s' → s'.heap.Ns L m → s'.heap.IsList D vs.toArray → Rds c.lo (D :: F.X) s' ((xs.filter tb).map ev) vs → RR (.ok .next) s')
    {s₄ : Shared} (r₄ : Rel c ((cmpFrm F scope x oc fvs L s.heap).at (none :: vals) (some (D, []))) s₄) (st₄ : St xs s₄) (hos : s₄.os = s.os) (hgens : ∀ (g : Nat) (z : GenState), s.gens[g]? = some z → s₄.gens[g]? = some z) (hbare : AllBare s.gens → AllBare s₄.gens) (hle : s.toks ≤ s₄.toks) :
    codeAny c.M A (.compLoop (.ListComp elt [⟨.Name x px, iter, ifs, 0⟩] scope pos) 0 it (.ref D) (cmpEnv scope F.env L x oc)) RR s₄ := by
  refine codeAny_compLoop_tests
    (fun n s' => ∃ rest l q, n = rest.length ∧ (∀ p ∈ rest, p ∈ xs) ∧ Rel c ((cmpFrm F scope x oc fvs L s.heap).at (q :: vals) (some (D, l))) s' ∧ St rest s' ∧ l ++ (rest.filter tb).map ev = (xs.filter tb).map ev ∧ l.length + rest.length ≤ xs.length ∧
      s'.os = s.os ∧ (∀ (g : Nat) (z : GenState), s.gens[g]? = some z → s'.gens[g]? = some z) ∧ (AllBare s.gens → AllBare s'.gens) ∧ s.toks ≤ s'.toks) ?_ xs.length
    ⟨xs, [], none, rfl, fun _ m => m, r₄, st₄, rfl, by simp, hos, hgens, hbare, hle⟩
  rintro n s' ⟨rest, l, q, rfl, hsub, r, st, htot, hlen, ho, hgn, hb, hk⟩
  have ng : ∀ b ∈ wr, ∃ o, s'.heap.get? b = some o ∧ ¬ GoodObj o := fun b hb => let ⟨o, h1, h2⟩ := I.dom _ _ st b (I.sub b hb); ⟨o, h1, h2 hb⟩
  have offw : ∀ l, Off (cmpFrm F scope x oc fvs L s.heap) (some (D, l)) wr := fun l b hb => off l b (I.sub b hb)
  have gw' : ∀ {a b : Shared}, (∀ (g : Nat) (z : GenState), s.gens[g]? = some z → a.gens[g]? = some z) → StepW wr gw a b → ∀ (g : Nat) (z : GenState), s.gens[g]? = some z → b.gens[g]? = some z :=
    fun h sw g z e => sw.gens g z (fun m => by rw [hg g m] at e; cases e) (h g z e)
  cases rest with
  | nil =>
    refine mono0 (I.done s' _ r.fine st fun s₁ sw => ?_)
    have r₁ := r.stepW sw (offw l) ng hf
    obtain ⟨vs, h1, h2, _⟩ := r₁.own D l rfl
    obtain ⟨m, hn, _⟩ := r₁.vars
    have e : l = (xs.filter tb).map ev := by simpa using htot
    exact hRR s₁ vs m ⟨r₁.keep, sw.os.trans ho, gw' hgn sw, fun h => sw.bare (hb h), Nat.le_trans hk sw.le⟩ hn h1.list (e ▸ h2)
  | cons p rest =>
    refine mono0 (I.item p rest s' _ r.fine st fun v s₁ sw rv st₁ => ?_)
    have r₁ := r.stepW sw (offw l) ng hf
    have kp : ∀ {w' : Ow} {a b : Shared} {ρ₁ : List (Option PV)} {l₁ : List PV}, Rel c ((cmpFrm F scope x oc fvs L s.heap).at ρ₁ (some (D, l₁))) a → St rest a → Step (cmpEnv scope F.env L x oc) (some (D, l₁)) w' a b → St rest b := fun {w' a b ρ₁ l₁} ra sa st' =>
      I.stable rest a b sa (fun q hq' o ho => st'.keep q o (off l₁ q hq').1 (off l₁ q hq').2.1 (off l₁ q hq').2.2 ho) (keepD_step ra st') st'.le (fun g _ z hz => st'.gens g z hz)
    refine mono0 (assign_Name ?_)
    refine store_any (F := (cmpFrm F scope x oc fvs L s.heap).at (q :: vals) (some (D, l))) O.nodup hL (fun a ha => ?_) (slot_cmp (L := L) (hE := s.heap) O) r₁ rv fun s₂ e₂ r₂ => ?_
    · rcases cmp_lookup (hE := s.heap) O ha with ⟨_, _, rfl⟩ | ⟨h, _⟩
      · exact hL1
      · exact absurd rfl h
    have r₂ : Rel c ((cmpFrm F scope x oc fvs L s.heap).at (some p :: vals) (some (D, l))) s₂ := r₂
    have st₂ := kp r₁ st₁ e₂
    have hp := ok p (hsub p List.mem_cons_self) (some (D, l))
    refine mono0 (hp.1 A s₂ R r₂ _ fun s₃ e₃ => ?_)
    have r₃ := r₂.ext e₃
    have st₃ := kp r₂ st₂ e₃.s
    have os₃ : s₃.os = s.os := e₃.os.trans (e₂.os.trans (sw.os.trans ho))
    have gn₃ : ∀ (g : Nat) (z : GenState), s.gens[g]? = some z → s₃.gens[g]? = some z := fun g z h => e₃.gens g z (e₂.gens g z (gw' hgn sw g z h))
    have br₃ : AllBare s.gens → AllBare s₃.gens := fun h => e₃.bare (e₂.bare (sw.bare (hb h)))
    have le₃ : s.toks ≤ s₃.toks := Nat.le_trans hk (Nat.le_trans sw.le (Nat.le_trans e₂.le e₃.le))
    have hsub' : ∀ p ∈ rest, p ∈ xs := fun p m => hsub p (List.mem_cons_of_mem _ m)
    cases hb : tb p with
    | false =>
      simp only [Bool.false_eq_true, if_false]
      refine ⟨rest.length, by simp, rest, l, some p, rfl, hsub', r₃, st₃, ?_, by simp only [List.length_cons] at hlen; lia, os₃, gn₃, br₃, le₃⟩
      rw [← htot, List.filter_cons, hb]; simp
    | true =>
      simp only [if_true]
      refine mono0 (hp.2 hb A s₃ R r₃ _ fun y s₄ e₄ ry => ?_)
      have r₄ := r₃.ext e₄
      have st₄ := kp r₃ st₃ e₄.s
      obtain ⟨vs, h1, h2, _⟩ := r₄.own D l rfl
      refine mono0 (list_append_plainL h1.plain (fun h' hl hs => ?_) (by rw [List.size_toArray, h2.length]; simp only [List.length_cons] at hlen; lia))
      obtain ⟨r₅, e₅⟩ := r₄.app ry hs h1 h2 (PlL.of hl)
      refine ⟨rest.length, by simp, rest, l ++ [ev p], some p, rfl, hsub', r₅, kp r₄ st₄ e₅, ?_, by simp only [List.length_cons, List.length_append, List.length_nil] at hlen ⊢; lia, ?_, ?_, ?_, Nat.le_trans le₃ (Nat.le_trans e₄.le e₅.le)⟩
      · rw [← htot, List.filter_cons, hb]; simp
      · exact e₅.os.trans (e₄.os.trans os₃)
      · exact fun g z h => e₅.gens g z (e₄.gens g z (gn₃ g z h))
      · exact fun h => e₅.bare (e₄.bare (br₃ h))

theorem comp_core {A : Around} (R : Room k A) {s s₂ : Shared} {elt iter : Expr} {px pos : Pos} {ifs : List Expr} {it : Value} {fp wr : List Addr} {gw : List Nat} (r : Rel c F s) (O : ScopeOk F scope x oc fvs) (cap : Caps F fvs vals)
    (e₂ : Ext s s₂) {xs : List PV} (H : ∀ Y : List Addr, (∀ a ∈ Y, s₂.heap.get? a = none) → ∃ St, Iter c A (Y ++ F.X) it fp wr gw St ∧ St xs s₂) (N : NewIt F.X s fp wr gw)
    (tb : PV → Bool) (ev : PV → PV) (hsz : xs.length ≤ sizeLine)
    (ok : ∀ p ∈ xs, ∀ L w, TestsAll c k ((cmpFrm F scope x oc fvs L s.heap).at (some p :: vals) w) ifs (tb p) ∧ (tb p = true → Evals c k ((cmpFrm F scope x oc fvs L s.heap).at (some p :: vals) w) elt (ev p)))
    {RR : Value → Addr → Result → Shared → Prop}
    (hRR : ∀ s' D C vs m, Ext s s' → s.heap.get? D = none → s.heap.get? C = none → D ≠ C → s'.heap.Ns C m → s'.heap.IsList D vs.toArray → Rds c.lo (D :: F.X) s' ((xs.filter tb).map ev) vs → RR (.ref D) C (.ok .next) s') :
    wpAny c.M A (newList []) (fun acc s₃ => wpAny c.M A (newFunctionEnv scope F.env.globals (closOf F.env scope.names []) [] F.env.qual none .none (some F.env)) (fun cenv s₄ =>
      codeAny c.M A (.compStart (.ListComp elt [⟨.Name x px, iter, ifs, 0⟩] scope pos) 0 it acc { cenv with scope := relabel scope F.env }) (RR acc cenv.locals) s₄) (fun _ _ => False) s₃) (fun _ _ => False) s₂ := by
  refine wpAny_newObj_type (newEnv_comp O.cell O.push ?_)
  generalize hD : s₂.heap.objs.size = D
  generalize hH3 : s₂.heap.push { cls := .type "list", dict := none, data := .seq ([] : List Value).toArray } = H3
  have hL : H3.objs.size = D + 1 := by rw [← hH3, Heap.size_push, hD]
  dsimp only
  rw [hL]
  generalize hL' : D + 1 = L at hL
  generalize hs₄ : (if oc = true then (H3.push { cls := .type "dict", data := .dict #[] }).push { cls := .type "cell", data := .cell none } else H3.push { cls := .type "dict", data := .dict #[] }) = H4
  have k3 : Keep s₂.heap H3 := fun b o e => hH3 ▸ Heap.get?_push_of_some _ e
  have k4 : Keep (H3.push { cls := .type "dict", data := .dict #[] }) H4 := fun b o e => by
    rw [← hs₄]; cases oc
    · exact e
    · exact Heap.get?_push_of_some _ e
  have k34 : Keep H3 H4 := fun b o e => k4 b o (Heap.get?_push_of_some _ e)
  have k24 : Keep s₂.heap H4 := fun b o e => k34 b o (k3 b o e)
  have gD : s₂.heap.get? D = none := hD ▸ get_size_none _
  have gL : s₂.heap.get? L = none := by
    cases q : s₂.heap.get? L with
    | none => rfl
    | some o => have := Heap.lt_size q; rw [hD, ← hL'] at this; exact absurd (Nat.lt_of_succ_lt this) (Nat.lt_irrefl _)
  have gL1 : s₂.heap.get? (L + 1) = none := by
    cases q : s₂.heap.get? (L + 1) with
    | none => rfl
    | some o => have := Heap.lt_size q; rw [hD, ← hL'] at this; exact absurd (Nat.lt_of_succ_lt (Nat.lt_of_succ_lt this)) (Nat.lt_irrefl _)
  have lD : PlL H4 D #[] := by
    refine ⟨_, k34 _ _ (by rw [← hH3, ← hD]; exact Heap.get?_push_size _ rfl), rfl, rfl, _, rfl⟩
  have nL : H4.Ns L (fun _ => none) := by
    have := (Heap.Ns.new H3 (.type "dict"))
    rw [hL] at this
    exact this.keeps k4
  have cL : oc = true → H4.IsCell (L + 1) none := by
    rintro rfl
    rw [← hs₄]
    simp only [if_true]
    have : (H3.push { cls := .type "dict", data := .dict #[] }).objs.size = L + 1 := by rw [Heap.size_push, hL]
    rw [← this]
    exact ⟨_, Heap.get?_push_size _ rfl, rfl⟩
  obtain ⟨St, I, st⟩ := H [D] (fun a m => by rw [List.mem_singleton] at m; subst m; exact gD)
  have I : Iter c A (D :: F.X) it fp wr gw St := I
  have kn := fun a => @keep_none _ _ e₂.keep a
  generalize hS4 : ({ s₂ with heap := H4 } : Shared) = s₄
  have e24 : Ext s₂ s₄ := hS4 ▸ ⟨k24, rfl, fun _ _ e => e, id, Nat.le_refl _⟩
  have hH4 : s₄.heap = H4 := by rw [← hS4]
  have r₄ := cmp_rel (vals := vals) r O cap (e₂.trans e24) (kn _ gL) (kn _ gD) (hH4 ▸ nL) (fun h => hH4 ▸ cL h) (kn _ gL1) (hH4 ▸ lD)
  have st₄ : St xs s₄ := I.stable xs s₂ s₄ st (fun b _ o e => e24.keep b o e) (fun b o _ _ e => e24.keep b o e) e24.le (fun g _ z e => e24.gens g z e)
  have dom2 : ∀ b ∈ fp, ∃ o, s₂.heap.get? b = some o := fun b hb => let ⟨o, h1, _⟩ := I.dom _ _ st b hb; ⟨o, h1⟩
  have off : ∀ l, Off (cmpFrm F scope x oc fvs L s.heap) (some (D, l)) fp := fun l b hb => by
    obtain ⟨o, ho⟩ := dom2 b hb
    refine ⟨?_, fun y hy => ?_, fun a l' h => ?_⟩
    · intro q
      have q : b = L := q
      rw [q, gL] at ho; cases ho
    · rcases cmp_lookup (hE := s.heap) O hy with ⟨_, _, rfl⟩ | ⟨_, _, hc⟩
      · rw [gL1] at ho; cases ho
      · obtain ⟨o', ho', ng⟩ := cell_obj r hc
        by_cases hw : b ∈ wr
        · rw [N.fresh b hw] at ho'; cases ho'
        · rcases (N.old b hb hw).2 with h | ⟨o'', h, g⟩
          · rw [h] at ho'; cases ho'
          · rw [h] at ho'; cases ho'; exact ng g
    · injection h with h
      injection h with h1 h2
      subst h1
      rintro rfl
      rw [gD] at ho; cases ho
  have loop := comp_loop (elt := elt) (iter := iter) (px := px) (pos := pos) (ifs := ifs) (vals := vals) R O I off N.fresh N.gens (kn _ gL) (kn _ gL1) (by rw [← hL']; exact Nat.ne_of_lt (Nat.lt_succ_self _)) tb ev hsz (fun p hp w => ok p hp L w)
    (RR := RR (.ref D) L) (fun s' vs m e hn hl rd => hRR s' D L vs m e (kn _ gD) (kn _ gL) (by rw [← hL']; exact Nat.ne_of_lt (Nat.lt_succ_self _)) hn hl rd) r₄ st₄
    (e24.os.trans e₂.os) (fun g z h => e24.gens g z (e₂.gens g z h)) (fun h => e24.bare (e₂.bare h)) (Nat.le_trans e₂.le e24.le)
  exact codeAny_compStart_list loop (mono0 (I.self xs s₄ _ st₄ loop))

theorem comp_end {s s' : Shared} {D C : Addr} {vs : List Value} {m : Str → Option Value} {l : List PV} {h' : Heap} (r : Rel c F s) (e : Ext s s') (hD : s.heap.get? D = none) (hC : s.heap.get? C = none) (hDC : D ≠ C) (hn : s'.heap.Ns C m)
    (hl : s'.heap.IsList D vs.toArray) (rd : Rds c.lo (D :: F.X) s' l vs) (hs : Heap.SameBut C s'.heap h') : Ext s { s' with heap := h' } ∧ Rd c.lo F.X { s' with heap := h' } (.lst l) (.ref D) := by
  refine ⟨⟨fun b o q => (hs.2 b (fun z => ?_)).trans (e.keep b o q), e.os, e.gens, e.bare, e.le⟩, ?_⟩
  · subst z; rw [hC] at q; cases q
  · simp only [Rd]
    refine ⟨D, vs, rfl, fun m => ?_, hl.extBut hs.extBut hDC, (rd.keepDh (keepD_dict hn hs)).less fun a m => List.mem_cons_of_mem _ m⟩
    obtain ⟨⟨o, ho⟩, _⟩ := r.xok.out D m
    rw [hD] at ho; cases ho

theorem e_comp {elt iter : Expr} {px pos : Pos} {ifs : List Expr} (O : ScopeOk F scope x oc fvs) (cap : Caps F fvs vals) {xs : List PV} (hi : IterE c k F iter xs) (tb : PV → Bool) (ev : PV → PV) (hsz : xs.length ≤ sizeLine)
    (ok : ∀ p ∈ xs, ∀ L hE w, TestsAll c k ((cmpFrm F scope x oc fvs L hE).at (some p :: vals) w) ifs (tb p) ∧ (tb p = true → Evals c k ((cmpFrm F scope x oc fvs L hE).at (some p :: vals) w) elt (ev p)))
    (hfs : ∀ v, foldedSetIterable iter F.env v = pure v) {l : List PV} (hl : (xs.filter tb).map ev = l) : Evals c k F (.ListComp elt [⟨.Name x px, iter, ifs, 0⟩] scope pos) (.lst l) := by
  subst hl
  intro A s R r Q hq
  rw [eval_ListComp]
  refine wpAny_comprehension_free (use := none) rfl hfs (closureFor_of (cmp_free O)) O.kind (fun y hy hl => ?_) ?_
  · have := List.all_eq_true.mp O.names y hy
    simp only [Bool.or_eq_true, bne_iff_ne, ne_eq, beq_iff_eq] at this
    rcases this with h | h
    · exact absurd hl h
    · exact h
  · refine hi A s R r _ fun it s₂ fp wr gw e₂ H N => ?_
    refine comp_core (px := px) R r O cap e₂ H N tb ev hsz (fun p hp L w => ok p hp L s.heap w) (RR := fun acc C => compPost c.M A (fun _ _ => False) none Q acc C) fun s' D C vs m e hD hC hDC hn hl rd => ?_
    refine ⟨m, hn, fun h' hs => ?_⟩
    obtain ⟨e', rd'⟩ := comp_end r e hD hC hDC hn hl rd hs
    exact hq _ _ e' rd'

/-- x = [..], the list laid in the name ahead of the letting go -/
theorem r_assign_comp (i : Nat) {ρ ρ' : List (Option PV)} {w : Ow} {y : Str} {py spos : Pos} {elt iter : Expr} {px pos : Pos} {ifs : List Expr} {rest : List Stmt} {P : Out → Prop} (O : ScopeOk (F.at ρ w) scope x oc fvs) (cap : Caps (F.at ρ w) fvs vals) {xs : List PV}
    (hi : IterE c k (F.at ρ w) iter xs) (tb : PV → Bool) (ev : PV → PV) (hsz : xs.length ≤ sizeLine)
    (ok : ∀ p ∈ xs, ∀ L hE w', TestsAll c k ((cmpFrm (F.at ρ w) scope x oc fvs L hE).at (some p :: vals) w') ifs (tb p) ∧ (tb p = true → Evals c k ((cmpFrm (F.at ρ w) scope x oc fvs L hE).at (some p :: vals) w') elt (ev p)))
    (hfs : ∀ v, foldedSetIterable iter F.env v = pure v) {l : List PV} (hl : (xs.filter tb).map ev = l)
    (hsw : swapsWith (.ListComp elt [⟨.Name x px, iter, ifs, 0⟩] scope pos) (some (.Name y py)) spos.line F.env = pure true) (sl : Slot F i y) (hs : SetAt ρ i (some (.lst l)) ρ')
    (hn : Runs c k F ρ' w rest P) : Runs c k F ρ w (.Assign [.Name y py] (.ListComp elt [⟨.Name x px, iter, ifs, 0⟩] scope pos) spos :: rest) P := by
  subst hl
  refine r_cons fun S A s R r Q hq => ?_
  rw [exec_Assign_Name_used _ _ _ _ hsw]
  refine wpAny_bind (wpAny_standAt (wpAny_bind ?_))
  show wpAny _ A (do let _ ← comprehension (.ListComp elt [⟨.Name x px, iter, ifs, 0⟩] scope pos) scope F.env _ (newList []) false (eval iter F.env) (some (assign (.Name y py) F.env))) _ _ s
  refine wpAny_bind (wpAny_mono (wpAny_comprehension_free (use := some (assign (.Name y py) F.env)) (E := fun _ _ => False) (Q := fun _ s' => Q .next s') rfl hfs (closureFor_of (cmp_free (F := F.at ρ w) O)) O.kind (fun y hy hl => ?_) ?_) (fun _ s' h => wpAny_pure (wpAny_pure h)) fun _ _ h => h)
  · have := List.all_eq_true.mp O.names y hy
    simp only [Bool.or_eq_true, bne_iff_ne, ne_eq, beq_iff_eq] at this
    rcases this with h | h
    · exact absurd hl h
    · exact h
  · refine hi A s R r _ fun it s₂ fp wr gw e₂ H N => ?_
    refine comp_core (F := F.at ρ w) (px := px) R r O cap e₂ H N tb ev hsz (fun p hp L w => ok p hp L s.heap w) (RR := fun acc C => compPost c.M A (fun _ _ => False) (some (assign (.Name y py) F.env)) (fun _ s' => Q .next s') acc C) fun s' D C vs m e hD hC hDC hnC hl rd => ?_
    show wpAny _ A (assign (.Name y py) F.env (.ref D)) _ _ _
    have r' := r.ext e
    have nX : D ∉ (F.at ρ w).X := fun m => by obtain ⟨⟨o, ho⟩, _⟩ := r.xok.out D m; rw [hD] at ho; cases ho
    refine assign_Name (store_wp (F := F.at ρ w) S.at sl.at r' (p := .lst ((xs.filter tb).map ev)) ?_ fun s₃ e₃ r₃ => ?_)
    · simp only [Rd]
      exact ⟨D, vs, rfl, nX, hl, rd.less fun a m => List.mem_cons_of_mem _ m⟩
    · have nL : C ≠ F.env.locals := by
        rintro rfl
        obtain ⟨o, ho, _⟩ := locals_obj r
        have ho : s.heap.get? F.env.locals = some o := ho
        rw [hC] at ho; cases ho
      have nC : ∀ y, F.env.cells.lookup y ≠ some C := fun y h => by
        obtain ⟨o, ho, _⟩ := cell_obj r (show (F.at ρ w).env.cells.lookup y = some C from h)
        rw [hC] at ho; cases ho
      have nO : ∀ a l, w = some (a, l) → C ≠ a := by
        rintro a l rfl rfl
        obtain ⟨_, ⟨o, ho, _⟩, _⟩ := r.own C l rfl
        rw [hC] at ho; cases ho
      obtain ⟨oC, es, ep, hoC, hdC, q⟩ := id hnC
      have hoC₃ := e₃.keep C oC nL nC nO hoC
      have hn₃ : s₃.heap.Ns C m := ⟨oC, es, ep, hoC₃, hdC, q⟩
      refine ⟨m, hn₃, fun h' hsC => ?_⟩
      have hE : (F.at ρ w).hE.get? C = none := by
        cases q : (F.at ρ w).hE.get? C with
        | none => rfl
        | some o => have := r.keep C o q; rw [hC] at this; cases this
      have r₃ : Rel c (F.at (ρ.set i (some (.lst ((xs.filter tb).map ev)))) w) s₃ := r₃
      have sw : StepW [C] [] s₃ { s₃ with heap := h' } := ⟨rfl, fun _ _ _ e => e, id, Nat.le_refl _, fun b o hb e => (hsC.2 b (by simpa using hb)).trans e⟩
      have r₄ := r₃.stepW sw (fun b hb => by rw [List.mem_singleton] at hb; subst hb; exact ⟨nL, nC, nO⟩) (fun b hb => by rw [List.mem_singleton] at hb; subst hb; exact ⟨oC, hoC₃, not_good_dict hdC⟩)
        (fun b hb => by rw [List.mem_singleton] at hb; subst hb; exact hE)
      refine hq (.next ρ' w) _ _ hn ((Step.trans (Ext.s e) e₃).over sw (fun b hb => by rw [List.mem_singleton] at hb; subst hb; exact hC) (fun _ h => nomatch h)) ⟨rfl, ?_⟩
      rw [hs.eq]; exact r₄
end
end Mine
namespace Mine
open PySem PySem.W PyProof.Rows

section
variable {c : Cx} {k : Nat}

theorem op2_ii {f : Value → Value → Sem Value} {a b : Int} {r : PV} (h : ∀ A s t u, A.handled = none → (s.toks ≠ 0 ∧ c.lo ≤ s.toks) → ∀ Q : Value → Shared → Prop, (∀ v s', ExtW s s' → (∀ X, Rd c.lo X s' r v) → Q v s') → wpAny c.M A (f (.int a t) (.int b u)) Q (fun _ _ => False) s) : Op2 c k f (.int a) (.int b) r := by
  intro A X s u v R B x ru rv
  simp only [Rd] at ru rv
  obtain ⟨t, rfl⟩ := ru
  obtain ⟨t', rfl⟩ := rv
  exact Does.up fun Q hq => h A s t t' R.handled ⟨Nat.ne_of_gt x.good.2, x.low⟩ Q fun v s' e r => hq v s' e (r X)
theorem op2_ff {f : Value → Value → Sem Value} {a b : UInt64} {r : PV} (h : ∀ A s t u, A.handled = none → (s.toks ≠ 0 ∧ c.lo ≤ s.toks) → ∀ Q : Value → Shared → Prop, (∀ v s', ExtW s s' → (∀ X, Rd c.lo X s' r v) → Q v s') → wpAny c.M A (f (.float a t) (.float b u)) Q (fun _ _ => False) s) : Op2 c k f (.flt a) (.flt b) r := by
  intro A X s u v R B x ru rv
  simp only [Rd] at ru rv
  obtain ⟨t, _, _, _, rfl⟩ := ru
  obtain ⟨t', _, _, _, rfl⟩ := rv
  exact Does.up fun Q hq => h A s t t' R.handled ⟨Nat.ne_of_gt x.good.2, x.low⟩ Q fun v s' e r => hq v s' e (r X)
theorem op2_fi {f : Value → Value → Sem Value} {a : UInt64} {b : Int} {r : PV} (h : ∀ A s t u, A.handled = none → (s.toks ≠ 0 ∧ c.lo ≤ s.toks) → ∀ Q : Value → Shared → Prop, (∀ v s', ExtW s s' → (∀ X, Rd c.lo X s' r v) → Q v s') → wpAny c.M A (f (.float a t) (.int b u)) Q (fun _ _ => False) s) : Op2 c k f (.flt a) (.int b) r := by
  intro A X s u v R B x ru rv
  simp only [Rd] at ru rv
  obtain ⟨t, _, _, _, rfl⟩ := ru
  obtain ⟨t', rfl⟩ := rv
  exact Does.up fun Q hq => h A s t t' R.handled ⟨Nat.ne_of_gt x.good.2, x.low⟩ Q fun v s' e r => hq v s' e (r X)
theorem op2_ss {f : Value → Value → Sem Value} {a b : Str} {r : PV} (h : ∀ A s t u, A.handled = none → ∀ Q : Value → Shared → Prop, (∀ v s', ExtW s s' → (∀ X, Rd c.lo X s' r v) → Q v s') → wpAny c.M A (f (.str a t) (.str b u)) Q (fun _ _ => False) s) : Op2 c k f (.str a) (.str b) r := by
  intro A X s u v R B x ru rv
  simp only [Rd] at ru rv
  obtain ⟨t, rfl⟩ := ru
  obtain ⟨t', rfl⟩ := rv
  exact Does.up fun Q hq => h A s t t' R.handled Q fun v s' e r => hq v s' e (r X)

theorem rdI {lo X h i t} : Rd lo X h (.int i) (.int i t) := by simp only [Rd]; exact ⟨t, rfl⟩
theorem rdF {lo X s i t} (h0 : t ≠ 0) (h1 : lo ≤ t) (h2 : t < s.toks) : Rd lo X s (.flt i) (.float i t) := by simp only [Rd]; exact ⟨t, h0, h1, h2, rfl⟩
/-- a float made in the state s -/
theorem rdNew {lo X i} {s : Shared} {h : Heap} (p : s.toks ≠ 0 ∧ lo ≤ s.toks) : Rd lo X { s with heap := h, toks := s.toks + 1 } (.flt i) (.float i s.toks) := rdF p.1 p.2 (Nat.lt_succ_self _)
theorem rdS {lo X h i t} : Rd lo X h (.str i) (.str i t) := by simp only [Rd]; exact ⟨t, rfl⟩
theorem rdB {lo X h b} : Rd lo X h (.bool b) (.bool b) := by simp only [Rd]

-- ints
theorem o_add_ii {a b : Int} : Op2 c k (binaryOp .Add) (.int a) (.int b) (.int (a + b)) := op2_ii fun A s t u _ pos Q h => by with_reducible exact add_int (h _ _ ExtW.toks fun _ => rdI)
theorem o_sub_ii {a b : Int} : Op2 c k (binaryOp .Sub) (.int a) (.int b) (.int (a - b)) := op2_ii fun A s t u _ pos Q h => by with_reducible exact sub_int' (h _ _ ExtW.toks fun _ => rdI)
theorem o_mul_ii {a b : Int} (hb : -(2 ^ 64) < a ∧ a < 2 ^ 64) : Op2 c k (binaryOp .Mult) (.int a) (.int b) (.int (a * b)) := op2_ii fun A s t u _ pos Q h => by with_reducible exact mul_int (h _ _ ExtW.toks fun _ => rdI) (IntMulOk.of_left (intBits_le_64 hb.1 hb.2))
theorem o_fdiv_ii {a b : Int} (hb : b ≠ 0) (hs : b.natAbs < 1073741824) : Op2 c k (binaryOp .FloorDiv) (.int a) (.int b) (.int (a.fdiv b)) := op2_ii fun A s t u _ pos Q h => by with_reducible exact floordiv_int hb (h _ _ ExtW.toks fun _ => rdI) (.inl (PyProof.noPylong_small hs))
theorem o_mod_ii {a b : Int} (hb : b ≠ 0) : Op2 c k (binaryOp .Mod) (.int a) (.int b) (.int (a.fmod b)) := op2_ii fun A s t u _ pos Q h => by with_reducible exact mod_int' hb (h _ _ ExtW.toks fun _ => rdI)
theorem o_and_ii {a b : Int} : Op2 c k (binaryOp .BitAnd) (.int a) (.int b) (.int (Builtin.bitAnd a b)) := op2_ii fun A s t u _ pos Q h => by with_reducible exact and_int (h _ _ ExtW.toks fun _ => rdI)
theorem o_shr_ii {a b : Int} (hb : 0 ≤ b) : Op2 c k (binaryOp .RShift) (.int a) (.int b) (.int (a.fdiv (2 ^ b.toNat))) := op2_ii fun A s t u _ pos Q h => by with_reducible exact rshift_int hb (h _ _ ExtW.toks fun _ => rdI)
theorem o_shl_ii {a b : Int} (hb : 0 ≤ b) (hb2 : b ≤ 1000000) (ha : a.natAbs < 2 ^ 64) : Op2 c k (binaryOp .LShift) (.int a) (.int b) (.int (a * 2 ^ b.toNat)) := op2_ii fun A s t u _ pos Q h => by with_reducible exact lshift_int_small hb hb2 ha (h _ _ ExtW.toks fun _ => rdI)
theorem o_div_ii {a b : Int} (hb : (b == 0) = false) (hi : Float64.isInf (Float64.ofFrac (decide (a < 0) != decide (b < 0)) a.natAbs b.natAbs) = false) :
    Op2 c k (binaryOp .Div) (.int a) (.int b) (.flt (Float64.ofFrac (decide (a < 0) != decide (b < 0)) a.natAbs b.natAbs)) :=
  op2_ii fun A s t u _ pos Q h => by
  have post : Q (.float _ s.toks) { s with toks := s.toks + 1 } := h _ _ ExtW.toks fun _ => rdNew pos
  with_reducible refine AutoIntOps.truediv_2 ?_ ?_ ?_
  · rw [hb]; decide
  · rw [hi]; decide
  · exact post
theorem o_eq_ii {a b : Int} : Op2 c k (compareOp .Eq) (.int a) (.int b) (.bool (a == b)) := op2_ii fun A s t u _ pos Q h => by with_reducible exact eq_int (h _ _ (ExtW.refl s) fun _ => rdB)
theorem o_ne_ii {a b : Int} : Op2 c k (compareOp .NotEq) (.int a) (.int b) (.bool (a != b)) := op2_ii fun A s t u _ pos Q h => by with_reducible exact ne_int (h _ _ (ExtW.refl s) fun _ => rdB)
theorem o_lt_ii {a b : Int} : Op2 c k (compareOp .Lt) (.int a) (.int b) (.bool (decide (a < b))) := op2_ii fun A s t u _ pos Q h => by with_reducible exact lt_int (h _ _ (ExtW.refl s) fun _ => rdB)
theorem o_gt_ii {a b : Int} : Op2 c k (compareOp .Gt) (.int a) (.int b) (.bool (decide (b < a))) := op2_ii fun A s t u _ pos Q h => by with_reducible exact gt_int (h _ _ (ExtW.refl s) fun _ => rdB)
theorem o_le_ii {a b : Int} : Op2 c k (compareOp .LtE) (.int a) (.int b) (.bool (decide (a ≤ b))) := op2_ii fun A s t u _ pos Q h => by with_reducible exact le_int (h _ _ (ExtW.refl s) fun _ => rdB)
theorem o_ge_ii {a b : Int} : Op2 c k (compareOp .GtE) (.int a) (.int b) (.bool (decide (b ≤ a))) := op2_ii fun A s t u _ pos Q h => by with_reducible exact ge_int (h _ _ (ExtW.refl s) fun _ => rdB)
-- bools
theorem o_eq_bb {a b : Bool} : Op2 c k (compareOp .Eq) (.bool a) (.bool b) (.bool (a == b)) := by
  intro A X s u v R B x ru rv
  simp only [Rd] at ru rv; subst ru; subst rv
  refine Does.up fun Q h => ?_
  with_reducible exact eq_bool (h _ _ (ExtW.refl s) rdB)
theorem o_isnot_bb {a b : Bool} : Op2 c k (compareOp .IsNot) (.bool a) (.bool b) (.bool (a != b)) := by
  intro A X s u v R B x ru rv
  simp only [Rd] at ru rv; subst ru; subst rv
  refine Does.up fun Q h => ?_
  with_reducible exact isnot_bool (h _ _ (ExtW.refl s) rdB)
-- floats
theorem o_add_ff {a b : UInt64} : Op2 c k (binaryOp .Add) (.flt a) (.flt b) (.flt (Float64.add a b)) := op2_ff fun A s t u _ pos Q h => by with_reducible exact add_float (h _ _ ExtW.toks fun _ => rdNew pos)
theorem o_sub_ff {a b : UInt64} : Op2 c k (binaryOp .Sub) (.flt a) (.flt b) (.flt (Float64.sub a b)) := op2_ff fun A s t u _ pos Q h => by with_reducible exact sub_float (h _ _ ExtW.toks fun _ => rdNew pos)
theorem o_mul_ff {a b : UInt64} : Op2 c k (binaryOp .Mult) (.flt a) (.flt b) (.flt (Float64.mul a b)) := op2_ff fun A s t u _ pos Q h => by with_reducible exact mul_float (h _ _ ExtW.toks fun _ => rdNew pos)
theorem o_div_ff {a b : UInt64} (hb : Float64.isZero b = false) : Op2 c k (binaryOp .Div) (.flt a) (.flt b) (.flt (Float64.div a b)) := op2_ff fun A s t u _ pos Q h => by
  have post : Q (.float _ s.toks) { s with toks := s.toks + 1 } := h _ _ ExtW.toks fun _ => rdNew pos
  with_reducible refine AutoFloatOps.truediv_1 ?_ ?_
  · rw [hb]; decide
  · exact post
theorem o_mod_ff {a b : UInt64} (hb : Float64.isZero b = false) : Op2 c k (binaryOp .Mod) (.flt a) (.flt b) (.flt (Float64.divmod a b).snd) := op2_ff fun A s t u _ pos Q h => by
  have post : Q (.float _ s.toks) { s with toks := s.toks + 1 } := h _ _ ExtW.toks fun _ => rdNew pos
  with_reducible refine AutoFloatOps.mod_1 ?_ ?_
  · rw [hb]; decide
  · exact post
theorem o_mul_fi {a : UInt64} {n : Int} (hn : Float64.isInf (Float64.ofInt n) = false) : Op2 c k (binaryOp .Mult) (.flt a) (.int n) (.flt (Float64.mul a (Float64.ofInt n))) := op2_fi fun A s t u _ pos Q h => by
  have post : Q (.float _ s.toks) { s with toks := s.toks + 1 } := h _ _ ExtW.toks fun _ => rdNew pos
  with_reducible refine AutoFloatOps.mul_fi_1 ?_ ?_
  · rw [hn]; decide
  · exact post
theorem o_sub_fi {a : UInt64} {n : Int} (hn : Float64.isInf (Float64.ofInt n) = false) : Op2 c k (binaryOp .Sub) (.flt a) (.int n) (.flt (Float64.sub a (Float64.ofInt n))) := op2_fi fun A s t u _ pos Q h => by
  have post : Q (.float _ s.toks) { s with toks := s.toks + 1 } := h _ _ ExtW.toks fun _ => rdNew pos
  with_reducible refine AutoFloatOps.sub_fi_1 ?_ ?_
  · rw [hn]; decide
  · exact post
theorem o_eq_ff {a b : UInt64} : Op2 c k (compareOp .Eq) (.flt a) (.flt b) (.bool (Float64.cmp a b == some .eq)) := op2_ff fun A s t u _ pos Q h => by with_reducible exact AutoFloatOps.eq_0 (h _ _ (ExtW.refl s) fun _ => rdB)
theorem o_ne_ff {a b : UInt64} : Op2 c k (compareOp .NotEq) (.flt a) (.flt b) (.bool (Float64.cmp a b != some .eq)) := op2_ff fun A s t u _ pos Q h => by with_reducible exact AutoFloatOps.ne_0 (h _ _ (ExtW.refl s) fun _ => rdB)
theorem o_lt_ff {a b : UInt64} : Op2 c k (compareOp .Lt) (.flt a) (.flt b) (.bool (Float64.cmp a b == some .lt)) := op2_ff fun A s t u _ pos Q h => by with_reducible exact AutoFloatOps.lt_0 (h _ _ (ExtW.refl s) fun _ => rdB)
theorem o_le_ff {a b : UInt64} : Op2 c k (compareOp .LtE) (.flt a) (.flt b) (.bool (Float64.cmp a b == some .lt || Float64.cmp a b == some .eq)) := op2_ff fun A s t u _ pos Q h => by with_reducible exact AutoFloatOps.le_0 (h _ _ (ExtW.refl s) fun _ => rdB)
theorem o_ne_fi {a : UInt64} {n : Int} : Op2 c k (compareOp .NotEq) (.flt a) (.int n) (.bool (Float64.cmpInt a n != some .eq)) := op2_fi fun A s t u _ pos Q h => by with_reducible exact ne_fi (h _ _ (ExtW.refl s) fun _ => rdB)
-- texts
theorem o_add_ss {a b : Str} (hz : a.length + b.length ≤ sizeLine) : Op2 c k (binaryOp .Add) (.str a) (.str b) (.str (a ++ b)) := op2_ss fun A s t u _ Q h => by with_reducible exact PyProof.Rows.add_str (fun t' tk => h _ _ ExtW.toks fun _ => rdS) hz
theorem o_iadd_ss {a b : Str} (hz : a.length + b.length ≤ sizeLine) : Op2 c k (inplaceOp .Add) (.str a) (.str b) (.str (a ++ b)) := op2_ss fun A s t u _ Q h => by with_reducible exact PyProof.Rows.iadd_str (fun t' tk => h _ _ ExtW.toks fun _ => rdS) hz
theorem o_eq_ss {a b : Str} : Op2 c k (compareOp .Eq) (.str a) (.str b) (.bool (a == b)) := op2_ss fun A s t u _ Q h => by with_reducible exact PyProof.Rows.eq_str (h _ _ (ExtW.refl s) fun _ => rdB)
theorem o_ne_ss {a b : Str} : Op2 c k (compareOp .NotEq) (.str a) (.str b) (.bool (a != b)) := op2_ss fun A s t u _ Q h => by with_reducible exact PyProof.Rows.ne_str (h _ _ (ExtW.refl s) fun _ => rdB)
theorem o_in_ss {a b : Str} : Op2 c k (compareOp .In) (.str a) (.str b) (.bool !(Builtin.Str.occurrences b a 0 b.length 1).isEmpty) := op2_ss fun A s t u _ Q h => by with_reducible exact PyProof.Rows.in_str (h _ _ (ExtW.refl s) fun _ => rdB)
theorem o_notin_ss {a b : Str} : Op2 c k (compareOp .NotIn) (.str a) (.str b) (.bool (!(!(Builtin.Str.occurrences b a 0 b.length 1).isEmpty))) := op2_ss fun A s t u _ Q h => by with_reducible exact PyProof.Rows.notIn_str (h _ _ (ExtW.refl s) fun _ => rdB)
-- truth
theorem tr_bool {b : Bool} : Truth c (.bool b) b := by
  intro A X s a R B x ra Q h
  simp only [Rd] at ra; subst ra
  exact wpAny_truthy_bool (h s (Ext.refl s))
theorem tr_int {i : Int} : Truth c (.int i) (i != 0) := by
  intro A X s a R B x ra Q h
  simp only [Rd] at ra; obtain ⟨t, rfl⟩ := ra
  exact P.truthy_int (h s (Ext.refl s))
theorem tr_str {x : Str} (hx : (x.length : Int) < 2 ^ 63) : Truth c (.str x) ((x.length : Int) != 0) := by
  intro A X s a R B _ ra Q h
  simp only [Rd] at ra; obtain ⟨t, rfl⟩ := ra
  exact up_any (P.truthy_str (by lia) (fun le => h _ (ExtW.toks.up le)))
end
end Mine
namespace Mine
open PySem PySem.W PyProof.Rows

/-- the places of a run of a sequence -/
noncomputable def picks {α : Type} (l : List α) (idx : List Nat) : List α := idx.filterMap (l[·]?)
noncomputable def sliceL (l : List PV) (lo hi st : Option Int) : List PV :=
  picks l (sliceRange (sliceBounds lo hi st l.length).1 (sliceBounds lo hi st l.length).2.1 (sliceBounds lo hi st l.length).2.2)
noncomputable def sliceS (x : Str) (lo hi : Option Int) : Str :=
  if (Builtin.Str.strSliceIndices lo hi 1 x.length).length == x.length then x else ⟨(picks x.cps.toList (Builtin.Str.strSliceIndices lo hi 1 x.length)).toArray⟩

theorem Rds.picks {lo : Nat} {X : List Addr} {s : Shared} {ps : List PV} {vs : List Value} (r : Rds lo X s ps vs) : ∀ idx : List Nat, Rds lo X s (picks ps idx) (picks vs idx)
  | [] => Rds.nil
  | i :: idx => by
    unfold Mine.picks
    simp only [List.filterMap_cons]
    cases q : ps[i]? with
    | none =>
      have : vs[i]? = none := by
        rw [List.getElem?_eq_none_iff] at q ⊢
        rw [r.length]; exact q
      rw [this]
      exact Rds.picks r idx
    | some p =>
      obtain ⟨v, hv, rv⟩ := r.get q
      rw [hv]
      exact Rds.cons rv (Rds.picks r idx)

section
variable {c : Cx} {k : Nat} {F : Frm}

-- one item
theorem o_item_list {v i : Expr} {l : List PV} {j : Int} {p : PV} (h0 : 0 ≤ j) (hfit : j < 2 ^ 63) (hx : l[j.toNat]? = some p) (hs : ∀ o z, subscripted i false o z = operate [o, z] (getItem o z)) :
    Op2 c k (subscriptTail v i) (.lst l) (.int j) p := by
  intro A X s a b R B x ra rb Q h
  simp only [Rd] at ra rb
  obtain ⟨D, vs, rfl, hD, hl, rvs⟩ := ra
  obtain ⟨t, rfl⟩ := rb
  obtain ⟨u, hu, ru⟩ := rvs.get hx
  with_reducible refine tail_any hl.typeIs PySem.slot_list_getitem.lookup (wpAny_getItem_list hl h0 hfit (by simpa using hu) (h u s (Ext.refl s) ru)) (hs _ _)
theorem o_item_tup {v i : Expr} {l : List PV} {j : Int} {p : PV} {n : Nat} (hlo : -(2 ^ 63) ≤ j) (hfit : j < 2 ^ 63) (hj : seqIndex? j l.length = some n) (hx : l[n]? = some p) (hs : ∀ o z, subscripted i false o z = operate [o, z] (getItem o z)) :
    Op2 c k (subscriptTail v i) (.tup l) (.int j) p := by
  intro A X s a b R B x ra rb Q h
  simp only [Rd] at ra rb
  obtain ⟨D, vs, rfl, hD, hl, rvs⟩ := ra
  obtain ⟨t, rfl⟩ := rb
  obtain ⟨u, hu, ru⟩ := rvs.get hx
  with_reducible exact item_tupleT hl hlo hfit (by rw [rvs.length]; exact hj) hu (h u s (Ext.refl s) ru) (hs _ _)
theorem o_item_str {v i : Expr} {x : Str} {j : Int} {n : Nat} (hr : (decide (j < -(2 ^ 63 : Int)) || decide (j ≥ 2 ^ 63)) = false) (hc : (seqIndex? j x.length).bind (x.cps[·]?) = some n) (hs : ∀ o z, subscripted i false o z = operate [o, z] (getItem o z)) :
    Op2 c k (subscriptTail v i) (.str x) (.int j) (.str ⟨#[n]⟩) := by
  intro A X s a b R B _ ra rb Q h
  simp only [Rd] at ra rb
  obtain ⟨t', rfl⟩ := ra
  obtain ⟨t, rfl⟩ := rb
  with_reducible refine tail_any (PySem.typeIs_str s x t') PySem.F.slot_str_getitem.lookup (PySem.P.getItem_str hr hc (h _ _ Ext.toks1 rdS)) (hs _ _)

-- slices
noncomputable def Part (c : Cx) (k : Nat) (F : Frm) (e : Option Expr) (o : Option Int) : Prop :=
  ∀ A s, Room k A → Rel c F s → ∀ Q : Value → Shared → Prop, (∀ v s', Ext s s' → (match o with | none => v = .none | some i => ∃ t, v = .int i t) → Q v s') → wpAny c.M A (evalPart e F.env) Q (fun _ _ => False) s
theorem p_none : Part c k F none none := fun A s _ _ Q h => wpAny_pure (h _ s (Ext.refl s) rfl)
theorem p_some {e : Expr} {i : Int} (h1 : Evals c k F e (.int i)) : Part c k F (some e) (some i) := fun A s R r Q h => by
  refine h1 A s R r _ fun v s' e rv => h v s' e ?_
  simpa only [Rd] using rv

theorem slice_sub {M : Model} {A : Around} {s : Shared} {env : Env} {value : Expr} {lower upper step : Option Expr} {p pos : Pos} {T id : String} {Q : Value → Shared → Prop}
    (hl : typeLookup (.type T) "__getitem__" = pure (some (.builtin id)))
    (h : wpAny M A (eval value env) (fun o s₁ => wpAny M A (eval (.Slice lower upper step p) env) (fun i s₂ => s₂.TypeIs o T ∧ wpAny M A (getItem o i) Q (fun _ _ => False) s₂) (fun _ _ => False) s₁) (fun _ _ => False) s)
    (hgo : ∀ (o r : Value) (s' : Shared) (Q' : Unit → Shared → Prop), Q' () s' → wpAny M A (letTemporaryGo value o r) Q' (fun _ _ => False) s') :
    wpAny M A (eval (.Subscript value (.Slice lower upper step p) pos) env) Q (fun _ _ => False) s := by
  rw [eval_Subscript]
  refine wpAny_bind (wpAny_mono h (fun o s₁ h₁ => wpAny_bind (wpAny_holding (wpAny_mono h₁ (fun i s₂ h₂ => wpAny_bind (wpAny_standAt ?_)) fun _ _ x => x))) fun _ _ x => x)
  refine wpAny_bind ?_
  rw [getitemInPython_of_ne h₂.1.not_modules]
  refine wpAny_bind (wpAny_specialOf h₂.1 hl ?_)
  refine wpAny_pure (wpAny_bind ?_)
  cases step with
  | none => exact wpAny_operating (wpAny_mono h₂.2 (fun r s₃ h₃ => wpAny_bind (hgo o r s₃ _ (wpAny_pure h₃))) fun _ _ x => x)
  | some st => exact wpAny_operating (wpAny_mono h₂.2 (fun r s₃ h₃ => wpAny_bind (hgo o r s₃ _ (wpAny_pure h₃))) fun _ _ x => x)

theorem slicePick_picks (vs : List Value) (lo hi st : Option Int) : slicePick vs.toArray lo hi st = (picks vs (sliceRange (sliceBounds lo hi st vs.length).1 (sliceBounds lo hi st vs.length).2.1 (sliceBounds lo hi st vs.length).2.2)).toArray := by
  unfold slicePick picks
  simp

theorem e_slice_list {value : Expr} {lower upper step : Option Expr} {p pos : Pos} {l : List PV} {lo hi st : Option Int} (h1 : Evals c k F value (.lst l)) (h2 : Part c k F lower lo) (h3 : Part c k F upper hi) (h4 : Part c k F step st)
    (h0 : st ≠ some 0) (hsz : l.length ≤ sizeLine) : Evals c k F (.Subscript value (.Slice lower upper step p) pos) (.lst (sliceL l lo hi st)) := by
  intro A s R r Q h
  have ip : ∀ {o : Option Int} {v : Value}, (match o with | none => v = .none | some i => ∃ t, v = .int i t) → IsPart v o := fun {o v} q => by
    cases o with
    | none => subst q; exact .none
    | some i => obtain ⟨t, rfl⟩ := q; exact .int i t
  refine slice_sub list_getitem_lookup (h1 A s R r _ fun o s₁ e₁ ro => ?_) (fun o r s' Q' q => wpAny_letTemporaryGo q)
  simp only [Rd] at ro
  obtain ⟨D, vs, rfl, hD, hl, rvs⟩ := ro
  refine wpAny_Slice (h2 A s₁ R (r.ext e₁) _ fun vl s₂ e₂ q₂ => h3 A s₂ R ((r.ext e₁).ext e₂) _ fun vu s₃ e₃ q₃ => h4 A s₃ R (((r.ext e₁).ext e₂).ext e₃) _ fun vt s₄ e₄ q₄ => ?_)
  have e24 := (e₂.trans e₃).trans e₄
  have hl₄ : s₄.heap.IsList D vs.toArray := let ⟨o, ho, q⟩ := hl; ⟨o, e24.keep _ _ ho, q⟩
  refine ⟨(hl₄.push _).typeIs, ?_⟩
  refine wpAny_getItem_list_slice (hl₄.push _) (Heap.IsSliceOf.new ..) (ip q₂) (ip q₃) (ip q₄) h0 ?_ (by rw [List.size_toArray, rvs.length]; exact hsz)
  have ex : Ext s₄ { s₄ with heap := s₄.heap.push { cls := .type "slice", data := .fields #[vl, vu, vt] } } := Ext.push
  refine h _ _ (((e₁.trans e24).trans ex).trans Ext.push) ?_
  simp only [Rd]
  refine ⟨_, picks vs (sliceRange (sliceBounds lo hi st vs.length).1 (sliceBounds lo hi st vs.length).2.1 (sliceBounds lo hi st vs.length).2.2), rfl, ?_, ⟨_, Heap.get?_push_size _ rfl, rfl, 0, ?_⟩, ?_⟩
  · exact ((r.xok.ext (e₁.trans e24)).ext ex).fresh
  · rw [← slicePick_picks]
  · unfold sliceL
    rw [rvs.length]
    exact ((rvs.picks _).ext e24).ext (ex.trans Ext.push)

theorem strIdx_le (lo hi : Option Int) (n : Nat) : (Builtin.Str.strSliceIndices lo hi 1 n).length ≤ n := by
  have e : Builtin.Str.strSliceIndices lo hi 1 n = sliceRange (sliceBounds lo hi none n).1 (sliceBounds lo hi none n).2.1 1 := rfl
  rw [e]
  refine sliceRange_length_le _ _ _ _ (fun _ => ?_) fun h => absurd (by decide) h
  simp only [sliceBounds, Option.getD_none, show (1 : Int) > 0 by decide, if_true]
  constructor
  · cases lo with
    | none => simp
    | some i => dsimp only; omega
  · cases hi with
    | none => simp
    | some i => dsimp only; omega
theorem picks_length {α : Type} (l : List α) (idx : List Nat) : (picks l idx).length ≤ idx.length := List.length_filterMap_le _ _

theorem e_slice_str {value : Expr} {lower upper : Option Expr} {p pos : Pos} {x : Str} {lo hi : Option Int} (h1 : Evals c k F value (.str x)) (h2 : Part c k F lower lo) (h3 : Part c k F upper hi)
    (hsz : x.length ≤ sizeLine) : Evals c k F (.Subscript value (.Slice lower upper none p) pos) (.str (sliceS x lo hi)) := by
  intro A s R r Q h
  refine slice_sub PySem.F.slot_str_getitem.lookup (h1 A s R r _ fun o s₁ e₁ ro => ?_) (fun o r s' Q' q => wpAny_letTemporaryGo q)
  simp only [Rd] at ro
  obtain ⟨t, rfl⟩ := ro
  refine wpAny_Slice (h2 A s₁ R (r.ext e₁) _ fun vl s₂ e₂ q₂ => h3 A s₂ R ((r.ext e₁).ext e₂) _ fun vu s₃ e₃ q₃ => ?_)
  refine wpAny_pure ?_
  have ip : ∀ {o : Option Int} {v : Value}, (match o with | none => v = .none | some i => ∃ t, v = .int i t) → ∃ z : Option (Int × Tok), v = partValue z ∧ z.map (·.1) = o := fun {o v} q => by
    cases o with
    | none => exact ⟨none, q, rfl⟩
    | some i => obtain ⟨t, rfl⟩ := q; exact ⟨some (i, t), rfl, rfl⟩
  obtain ⟨zl, rfl, hzl⟩ := ip q₂
  obtain ⟨zu, rfl, hzu⟩ := ip q₃
  refine ⟨typeIs_str _ x t, ?_⟩
  have ex : Ext s₃ { s₃ with heap := s₃.heap.push { cls := .type "slice", data := .fields #[partValue zl, partValue zu, .none] } } := Ext.push
  refine wpAny_getItem_str_slice (l := zl) (u := zu) (st := none) ⟨_, Heap.get?_push_size _ rfl, rfl, rfl⟩ rfl ?_
  have e := ((e₁.trans e₂).trans e₃).trans ex
  unfold sliceMade slicePicked
  simp only [Option.map_none, Option.getD_none, beq_self_eq_true, Bool.true_and, hzl, hzu]
  cases q : (Builtin.Str.strSliceIndices lo hi 1 x.length).length == x.length with
  | true =>
    simp only [if_true]
    refine h _ _ e ?_
    unfold sliceS
    rw [q]
    exact rdS
  | false =>
    simp only [Bool.false_eq_true, if_false]
    refine ⟨?_, h _ _ (e.trans Ext.toks1) ?_⟩
    · show (List.filterMap (fun i => x.cps[i]?) (Builtin.Str.strSliceIndices lo hi 1 x.length)).toArray.size ≤ sizeLine
      rw [List.size_toArray]
      exact Nat.le_trans (List.length_filterMap_le _ _) (Nat.le_trans (strIdx_le lo hi x.length) hsz)
    · unfold sliceS
      rw [q]
      simp only [Bool.false_eq_true, if_false]
      have : List.filterMap (fun i => x.cps[i]?) (Builtin.Str.strSliceIndices lo hi 1 x.length) = picks x.cps.toList (Builtin.Str.strSliceIndices lo hi 1 x.length) := by
        unfold picks
        simp
      rw [this]
      exact rdS
end
end Mine
namespace Mine
open PySem PySem.W PyProof.Rows

/-- a new iterator over a value -/
noncomputable def ItV (c : Cx) (A : Around) (X : List Addr) (s : Shared) (v : Value) (xs : List PV) : Prop :=
  ∀ Q : Value → Shared → Prop, (∀ it s' fp wr gw, Ext s s' → (∀ Y : List Addr, (∀ a ∈ Y, s'.heap.get? a = none) → ∃ St, Iter c A (Y ++ X) it fp wr gw St ∧ St xs s') → NewIt X s fp wr gw → Q it s') →
    wpAny c.M A (pyIter v) Q (fun _ _ => False) s

theorem itv_list {c : Cx} {A : Around} {X : List Addr} {s : Shared} {v : Value} {xs : List PV} (hh : A.handled = none) (x : XOk c.lo c.K X s) (rv : Rd c.lo X s (.lst xs) v) : ItV c A X s v xs := by
  intro Q hq
  simp only [Rd] at rv
  obtain ⟨a, vs, rfl, hx, hl, rvs⟩ := rv
  refine wpAny_pyIter_list hl ?_
  have hla : a < s.heap.objs.size := by obtain ⟨_, ho, _⟩ := hl; exact Heap.lt_size ho
  have W := Walks.list (prog := c.prog) (w := c.w) hh s.heap.objs.size a (Nat.ne_of_lt hla) vs.toArray
  have ex : Ext s { s with heap := s.heap.push { cls := .type "list_iterator", data := .fields #[.ref a, .int 0 0] } } := Ext.push
  refine hq _ _ [s.heap.objs.size, a] [s.heap.objs.size] [] ex (fun Y hY => ?_) ⟨fun b m => ?_, fun b m n => ?_, fun _ m => nomatch m⟩
  · refine ⟨_, iter_of W (fun i h st b m => ?_) (fun i h st => ?_) xs, 0, by simp [rvs.length], by simp, ⟨⟨_, Heap.get?_push_size _ rfl, rfl, rfl⟩, hl.push _⟩, fun j p hp v hv => ?_⟩
    · rcases List.mem_cons.mp m with rfl | m
      · obtain ⟨o, ho, _⟩ := st.1; exact ⟨o, ho⟩
      · rw [List.mem_singleton] at m; subst m; obtain ⟨o, ho, _⟩ := st.2; exact ⟨o, ho⟩
    · obtain ⟨o, ho, hc, hd⟩ := st.1
      exact ⟨o, _, _, ho, hc, hd, by decide, by decide⟩
    · obtain ⟨u, hu, ru⟩ := (rvs.ext ex).get hp
      have : vs[j]? = some v := by simpa using hv
      rw [hu] at this; cases this
      exact Rd.more hY ru
  · rw [List.mem_singleton] at m; subst m
    exact get_size_none _
  · rcases List.mem_cons.mp m with rfl | m
    · exact absurd (List.mem_singleton.mpr rfl) n
    · rw [List.mem_singleton] at m; subst m
      obtain ⟨o', ho', _, nn, hd⟩ := hl
      exact ⟨hx, .inr ⟨_, ho', good_seq hd⟩⟩

theorem itv_tup {c : Cx} {A : Around} {X : List Addr} {s : Shared} {v : Value} {xs : List PV} (hh : A.handled = none) (x : XOk c.lo c.K X s) (rv : Rd c.lo X s (.tup xs) v) : ItV c A X s v xs := by
  intro Q hq
  simp only [Rd] at rv
  obtain ⟨a, vs, rfl, hx, hl, rvs⟩ := rv
  refine wpAny_pyIter_tuple hl ?_
  have hla : a < s.heap.objs.size := by obtain ⟨_, ho, _⟩ := hl; exact Heap.lt_size ho
  have W := Walks.tuple (prog := c.prog) (w := c.w) hh s.heap.objs.size a (Nat.ne_of_lt hla) vs.toArray
  have ex : Ext s { s with heap := s.heap.push { cls := .type "tuple_iterator", data := .fields #[.ref a, .int 0 0] } } := Ext.push
  refine hq _ _ [s.heap.objs.size, a] [s.heap.objs.size] [] ex (fun Y hY => ?_) ⟨fun b m => ?_, fun b m n => ?_, fun _ m => nomatch m⟩
  · refine ⟨_, iter_of W (fun i h st b m => ?_) (fun i h st => ?_) xs, 0, by simp [rvs.length], by simp, ⟨⟨_, Heap.get?_push_size _ rfl, rfl, rfl⟩, IsTup.push hl _⟩, fun j p hp v hv => ?_⟩
    · rcases List.mem_cons.mp m with rfl | m
      · obtain ⟨o, ho, _⟩ := st.1; exact ⟨o, ho⟩
      · rw [List.mem_singleton] at m; subst m; obtain ⟨o, ho, _⟩ := st.2; exact ⟨o, ho⟩
    · obtain ⟨o, ho, hc, hd⟩ := st.1
      exact ⟨o, _, _, ho, hc, hd, by decide, by decide⟩
    · obtain ⟨u, hu, ru⟩ := (rvs.ext ex).get hp
      have : vs[j]? = some v := by simpa using hv
      rw [hu] at this; cases this
      exact Rd.more hY ru
  · rw [List.mem_singleton] at m; subst m
    exact get_size_none _
  · rcases List.mem_cons.mp m with rfl | m
    · exact absurd (List.mem_singleton.mpr rfl) n
    · rw [List.mem_singleton] at m; subst m
      obtain ⟨o', ho', _, nn, hd⟩ := hl
      exact ⟨hx, .inr ⟨_, ho', good_seq hd⟩⟩

theorem Ext.over {s₀ s s' : Shared} {wr : List Addr} {gw : List Nat} (e : Ext s₀ s) (y : StepW wr gw s s') (h : ∀ b ∈ wr, s₀.heap.get? b = none) (g : ∀ i ∈ gw, s₀.gens[i]? = none) : Ext s₀ s' where
  keep := fun b o q => y.keep b o (fun m => by rw [h b m] at q; cases q) (e.keep b o q)
  os := y.os.trans e.os
  gens := fun i z q => y.gens i z (fun m => by rw [g i m] at q; cases q) (e.gens i z q)
  bare := fun b => y.bare (e.bare b)
  le := Nat.le_trans e.le y.le

theorem StepW.keepD {wr : List Addr} {gw : List Nat} {s s' : Shared} {X : List Addr} (y : StepW wr gw s s') (ng : ∀ b ∈ wr, ∃ o, s.heap.get? b = some o ∧ ¬ GoodObj o) : KeepD X s.heap s'.heap := fun b o _ g e =>
  y.keep b o (fun m => by obtain ⟨o', h, n⟩ := ng b m; rw [h] at e; cases e; exact n g) e

/-- the items of an iterator, drawn -/
theorem draw_iter {c : Cx} {A : Around} {X : List Addr} {it : Value} {fp wr : List Addr} {gw : List Nat} {St : List PV → Shared → Prop} (I : Iter c A X it fp wr gw St) {s₀ : Shared} (B : Fine c s₀) (hf : ∀ b ∈ wr, s₀.heap.get? b = none) (hg : ∀ g ∈ gw, s₀.gens[g]? = none) (ys : List PV) :
    ∀ (xs : List PV) (s : Shared), Ext s₀ s → St (xs ++ ys) s → ∀ Q : List Value → Shared → Prop, (∀ vs s', Ext s₀ s' → KeepD X s.heap s'.heap → s.toks ≤ s'.toks → Rds c.lo X s' xs vs → St ys s' → Q vs s') → wpAny c.M A (draw it xs.length) Q (fun _ _ => False) s
  | [], s, e, st, Q, h => wpAny_pure (h [] s e (fun _ _ _ _ q => q) (Nat.le_refl _) Rds.nil st)
  | x :: xs, s, e, st, Q, h => by
    show wpAny _ _ (pyNext it >>= _) Q _ s
    have ng : ∀ {s : Shared} {zs : List PV}, St zs s → ∀ b ∈ wr, ∃ o, s.heap.get? b = some o ∧ ¬ GoodObj o := fun st b hb => let ⟨o, h1, h2⟩ := I.dom _ _ st b (I.sub b hb); ⟨o, h1, h2 hb⟩
    refine wpAny_bind (I.item x (xs ++ ys) s _ (B.ext e) st fun v s₁ sw rv st₁ => ?_)
    have e₁ := e.over sw hf hg
    have k₁ : KeepD X s.heap s₁.heap := sw.keepD (ng st)
    refine wpAny_bind (wpAny_holding (draw_iter I B hf hg ys xs s₁ e₁ st₁ _ fun vs s₂ e₂ k₂ l₂ rvs st₂ => wpAny_pure ?_))
    exact h (v :: vs) s₂ e₂ (fun b o hb g q => k₂ b o hb g (k₁ b o hb g q)) (Nat.le_trans sw.le l₂) (Rds.cons (rv.keepD k₂ l₂) rvs) st₂

theorem unpack_iter {c : Cx} {A : Around} {X : List Addr} {s : Shared} {v : Value} {xs : List PV} (B : Fine c s) (it : ItV c A X s v xs) {T id : String} (hT : s.TypeIs v T) (hl : typeLookup (.type T) "__iter__" = pure (some (.builtin id)))
    {Q : List Value → Shared → Prop} (h : ∀ vs s', Ext s s' → Rds c.lo X s' xs vs → Q vs s') : wpAny c.M A (unpackItems v xs.length none) Q (fun _ _ => False) s := by
  unfold unpackItems
  refine wpAny_bind ?_
  unfold notIterableAtAll
  refine wpAny_bind (wpAny_specialOf hT hl ?_)
  refine wpAny_pure ?_
  simp only [Bool.false_eq_true, if_false]
  refine wpAny_bind (wpAny_holding (it _ fun i s₁ fp wr gw e₁ H N => ?_))
  obtain ⟨St, I, st⟩ := H [] (fun _ m => nomatch m)
  rw [List.nil_append] at I
  refine wpAny_bind (wpAny_holding (draw_iter I B N.fresh N.gens [] xs s₁ e₁ (by rw [List.append_nil]; exact st) _ fun vs s₂ e₂ _ _ rvs st₂ => ?_))
  have ng : ∀ b ∈ wr, ∃ o, s₂.heap.get? b = some o ∧ ¬ GoodObj o := fun b hb => let ⟨o, h1, h2⟩ := I.dom _ _ st₂ b (I.sub b hb); ⟨o, h1, h2 hb⟩
  rw [if_neg (by rw [rvs.length]; lia)]
  refine wpAny_bind (wpAny_holding (I.done s₂ _ (B.ext e₂) st₂ fun s₃ sw => ?_))
  simp only [Option.isSome_none, Bool.false_eq_true, if_false]
  exact wpAny_pure (h vs s₃ (e₂.over sw N.fresh N.gens) (rvs.keepD (sw.keepD ng) sw.le))

/-- a tuple or a list, taken apart -/
inductive Pack : PV → List PV → Prop
  | tup {l : List PV} : Pack (.tup l) l
  | lst {l : List PV} : Pack (.lst l) l
theorem unpack_pack {c : Cx} {A : Around} {X : List Addr} {s : Shared} {v : Value} {p : PV} {xs : List PV} (hp : Pack p xs) (hh : A.handled = none) (B : Fine c s) (x : XOk c.lo c.K X s) (rv : Rd c.lo X s p v)
    {Q : List Value → Shared → Prop} (h : ∀ vs s', Ext s s' → Rds c.lo X s' xs vs → Q vs s') : wpAny c.M A (unpackItems v xs.length none) Q (fun _ _ => False) s := by
  cases hp with
  | tup =>
    refine unpack_iter B (itv_tup hh x rv) ?_ slot_tuple_iter.lookup h
    simp only [Rd] at rv
    obtain ⟨a, vs, rfl, _, ht, _⟩ := rv
    exact ht.typeIs
  | lst =>
    refine unpack_iter B (itv_list hh x rv) ?_ slot_list_iter.lookup h
    simp only [Rd] at rv
    obtain ⟨a, vs, rfl, _, ht, _⟩ := rv
    exact ht.typeIs

section
variable {c : Cx} {k : Nat} {F : Frm}

inductive Asgs (c : Cx) (k : Nat) (F : Frm) : List Expr → List PV → List (Option PV) → List (Option PV) → Prop
  | nil {ρ : List (Option PV)} : Asgs c k F [] [] ρ ρ
  | cons {e : Expr} {es : List Expr} {p : PV} {ps : List PV} {ρ ρ₁ ρ' : List (Option PV)} : Asg c k F e p ρ ρ₁ → (assignEach (e :: es) F.env = (false, assign e F.env) :: assignEach es F.env) → Asgs c k F es ps ρ₁ ρ' → Asgs c k F (e :: es) (p :: ps) ρ ρ'
theorem Asgs.length {es ps ρ ρ'} (h : Asgs c k F es ps ρ ρ') : (assignEach es F.env).length = ps.length := by
  induction h with
  | nil => rfl
  | cons _ he _ ih => rw [he, List.length_cons, List.length_cons, ih]
theorem Asgs.star {es ps ρ ρ'} (h : Asgs c k F es ps ρ ρ') : (assignEach es F.env).findIdx? (·.1) = none := by
  induction h with
  | nil => rfl
  | cons _ he _ ih => rw [he, List.findIdx?_cons]; simp [ih]

theorem asgs_run {es : List Expr} {ps : List PV} {ρ ρ' : List (Option PV)} (h : Asgs c k F es ps ρ ρ') (S : FrmSt F) : ∀ (A : Around) (s : Shared) (w : Ow) (vs : List Value), Room k A → Rel c (F.at ρ w) s → Rds c.lo (Xw F.X0 w) s ps vs →
    ∀ Q : Unit → Shared → Prop, (∀ s', Step F.env w w s s' → Rel c (F.at ρ' w) s' → Q () s') → wpAny c.M A (assignInOrder ((assignEach es F.env).map (·.2)) vs) Q (fun _ _ => False) s := by
  induction h with
  | nil =>
    intro A s w vs R r rvs Q h
    simp only [Rds] at rvs
    subst rvs
    exact wpAny_pure (h s (Step.refl s) r)
  | @cons e es p ps ρ ρ₁ ρ' ha he _ ih =>
    intro A s w vs R r rvs Q h
    simp only [Rds] at rvs
    obtain ⟨v, vs', rfl, rv, rvs⟩ := rvs
    rw [he, List.map_cons]
    show wpAny _ _ (holding vs' (assign e F.env v) >>= fun _ => assignInOrder _ vs') Q _ s
    refine wpAny_bind (wpAny_holding (ha S A s w v R r rv _ fun s₁ e₁ r₁ => ?_))
    exact ih A s₁ w vs' R r₁ (rvs.keepD (keepD_step r e₁) e₁.le) Q fun s₂ e₂ r₂ => h s₂ (e₁.trans e₂) r₂

theorem asg_tup {es : List Expr} {kd : Nat} {pos : Pos} {p : PV} {ps : List PV} {ρ ρ' : List (Option PV)} (hp : Pack p ps) (h : Asgs c k F es ps ρ ρ') : Asg c k F (.Tuple es kd pos) p ρ ρ' := by
  intro S A s w v R r rv Q hq
  rw [assign_Tuple]
  refine wpAny_bind (wpAny_standAt ?_)
  unfold unpack
  rw [h.length, h.star]
  refine wpAny_bind (wpAny_holding (unpack_pack hp R.handled r.fine (by have := r.xok; rw [X_on] at this; exact this) rv fun vs s₁ e₁ rvs => ?_))
  exact asgs_run h S A s₁ w vs R (r.ext e₁) rvs Q fun s₂ e₂ r₂ => hq s₂ (Step.trans e₁.s e₂) r₂

/-- a, b = e -/
theorem r_unpack {ρ ρ' : List (Option PV)} {w : Ow} {es : List Expr} {kd : Nat} {tpos pos : Pos} {e : Expr} {rest : List Stmt} {p : PV} {P : Out → Prop} (h1 : Evals c k (F.at ρ w) e p) (h2 : Asg c k F (.Tuple es kd tpos) p ρ ρ')
    (hs : swapsWithSole [.Tuple es kd tpos] e pos.line F.env = pure false) (hw : swappedStores [.Tuple es kd tpos] e F.env = pure none) (hn : Runs c k F ρ' w rest P) : Runs c k F ρ w (.Assign [.Tuple es kd tpos] e pos :: rest) P := by
  refine r_cons fun S A s R r Q hq => ?_
  refine Assign_Tuple (h1 A s R r _ fun v s₁ e₁ rv => ?_) hs hw
  rw [X_on] at rv
  exact h2 S A s₁ w v R (r.ext e₁) rv _ fun s₂ e₂ r₂ => hq (.next ρ' w) _ s₂ hn (Step.trans e₁.s e₂) ⟨rfl, r₂⟩

/-- names stored from the last to the first -/
inductive Binds (F : Frm) : List Str → List PV → List (Option PV) → List (Option PV) → Prop
  | nil {ρ : List (Option PV)} : Binds F [] [] ρ ρ
  | cons (i : Nat) {x : Str} {xs : List Str} {p : PV} {ps : List PV} {ρ ρ₁ ρ' : List (Option PV)} : Slot F i x → SetAt ρ i (some p) ρ₁ → Binds F xs ps ρ₁ ρ' → Binds F (x :: xs) (p :: ps) ρ ρ'
theorem binds_run {xs : List Str} {ps : List PV} {ρ ρ' : List (Option PV)} (h : Binds F xs ps ρ ρ') (S : FrmSt F) : ∀ (A : Around) (s : Shared) (w : Ow) (vs : List Value), Room k A → Rel c (F.at ρ w) s → Rds c.lo (Xw F.X0 w) s ps vs →
    ∀ Q : Unit → Shared → Prop, (∀ s', Step F.env w w s s' → Rel c (F.at ρ' w) s' → Q () s') → wpAny c.M A (assignInOrder (xs.map fun n => bindName F.env n) vs) Q (fun _ _ => False) s := by
  induction h with
  | nil =>
    intro A s w vs R r rvs Q h
    simp only [Rds] at rvs
    subst rvs
    exact wpAny_pure (h s (Step.refl s) r)
  | @cons i x xs p ps ρ ρ₁ ρ' sl hs _ ih =>
    intro A s w vs R r rvs Q h
    simp only [Rds] at rvs
    obtain ⟨v, vs', rfl, rv, rvs⟩ := rvs
    rw [List.map_cons]
    show wpAny _ _ (holding vs' (bindName F.env x v) >>= fun _ => assignInOrder _ vs') Q _ s
    refine wpAny_bind (wpAny_holding (bindName_ ?_))
    refine store_wp (F := F.at ρ w) S.at sl.at r (by rw [X_on]; exact rv) fun s₁ e₁ r₁ => ?_
    have r₁ : Rel c (F.at ρ₁ w) s₁ := by rw [hs.eq]; exact r₁
    exact ih A s₁ w vs' R r₁ (rvs.keepD (keepD_step r e₁) e₁.le) Q fun s₂ e₂ r₂ => h s₂ (e₁.trans e₂) r₂

theorem Rds.rev {lo : Nat} {X : List Addr} {s : Shared} : ∀ {ps : List PV} {vs : List Value}, Rds lo X s ps vs → Rds lo X s ps.reverse vs.reverse
  | [], vs, r => by simp only [Rds] at r; subst r; exact Rds.nil
  | p :: ps, vs, r => by
    simp only [Rds] at r
    obtain ⟨v, r', rfl, h1, h2⟩ := r
    rw [List.reverse_cons, List.reverse_cons]
    exact h2.rev.append (Rds.cons h1 Rds.nil)

theorem r_unpack_swapped {ρ ρ' : List (Option PV)} {w : Ow} {es : List Expr} {kd : Nat} {tpos pos : Pos} {e : Expr} {rest : List Stmt} {ps : List PV} {names : List Str} {P : Out → Prop} (h1 : Evals c k (F.at ρ w) e (.tup ps))
    (h2 : Binds F names.reverse ps.reverse ρ ρ') (hlen : names.length = ps.length)
    (hs : swapsWithSole [.Tuple es kd tpos] e pos.line F.env = pure false) (hw : swappedStores [.Tuple es kd tpos] e F.env = pure (some names)) (hn : Runs c k F ρ' w rest P) : Runs c k F ρ w (.Assign [.Tuple es kd tpos] e pos :: rest) P := by
  refine r_cons fun S A s R r Q hq => ?_
  refine Assign_Tuple_swapped (h1 A s R r _ fun v s₁ e₁ rv => ?_) hs hw
  rw [X_on] at rv
  rw [hlen]
  refine unpack_pack Pack.tup R.handled (r.ext e₁).fine (by have := (r.ext e₁).xok; rw [X_on] at this; exact this) rv fun vs s₂ e₂ rvs => ?_
  exact binds_run h2 S A s₂ w vs.reverse R ((r.ext e₁).ext e₂) rvs.rev _ fun s₃ e₃ r₃ => hq (.next ρ' w) _ s₃ hn (Step.trans (e₁.trans e₂).s e₃) ⟨rfl, r₃⟩
end
end Mine
namespace Mine
open PySem PySem.W PyProof.Rows

section
variable {c : Cx} {k : Nat} {F : Frm}

theorem Rel.newOwn {ρ : List (Option PV)} {s : Shared} (S : FrmSt F) (r : Rel c (F.at ρ none) s) :
    Rel c (F.at ρ (some (s.heap.objs.size, []))) { s with heap := s.heap.push { cls := .type "list", data := .seq #[] } } := by
  have ex : Ext s { s with heap := s.heap.push { cls := .type "list", data := .seq #[] } } := Ext.push
  have r' := r.ext ex
  refine ⟨r'.baseE, r'.keep, r'.env, ?_, fun a l e => ?_, r'.cells, r'.x0, r'.good, r'.low⟩
  · obtain ⟨m, hn, hv⟩ := r.vars
    refine ⟨m, hn.keeps ex.keep, fun i x p h1 h2 => ?_⟩
    obtain ⟨v, a, b⟩ := hv i x p h1 h2
    refine ⟨v, a.keep ex.keep, ?_⟩
    have := Rd.more (Y := [s.heap.objs.size]) (fun a m => by rw [List.mem_singleton] at m; subst m; exact get_size_none _) b
    exact this.ext ex
  · have e : (s.heap.objs.size, ([] : List PV)) = (a, l) := Option.some.inj e
    cases e
    refine ⟨[], ⟨_, Heap.get?_push_size _ rfl, rfl, rfl, _, rfl⟩, Rds.nil, ?_⟩
    exact keep_none r.keep (get_size_none _)

/-- x = [] -/
theorem r_new (i : Nat) {ρ : List (Option PV)} {x : Str} {px lp pos : Pos} {rest : List Stmt} {P : Out → Prop} (sl : Slot F i x)
    (hsw : swapsWith (.List [] lp) (some (.Name x px)) pos.line F.env = pure false)
    (hn : ∀ D, Runs c k F (ρ.set i (some (.val (.ref D)))) (some (D, [])) rest P) : Runs c k F ρ none (.Assign [.Name x px] (.List [] lp) pos :: rest) P := by
  refine r_cons fun S A s R r Q hq => ?_
  refine wpAny_Assign_Name ?_ hsw
  refine List_ (l_nil (F := F.at ρ none) (k := k) A s lp R r _ fun vs s₁ e₁ rvs => ?_)
  simp only [Rds] at rvs
  subst rvs
  refine wpAny_newObj_type ?_ (by show 0 ≤ sizeLine; decide)
  have r₂ := Rel.newOwn S (r.ext e₁)
  refine store_wp (F := F.at ρ (some (s₁.heap.objs.size, []))) S.at sl.at r₂ (p := .val (.ref s₁.heap.objs.size)) (by simp only [Rd]) fun s₃ e₃ r₃ => ?_
  refine hq (.next _ (some (s₁.heap.objs.size, []))) _ s₃ (hn s₁.heap.objs.size) ?_ ⟨rfl, r₃⟩
  have st : Step F.env none (some (s₁.heap.objs.size, [])) s₁ { s₁ with heap := s₁.heap.push { cls := .type "list", data := .seq #[] } } :=
    ⟨rfl, fun _ _ e => e, id, Nat.le_refl _, fun b o _ _ _ e => Heap.get?_push_of_some _ e, fun a l e => .inr (by
      have e : (s₁.heap.objs.size, ([] : List PV)) = (a, l) := Option.some.inj e
      cases e
      exact get_size_none _), fun b o e => ⟨o, Heap.get?_push_of_some _ e⟩⟩
  exact (Step.trans e₁.s st).trans e₃

/-- the list being built is built: from here on it is a value -/
theorem r_freeze (i : Nat) {ρ ρ' : List (Option PV)} {D : Addr} {l : List PV} {sts : List Stmt} {P : Out → Prop} (hi : ρ[i]? = some (some (.val (.ref D)))) (hs : SetAt ρ i (some (.lst l)) ρ')
    (hn : Runs c k F ρ' none sts P) : Runs c k F ρ (some (D, l)) sts P := by
  intro S A s R r Q hq
  have hD := r.own D l rfl
  obtain ⟨vs, hl, rvs, hE⟩ := hD
  have r' : Rel c (F.at ρ' none) s := by
    refine ⟨r.baseE, r.keep, r.env, ?_, fun a l e => (nomatch e), r.cells, r.x0, r.good, r.low⟩
    obtain ⟨m, hm, hv⟩ := r.vars
    refine ⟨m, hm, fun j x p h1 h2 => ?_⟩
    have h2 : ρ'[j]? = some (some p) := h2
    rw [hs.eq] at h2
    by_cases hj : j = i
    · subst hj
      obtain ⟨v, a, b⟩ := hv j x _ h1 hi
      rw [List.getElem?_set_self' ] at h2
      rw [show ρ[j]? = some (some (.val (.ref D))) from hi] at h2
      have h2 : some (PV.lst l) = some p := by simpa using h2
      cases h2
      refine ⟨v, a, ?_⟩
      simp only [Rd] at b ⊢
      subst b
      refine ⟨D, vs, rfl, fun m => ?_, hl.list, rvs.less (X0_sub F (ρ := ρ) (some (D, l)))⟩
      obtain ⟨⟨o, ho⟩, _⟩ := r.x0 D m
      rw [hE] at ho; cases ho
    · rw [List.getElem?_set_ne (Ne.symm hj)] at h2
      obtain ⟨v, a, b⟩ := hv j x p h1 h2
      exact ⟨v, a, b.less (X0_sub F (ρ := ρ) (some (D, l)))⟩
  have st : Step F.env (some (D, l)) none s s := ⟨rfl, fun _ _ e => e, id, Nat.le_refl _, fun _ _ _ _ _ e => e, fun a l e => (nomatch e), fun b o e => ⟨o, e⟩⟩
  exact hn S A s R r' Q fun o f s' p e q => hq o f s' p (st.trans e) q

/-- x.append(e) -/
theorem r_append (i : Nat) {ρ : List (Option PV)} {x : Str} {px apos pos spos : Pos} {e : Expr} {rest : List Stmt} {D : Addr} {l : List PV} {p : PV} {P : Out → Prop} (hx : F.names[i]? = some x) (hi : ρ[i]? = some (some (.val (.ref D)))) (hd : (x == ("__debug__" : Str)) = false)
    (h1 : Evals c k (F.at ρ (some (D, l))) e p) (hsz : l.length ≤ sizeLine)
    (hbase : attributeBase (.Name x px) "append" F.env (eval (.Name x px) F.env) = eval (.Name x px) F.env)
    (hfew : ((backTo pos (starEach [e] F.env)).all (fun x => !x.1) && (backToKw pos (keywordEach [] F.env)).all (fun x => x.1.isSome)
      && decide (([e] : List Expr).length + ([] : List Keyword).length + (if ([] : List Keyword).isEmpty then 0 else 1) < 30)) = true)
    (hline : (apos.endLine == pos.line) = true) (htrees : starEach [e] F.env = [(false, eval e F.env)])
    (hsw : swapsWith (.Call (.Attribute (.Name x px) "append" apos) [e] [] pos) none spos.line F.env = pure false)
    (hn : Runs c k F ρ (some (D, l ++ [p])) rest P) : Runs c k F ρ (some (D, l)) (.Expr (.Call (.Attribute (.Name x px) "append" apos) [e] [] pos) spos :: rest) P := by
  refine r_cons fun S A s R r Q hq => ?_
  have hEx : wpAny c.M A (eval (.Call (.Attribute (.Name x px) "append" apos) [e] [] pos) F.env) (fun _ s' => Q .next s') (fun _ _ => False) s := by
    refine wpAny_Call_append hbase hfew hline (by rw [htrees]; rfl) ?_
    refine e_var (F := F.at ρ (some (D, l))) (k := k) i hx hi hd A s R r _ fun v s₁ e₁ rv => ?_
    simp only [Rd] at rv
    subst rv
    obtain ⟨vs, hl, rvs, hE⟩ := (r.ext e₁).own D l rfl
    refine ⟨D, vs.toArray, rfl, hl.plain, ?_⟩
    refine h1 A s₁ R (r.ext e₁) _ fun y s₂ e₂ ry => ?_
    have r₂ := (r.ext e₁).ext e₂
    obtain ⟨vs, hl, rvs, hE⟩ := r₂.own D l rfl
    refine list_append_plainL hl.plain (fun h' hl' hs => ?_) (by rw [List.size_toArray, rvs.length]; exact hsz)
    obtain ⟨r₃, e₃⟩ := Rel.app r₂ ry hs hl rvs (PlL.of hl')
    exact hq (.next ρ (some (D, l ++ [p]))) _ _ hn (Step.trans (e₁.trans e₂).s e₃) ⟨rfl, r₃⟩
  have hint : interactive F.env = false := by
    unfold interactive
    rw [show F.env.scope.kind = .function from r.env.kind]
    rfl
  exact wpAny_Expr_any hEx hint hsw
end
end Mine
namespace Mine
open PySem PySem.W PyProof.Rows

noncomputable def txts (xs : List Str) : List PV := xs.map .str
theorem rds_strs {lo : Nat} {X : List Addr} {s : Shared} : ∀ (xs : List Str) (tk : Nat), Rds lo X s (txts xs) (strsFrom tk xs)
  | [], _ => Rds.nil
  | x :: xs, tk => Rds.cons rdS (rds_strs xs (tk + 1))
theorem strs_rds {lo : Nat} {X : List Addr} {s : Shared} : ∀ {xs : List Str} {vs : List Value}, Rds lo X s (txts xs) vs → ∃ l : List (Str × Tok), vs = strValues l ∧ l.map (·.1) = xs
  | [], vs, r => by
    have r : Rds lo X s [] vs := r
    simp only [Rds] at r; exact ⟨[], r, rfl⟩
  | x :: xs, vs, r => by
    have r : Rds lo X s (.str x :: txts xs) vs := r
    simp only [Rds] at r
    obtain ⟨v, vs', rfl, h1, h2⟩ := r
    simp only [Rd] at h1
    obtain ⟨t, rfl⟩ := h1
    obtain ⟨l, rfl, rfl⟩ := strs_rds h2
    exact ⟨(x, t) :: l, rfl, rfl⟩

noncomputable def splitS (x y : Str) : List Str :=
  if (decide (x.length < y.length) || decide (Builtin.Str.strKind x < Builtin.Str.strKind y)) = true then [x]
  else if (Builtin.Str.occurrences x y 0 x.length (x.length + 1)).isEmpty = true then [x]
  else Builtin.Str.partsBetween x (Builtin.Str.occurrences x y 0 x.length (x.length + 1)) y.length
noncomputable def linesS (x : Str) : List Str := if (lineCuts x == [(0, x.length)]) = true then [x] else linesOf x

section
variable {c : Cx} {k : Nat} {F : Frm}

/-- a method of a text -/
theorem e_smeth {o : Expr} {name : Str} {apos pos : Pos} {args : List Expr} {x : Str} {ps : List PV} {z : PV} {id : String} (slot : PySem.Slot "str" name id) (hty : typeOf (.builtin id) = pure (.type "method_descriptor"))
    (h0 : Evals c k F o (.str x)) (h1 : EvalsL c k F args ps) (h2 : OpN c k (fun vs => call (.builtin id) vs) (.str x :: ps) z)
    (hbase : attributeBase o name F.env (eval o F.env) = eval o F.env)
    (hfew : ((backTo pos (starEach args F.env)).all (fun x => !x.1) && (backToKw pos (keywordEach [] F.env)).all (fun x => x.1.isSome)
      && decide (args.length + ([] : List Keyword).length + (if ([] : List Keyword).isEmpty then 0 else 1) < 30)) = true)
    (hline : (apos.endLine == pos.line) = true)
    (hne : args ≠ [] → ∃ e r, args = e :: r ∧ starEach (e :: r) F.env = (false, eval e F.env) :: starEach r F.env) (hpl : (starEach args F.env).any (·.1) = false) :
    Evals c k F (.Call (.Attribute o name apos) args [] pos) z := by
  intro A s R r Q h
  refine wpAny_Call_method_late hbase hfew hline rfl (h0 A s R r _ fun v s₁ e₁ rv => ?_)
  simp only [Rd] at rv
  obtain ⟨t, rfl⟩ := rv
  refine ⟨"str", id, PySem.F.plainAttrs_str, slot, hty, typeIs_str _ _ _, (fun _ e => nomatch e), ?_⟩
  refine callWith_any (.inl ⟨id, rfl⟩) (r.base.ext e₁).k hne hpl ?_
  refine h1 A s₁ pos R (r.ext e₁) _ fun vs s₂ e₂ rvs => ⟨e₂.keep, ?_⟩
  exact (h2 A F.X s₂ (.str x t :: vs) R ((r.base.ext e₁).ext e₂) ((r.xok.ext e₁).ext e₂) (Rds.cons rdS rvs)).mono (e₁.trans e₂) h

theorem opn1 {f : List Value → Sem Value} {x : Str} {z : PV} (h : ∀ A X s t, A.handled = none → Base c s.heap → XOk c.lo c.K X s → ∀ Q : Value → Shared → Prop, (∀ v s', ExtW s s' → Rd c.lo X s' z v → Q v s') → wpAny c.M A (f [.str x t]) Q (fun _ _ => False) s) : OpN c k f [.str x] z := by
  intro A X s vs R B xo rvs
  simp only [Rds, Rd] at rvs
  obtain ⟨_, _, rfl, ⟨t, rfl⟩, rfl⟩ := rvs
  exact Does.up fun Q hq => h A X s t R.handled B xo Q hq
theorem opn2 {f : List Value → Sem Value} {x y : Str} {z : PV} (h : ∀ A X s t u, A.handled = none → Base c s.heap → XOk c.lo c.K X s → ∀ Q : Value → Shared → Prop, (∀ v s', ExtW s s' → Rd c.lo X s' z v → Q v s') → wpAny c.M A (f [.str x t, .str y u]) Q (fun _ _ => False) s) : OpN c k f [.str x, .str y] z := by
  intro A X s vs R B xo rvs
  simp only [Rds, Rd] at rvs
  obtain ⟨_, _, rfl, ⟨t, rfl⟩, _, _, rfl, ⟨u, rfl⟩, rfl⟩ := rvs
  exact Does.up fun Q hq => h A X s t u R.handled B xo Q hq

theorem m_find {x y : Str} : OpN c k (fun vs => call (.builtin "str.find") vs) [.str x, .str y] (.int (Txt.find x y)) :=
  opn2 fun A X s t u _ _ _ Q h => by with_reducible exact SC.find (h _ _ ExtW.toks rdI)
theorem m_find3 {x y : Str} {i : Int} : OpN c k (fun vs => call (.builtin "str.find") vs) [.str x, .str y, .int i] (.int (Txt.find3 x y i)) := by
  intro A X s vs R B xo rvs
  refine Does.up fun Q h => ?_
  simp only [Rds, Rd] at rvs
  obtain ⟨_, _, rfl, ⟨t, rfl⟩, _, _, rfl, ⟨u, rfl⟩, _, _, rfl, ⟨v, rfl⟩, rfl⟩ := rvs
  with_reducible exact SC.find3 (h _ _ ExtW.toks rdI)
theorem m_rstrip {x : Str} (hsz : x.length ≤ sizeLine) : OpN c k (fun vs => call (.builtin "str.rstrip") vs) [.str x] (.str (Txt.rstrip x)) :=
  opn1 fun A X s t _ _ _ Q h => by with_reducible exact SC.rstrip (fun t' tk => h _ _ ExtW.toks rdS) hsz
theorem m_endswith {x y : Str} : OpN c k (fun vs => call (.builtin "str.endswith") vs) [.str x, .str y] (.bool (Txt.endswith x y)) :=
  opn2 fun A X s t u _ _ _ Q h => by with_reducible exact SC.endswith (h _ _ (ExtW.refl s) rdB)

theorem rd_newlist {X : List Addr} {s : Shared} {vs : List Value} {ps : List PV} {tk : Nat} (xo : XOk c.lo c.K X s) (r : Rds c.lo X s ps vs) (ht : s.toks ≤ tk) :
    ExtW s { s with toks := tk, heap := s.heap.push { cls := .type "list", data := .seq vs.toArray } } ∧ Rd c.lo X { s with toks := tk, heap := s.heap.push { cls := .type "list", data := .seq vs.toArray } } (.lst ps) (.ref s.heap.objs.size) := by
  refine ⟨⟨fun b o e => Heap.get?_push_of_some _ e, rfl, fun _ _ e => e, id⟩, ?_⟩
  simp only [Rd]
  exact ⟨_, vs, rfl, xo.fresh, ⟨_, Heap.get?_push_size _ rfl, rfl, _, rfl⟩, r.keep (s' := { s with toks := tk, heap := s.heap.push { cls := .type "list", data := .seq vs.toArray } }) (fun _ _ e => Heap.get?_push_of_some _ e) ht⟩

theorem m_split {x y : Str} (hy : (y.length == 0) = false) (hx : x.length ≤ sizeLine) (hn : (splitS x y).length ≤ sizeLine) : OpN c k (fun vs => call (.builtin "str.split") vs) [.str x, .str y] (.lst (txts (splitS x y))) :=
  opn2 fun A X s t u _ _ xo Q h => by
  have self : listOfItself x t A (wants Q fun _ _ => False) s → True := fun _ => trivial
  have one : Q (.ref s.heap.objs.size) { s with heap := s.heap.push { cls := .type "list", data := .seq [Value.str x t].toArray } } → True := fun _ => trivial
  have own : splitS x y = [x] → Q (.ref s.heap.objs.size) { s with heap := s.heap.push { cls := .type "list", data := .seq [Value.str x t].toArray } } := fun e => by
    have := rd_newlist (c := c) (tk := s.toks) xo (Rds.cons (rdS (i := x) (t := t)) Rds.nil) (Nat.le_refl _)
    exact h _ _ this.1 (by rw [e]; exact this.2)
  cases h1 : (decide (x.length < y.length) || decide (Builtin.Str.strKind x < Builtin.Str.strKind y)) with
  | true =>
    with_reducible refine call_meets PySem.F.slot_str_split (typeIs_str _ _ _) PySem.F.entry_str_split (PySem.F.args_str_split_2 _ _) (meets_str_split_cannot_occur x y t u h1) ?_
    exact own (by unfold splitS; rw [h1]; rfl)
  | false =>
    cases hf : (Builtin.Str.occurrences x y 0 x.length (x.length + 1)).isEmpty with
    | true =>
      with_reducible refine call_meets PySem.F.slot_str_split (typeIs_str _ _ _) PySem.F.entry_str_split (PySem.F.args_str_split_2 _ _) (meets_str_split_not_found x y t u h1 hy hf) ?_
      exact own (by unfold splitS; rw [h1, hf]; rfl)
    | false =>
      have e : splitS x y = Builtin.Str.partsBetween x (Builtin.Str.occurrences x y 0 x.length (x.length + 1)) y.length := by unfold splitS; rw [h1, hf]; rfl
      with_reducible refine call_meets PySem.F.slot_str_split (typeIs_str _ _ _) PySem.F.entry_str_split (PySem.F.args_str_split_2 _ _) (meets_str_split_sep x y t u h1 hy hf hx (by rw [← e]; exact hn)) ?_
      rw [← e]
      have := rd_newlist (c := c) (tk := s.toks + (splitS x y).length) xo (rds_strs (splitS x y) s.toks) (Nat.le_add_right _ _)
      exact h _ _ this.1 this.2

theorem m_splitlines {x : Str} (hx : x.length ≤ sizeLine) (hn : (lineCuts x).length ≤ sizeLine) : OpN c k (fun vs => call (.builtin "str.splitlines") vs) [.str x] (.lst (txts (linesS x))) :=
  opn1 fun A X s t _ _ xo Q h => by
  with_reducible refine call_meets PySem.F.slot_str_splitlines (typeIs_str _ _ _) PySem.F.entry_str_splitlines (PySem.F.args_str_splitlines_1 _) (meets_str_splitlines x t hx hn) ?_
  cases e : lineCuts x == [(0, x.length)] with
  | true =>
    simp only [if_true]
    have := rd_newlist (c := c) (tk := s.toks) xo (Rds.cons (rdS (i := x) (t := t)) Rds.nil) (Nat.le_refl _)
    exact h _ _ this.1 (by unfold linesS; rw [e]; exact this.2)
  | false =>
    simp only [Bool.false_eq_true, if_false]
    have := rd_newlist (c := c) (tk := s.toks + (lineCuts x).length) xo (rds_strs (linesOf x) s.toks) (Nat.le_add_right _ _)
    exact h _ _ this.1 (by unfold linesS; rw [e]; exact this.2)

theorem glued_one (sep x : Str) : Builtin.Str.glued sep [x] = x := rfl
theorem m_join {sep : Str} {xs : List Str} (hl : Builtin.Str.tooLong (xs.toArray.foldl (· + ·.length + sep.length) 0) = false) (hg : (Builtin.Str.glued sep xs).length ≤ sizeLine) :
    OpN c k (fun vs => call (.builtin "str.join") vs) [.str sep, .lst (txts xs)] (.str (Builtin.Str.glued sep xs)) := by
  intro A X s vs R B xo rvs
  refine Does.up fun Q h => ?_
  simp only [Rds, Rd] at rvs
  obtain ⟨_, _, rfl, ⟨t, rfl⟩, _, _, rfl, ⟨a, us, rfl, _, hl', rus⟩, rfl⟩ := rvs
  obtain ⟨l, rfl, rfl⟩ := strs_rds rus
  with_reducible refine call_meets PySem.F.slot_str_join (typeIs_str _ _ _) PySem.F.entry_str_join (PySem.F.args_str_join_2 _ _) (meets_str_join_list sep t a l hl) ⟨hl', ?_⟩
  have made : ∀ z, z = Builtin.Str.glued sep (l.map (·.1)) → (Made.str z).post Q s := by
    rintro z rfl
    exact ⟨hg, h _ _ ExtW.toks rdS⟩
  cases l with
  | nil => exact made _ rfl
  | cons p r => cases r with
    | nil => exact h _ _ (ExtW.refl s) rdS
    | cons q r' => exact made _ rfl
end
end Mine
namespace Mine
open PySem PySem.W PyProof.Rows

noncomputable def fLt (a b : UInt64) : Bool := Float64.cmp a b == some .lt
noncomputable def fMax (a b c : UInt64) : UInt64 := let m := if fLt a b then b else a; if fLt m c then c else m
noncomputable def fMin (a b c : UInt64) : UInt64 := let m := if fLt b a then b else a; if fLt c m then c else m

section
variable {c : Cx} {k : Nat} {F : Frm}

theorem opn3f {f : List Value → Sem Value} {x y z : UInt64} {r : PV} (h : ∀ A X s t u v, A.handled = none → (t ≠ 0 ∧ c.lo ≤ t ∧ t < s.toks) → (u ≠ 0 ∧ c.lo ≤ u ∧ u < s.toks) → (v ≠ 0 ∧ c.lo ≤ v ∧ v < s.toks) → ∀ Q : Value → Shared → Prop, (∀ v s', ExtW s s' → (s.toks ≤ s'.toks → Rd c.lo X s' r v) → Q v s') → wpAny c.M A (f [.float x t, .float y u, .float z v]) Q (fun _ _ => False) s) : OpN c k f [.flt x, .flt y, .flt z] r := by
  intro A X s vs R B xo rvs
  simp only [Rds, Rd] at rvs
  obtain ⟨_, _, rfl, ⟨t, t1, t2, t3, rfl⟩, _, _, rfl, ⟨u, u1, u2, u3, rfl⟩, _, _, rfl, ⟨v, v1, v2, v3, rfl⟩, rfl⟩ := rvs
  exact Does.up2 fun Q hq => h A X s t u v R.handled ⟨t1, t2, t3⟩ ⟨u1, u2, u3⟩ ⟨v1, v2, v3⟩ Q hq

theorem three_old {s : Shared} {o₀ o₁ : Obj} {h' : Heap} {x : Addr} (hx : x = s.heap.objs.size + 1) (hk : ∀ b o, b ∉ [x] → ((s.heap.push o₀).push o₁).get? b = some o → h'.get? b = some o) : Keep s.heap h' := fun d o e => by
  refine hk d o (fun hm => ?_) (Heap.get?_push_of_some _ (Heap.get?_push_of_some _ e))
  rw [List.mem_singleton] at hm
  have := Heap.lt_size e
  rw [hm, hx] at this
  exact Nat.lt_irrefl _ (Nat.lt_of_succ_lt this)

theorem b_max3 {x y z : UInt64} : OpN c k (fun vs => call (.builtin "max") vs) [.flt x, .flt y, .flt z] (.flt (fMax x y z)) := opn3f fun A X s t u v hh ht hu hv0 Q h => by
  have hT : (s.heap.push { cls := .type "tuple", data := .seq #[.float x t, .float y u, .float z v] }).IsTuple s.heap.objs.size #[.float x t, .float y u, .float z v] := ⟨_, Heap.get?_push_size _ rfl, rfl, 0, rfl⟩
  refine call_max_three (wpAny_pyIter_tuple hT ?_)
  have hsz : (s.heap.push { cls := .type "tuple", data := .seq #[.float x t, .float y u, .float z v] }).objs.size = s.heap.objs.size + 1 := Heap.size_push ..
  refine ⟨_, [_, s.heap.objs.size], [_], _, _, _, _, rfl, Walks.tuple (A := A.in1) hh _ s.heap.objs.size (by rw [hsz]; exact Nat.ne_of_lt (Nat.lt_succ_self _)) #[.float x t, .float y u, .float z v],
    ⟨⟨_, Heap.get?_push_size _ rfl, rfl, rfl⟩, hT.push _⟩, fun d hd => ?_, by simp, Flt.cmpOf_gt #[.float x t, .float y u, .float z v] (by simp; exact ⟨.float _ _, .float _ _, .float _ _⟩), fun r h' tk hP hk => ?_⟩
  · show d < ((s.heap.push _).push _).objs.size
    rw [Heap.size_push, hsz]
    rcases List.mem_cons.mp hd with rfl | hd
    · rw [hsz]; exact Nat.lt_succ_self _
    · rcases List.mem_cons.mp hd with rfl | hd
      · exact Nat.lt_succ_of_lt (Nat.lt_succ_self _)
      · cases hd
  · have hv : ∃ t', (t' ≠ 0 ∧ c.lo ≤ t' ∧ t' < s.toks) ∧ r = .float (fMax x y z) t' := by
      unfold fMax fLt
      cases h1 : (Float64.cmp x y == some Ordering.lt) <;> cases h2 : (Float64.cmp x z == some Ordering.lt) <;> cases h3 : (Float64.cmp y z == some Ordering.lt) <;>
        simp [argBest, Flt.ltV, h1, h2, h3] at hP <;> subst hP <;> simp [h2, h3] <;> first | exact ht | exact hu | exact hv0
    obtain ⟨t', ht', rfl⟩ := hv
    exact h _ _ (ExtW.heap (three_old hsz hk)) (fun le => rdF ht'.1 ht'.2.1 (Nat.lt_of_lt_of_le ht'.2.2 le))

theorem b_min3 {x y z : UInt64} : OpN c k (fun vs => call (.builtin "min") vs) [.flt x, .flt y, .flt z] (.flt (fMin x y z)) := opn3f fun A X s t u v hh ht hu hv0 Q h => by
  have hT : (s.heap.push { cls := .type "tuple", data := .seq #[.float x t, .float y u, .float z v] }).IsTuple s.heap.objs.size #[.float x t, .float y u, .float z v] := ⟨_, Heap.get?_push_size _ rfl, rfl, 0, rfl⟩
  refine call_min_three (wpAny_pyIter_tuple hT ?_)
  have hsz : (s.heap.push { cls := .type "tuple", data := .seq #[.float x t, .float y u, .float z v] }).objs.size = s.heap.objs.size + 1 := Heap.size_push ..
  refine ⟨_, [_, s.heap.objs.size], [_], _, _, _, _, rfl, Walks.tuple (A := A.in1) hh _ s.heap.objs.size (by rw [hsz]; exact Nat.ne_of_lt (Nat.lt_succ_self _)) #[.float x t, .float y u, .float z v],
    ⟨⟨_, Heap.get?_push_size _ rfl, rfl, rfl⟩, hT.push _⟩, fun d hd => ?_, by simp, Flt.cmpOf_lt #[.float x t, .float y u, .float z v] (by simp; exact ⟨.float _ _, .float _ _, .float _ _⟩), fun r h' tk hP hk => ?_⟩
  · show d < ((s.heap.push _).push _).objs.size
    rw [Heap.size_push, hsz]
    rcases List.mem_cons.mp hd with rfl | hd
    · rw [hsz]; exact Nat.lt_succ_self _
    · rcases List.mem_cons.mp hd with rfl | hd
      · exact Nat.lt_succ_of_lt (Nat.lt_succ_self _)
      · cases hd
  · have hv : ∃ t', (t' ≠ 0 ∧ c.lo ≤ t' ∧ t' < s.toks) ∧ r = .float (fMin x y z) t' := by
      unfold fMin fLt
      cases h1 : (Float64.cmp y x == some Ordering.lt) <;> cases h2 : (Float64.cmp z x == some Ordering.lt) <;> cases h3 : (Float64.cmp z y == some Ordering.lt) <;>
        simp [argBest, Flt.ltV, h1, h2, h3] at hP <;> subst hP <;> simp [h2, h3] <;> first | exact ht | exact hu | exact hv0
    obtain ⟨t', ht', rfl⟩ := hv
    exact h _ _ (ExtW.heap (three_old hsz hk)) (fun le => rdF ht'.1 ht'.2.1 (Nat.lt_of_lt_of_le ht'.2.2 le))

theorem opn2i {f : List Value → Sem Value} {x y : Int} {r : PV} (h : ∀ A X s t u, A.handled = none → ∀ Q : Value → Shared → Prop, (∀ v s', ExtW s s' → Rd c.lo X s' r v → Q v s') → wpAny c.M A (f [.int x t, .int y u]) Q (fun _ _ => False) s) : OpN c k f [.int x, .int y] r := by
  intro A X s vs R B xo rvs
  simp only [Rds, Rd] at rvs
  obtain ⟨_, _, rfl, ⟨t, rfl⟩, _, _, rfl, ⟨u, rfl⟩, rfl⟩ := rvs
  exact Does.up fun Q hq => h A X s t u R.handled Q hq
theorem opn1i {f : List Value → Sem Value} {x : Int} {r : PV} (h : ∀ A X s t, A.handled = none → ∀ Q : Value → Shared → Prop, (∀ v s', ExtW s s' → Rd c.lo X s' r v → Q v s') → wpAny c.M A (f [.int x t]) Q (fun _ _ => False) s) : OpN c k f [.int x] r := by
  intro A X s vs R B xo rvs
  simp only [Rds, Rd] at rvs
  obtain ⟨_, _, rfl, ⟨t, rfl⟩, rfl⟩ := rvs
  exact Does.up fun Q hq => h A X s t R.handled Q hq

theorem b_max2 {a b : Int} : OpN c k (fun vs => call (.builtin "max") vs) [.int a, .int b] (.int (if a < b then b else a)) := opn2i fun A X s t u hh Q h => by
  with_reducible refine max_two_ints hh fun h' tk kp => ?_
  refine h _ _ (ExtW.heap kp) ?_
  by_cases hb : a < b
  · have : b > a := hb
    simp only [this, if_true, hb]; exact rdI
  · have : ¬ b > a := hb
    simp only [this, if_false, hb]; exact rdI
theorem b_min2 {a b : Int} : OpN c k (fun vs => call (.builtin "min") vs) [.int a, .int b] (.int (if b < a then b else a)) := opn2i fun A X s t u hh Q h => by
  with_reducible refine min_two_ints hh fun h' tk kp => ?_
  refine h _ _ (ExtW.heap kp) ?_
  by_cases hb : b < a
  · simp only [if_true, hb]; exact rdI
  · simp only [if_false, hb]; exact rdI

noncomputable def intsL (ns : List Int) : List PV := ns.map .int
theorem rds_intsL {lo : Nat} {X : List Addr} {s : Shared} : ∀ {ns : List Int} {vs : List Value}, Rds lo X s (intsL ns) vs → ∃ xs : List (Int × Tok), vs.toArray = intItems xs.toArray ∧ xs.map (·.1) = ns
  | [], vs, r => by
    have r : Rds lo X s [] vs := r
    simp only [Rds] at r; subst r; exact ⟨[], by simp [intItems], rfl⟩
  | n :: ns, vs, r => by
    have r : Rds lo X s (.int n :: intsL ns) vs := r
    simp only [Rds] at r
    obtain ⟨v, vs', rfl, h1, h2⟩ := r
    simp only [Rd] at h1
    obtain ⟨t, rfl⟩ := h1
    obtain ⟨xs, e, rfl⟩ := rds_intsL h2
    refine ⟨(n, t) :: xs, ?_, rfl⟩
    have : vs' = (intItems xs.toArray).toList := by rw [← e]
    subst this
    simp [intItems]

noncomputable def maxL : List Int → Int
  | [] => 0
  | [a] => a
  | a :: b :: r => if a < maxL (b :: r) then maxL (b :: r) else a
noncomputable def minL : List Int → Int
  | [] => 0
  | [a] => a
  | a :: b :: r => if minL (b :: r) < a then minL (b :: r) else a
theorem maxL_spec : ∀ {l : List Int}, l ≠ [] → maxL l ∈ l ∧ ∀ a ∈ l, a ≤ maxL l
  | [a], _ => ⟨by simp [maxL], by simp [maxL]⟩
  | a :: b :: r, _ => by
    obtain ⟨h1, h2⟩ := maxL_spec (l := b :: r) (by simp)
    unfold maxL
    split
    · rename_i hl
      refine ⟨List.mem_cons_of_mem _ h1, fun x hx => ?_⟩
      rcases List.mem_cons.mp hx with rfl | hx
      · lia
      · exact h2 x hx
    · rename_i hl
      refine ⟨List.mem_cons_self, fun x hx => ?_⟩
      rcases List.mem_cons.mp hx with rfl | hx
      · lia
      · have := h2 x hx; lia
theorem minL_spec : ∀ {l : List Int}, l ≠ [] → minL l ∈ l ∧ ∀ a ∈ l, minL l ≤ a
  | [a], _ => ⟨by simp [minL], by simp [minL]⟩
  | a :: b :: r, _ => by
    obtain ⟨h1, h2⟩ := minL_spec (l := b :: r) (by simp)
    unfold minL
    split
    · rename_i hl
      refine ⟨List.mem_cons_of_mem _ h1, fun x hx => ?_⟩
      rcases List.mem_cons.mp hx with rfl | hx
      · lia
      · exact h2 x hx
    · rename_i hl
      refine ⟨List.mem_cons_self, fun x hx => ?_⟩
      rcases List.mem_cons.mp hx with rfl | hx
      · lia
      · have := h2 x hx; lia

theorem opnl {f : List Value → Sem Value} {ns : List Int} {r : PV} (h : ∀ A X s a (xs : List (Int × Tok)), xs.map (·.1) = ns → A.handled = none → s.heap.IsList a (intItems xs.toArray) → ∀ Q : Value → Shared → Prop, (∀ v s', ExtW s s' → Rd c.lo X s' r v → Q v s') → wpAny c.M A (f [.ref a]) Q (fun _ _ => False) s) : OpN c k f [.lst (intsL ns)] r := by
  intro A X s vs R B xo rvs
  simp only [Rds, Rd] at rvs
  obtain ⟨_, _, rfl, ⟨a, us, rfl, _, hl, rus⟩, rfl⟩ := rvs
  obtain ⟨xs, e, hxs⟩ := rds_intsL rus
  exact Does.up fun Q hq => h A X s a xs hxs R.handled (e ▸ hl) Q hq

theorem b_maxL {ns : List Int} (hne : ns ≠ []) : OpN c k (fun vs => call (.builtin "max") vs) [.lst (intsL ns)] (.int (maxL ns)) := opnl fun A X s a xs hxs hh hl Q h => by
  have hlen : 0 < xs.toArray.size := by
    cases xs with
    | nil => exact absurd hxs.symm (by simpa using hne)
    | cons p r => simp
  with_reducible refine max_intList hh hl hlen fun v h' tk hv kp => ?_
  refine h _ _ (ExtW.heap kp) ?_
  obtain ⟨t, rfl⟩ := intItems_at hv
  obtain ⟨h1, h2⟩ := argBest_gt (numAt xs.toArray) (xs.toArray.size - 1)
  have e : numAt xs.toArray (argBest (fun i j => decide (numAt xs.toArray i > numAt xs.toArray j)) (xs.toArray.size - 1)) = maxL ns := by
    obtain ⟨m1, m2⟩ := maxL_spec hne
    refine Int.le_antisymm (m2 _ ?_) ?_
    · rw [numAt_eq, show xs.toArray.toList = xs from rfl, hxs]
      refine getD_mem ?_
      rw [← hxs, List.length_map]
      simp at hlen h1 ⊢
      lia
    · obtain ⟨j, hj, e⟩ := mem_getD m1
      rw [← e]
      have e2 := numAt_eq xs.toArray j
      rw [show xs.toArray.toList = xs from rfl, hxs] at e2
      rw [← e2]
      refine h2 j ?_
      rw [← hxs, List.length_map] at hj
      simp; lia
  rw [e]; exact rdI
theorem b_minL {ns : List Int} (hne : ns ≠ []) : OpN c k (fun vs => call (.builtin "min") vs) [.lst (intsL ns)] (.int (minL ns)) := opnl fun A X s a xs hxs hh hl Q h => by
  have hlen : 0 < xs.toArray.size := by
    cases xs with
    | nil => exact absurd hxs.symm (by simpa using hne)
    | cons p r => simp
  with_reducible refine min_intList hh hl hlen fun v h' tk hv kp => ?_
  refine h _ _ (ExtW.heap kp) ?_
  obtain ⟨t, rfl⟩ := intItems_at hv
  obtain ⟨h1, h2⟩ := argBest_lt (numAt xs.toArray) (xs.toArray.size - 1)
  have e : numAt xs.toArray (argBest (fun i j => decide (numAt xs.toArray i < numAt xs.toArray j)) (xs.toArray.size - 1)) = minL ns := by
    obtain ⟨m1, m2⟩ := minL_spec hne
    refine Int.le_antisymm ?_ (m2 _ ?_)
    · obtain ⟨j, hj, e⟩ := mem_getD m1
      rw [← e]
      have e2 := numAt_eq xs.toArray j
      rw [show xs.toArray.toList = xs from rfl, hxs] at e2
      rw [← e2]
      refine h2 j ?_
      rw [← hxs, List.length_map] at hj
      simp; lia
    · rw [numAt_eq, show xs.toArray.toList = xs from rfl, hxs]
      refine getD_mem ?_
      rw [← hxs, List.length_map]
      simp at hlen h1 ⊢
      lia
  rw [e]; exact rdI
theorem b_sum {ns : List Int} (hfit : ∀ j, j < ns.length → InLong (ns.getD j 0) ∧ InLong (ns.take (j + 1)).sum) : OpN c k (fun vs => call (.builtin "sum") vs) [.lst (intsL ns)] (.int ns.sum) := opnl fun A X s a xs hxs hh hl Q h => by
  have hs : xs.toArray.size = ns.length := by rw [← hxs]; simp
  with_reducible refine sum_intList hh hl (fun j hj => ?_) fun h' tk t' kp => ?_
  · rw [hs] at hj
    obtain ⟨h1, h2⟩ := hfit j hj
    rw [numAt_eq, preSum_eq, show xs.toArray.toList = xs from rfl, hxs]
    exact ⟨h1, h2⟩
  · rw [preSum_eq, show xs.toArray.toList = xs from rfl, hxs, hs, List.take_length]
    exact h _ _ (ExtW.heap kp) rdI
theorem b_abs {a : Int} : OpN c k (fun vs => call (.builtin "abs") vs) [.int a] (.int (if a < 0 then -a else a)) := opn1i fun A X s t hh Q h => by
  with_reducible exact call_abs_int fun u tk => h _ _ ExtW.toks rdI
theorem b_len_str {x : Str} (hf : (x.length : Int) < 2 ^ 63) : OpN c k (fun vs => call (.builtin "len") vs) [.str x] (.int x.length) := opn1 fun A X s t _ _ _ Q h => by
  with_reducible exact PySem.P.len_str (by lia) (h _ _ ExtW.toks rdI)
theorem b_len_lst {l : List PV} (hf : (l.length : Int) < 2 ^ 63) : OpN c k (fun vs => call (.builtin "len") vs) [.lst l] (.int l.length) := by
  intro A X s vs R B xo rvs
  refine Does.up fun Q h => ?_
  simp only [Rds, Rd] at rvs
  obtain ⟨_, _, rfl, ⟨a, us, rfl, _, hl, rus⟩, rfl⟩ := rvs
  have e : us.toArray.size = l.length := by rw [List.size_toArray, rus.length]
  have hq : Q (.int (us.toArray.size) (s.toks + 1)) { s with toks := s.toks + 1 + 1 } := h _ _ ExtW.toks (by rw [e]; exact rdI)
  with_reducible exact PySem.Calls.call_len_list hl (by rw [e]; exact hf) hq
theorem b_chr {i : Int} (hi : (decide (i < 0) || decide (i > 0x10FFFF)) = false) : OpN c k (fun vs => call (.builtin "chr") vs) [.int i] (.str ⟨#[i.toNat]⟩) := opn1i fun A X s t _ Q h => by
  with_reducible exact PySem.P.chr_of_int hi (h _ _ ExtW.toks rdS)
theorem b_ord {n : Nat} : OpN c k (fun vs => call (.builtin "ord") vs) [.str ⟨#[n]⟩] (.int n) := opn1 fun A X s t _ _ _ Q h => by
  with_reducible exact PySem.P.ord_of_char (h _ _ ExtW.toks rdI)
theorem b_int_flt {x : UInt64} {sg : Bool} {m : Nat} {e : Int} (hd : Float64.decode x = .fin sg m e) : OpN c k (fun vs => call (.type "int") vs) [.flt x] (.int (Float64.truncOf sg m e)) := by
  intro A X s vs R B xo rvs
  refine Does.up fun Q h => ?_
  simp only [Rds, Rd] at rvs
  obtain ⟨_, _, rfl, ⟨t, _, _, _, rfl⟩, rfl⟩ := rvs
  with_reducible exact PySem.call_int_float hd (h _ _ ExtW.toks rdI)
theorem b_str_int {a : Int} (ha : a.natAbs.log2 < 1920) : OpN c k (fun vs => call (.type "str") vs) [.int a] (.str (Str.ofString (toString a))) := opn1i fun A X s t _ Q h => by
  with_reducible exact PySem.P.str_of_int ha (h _ _ ExtW.toks rdS)
end
end Mine
namespace Mine
open PySem PySem.W PyProof.Rows PySem.NumText

/-- the sign of a hexadecimal digit, great -/
noncomputable def hexUp (d : Nat) : Nat := if d < 10 then 48 + d else 55 + d

theorem wp_text16 {M : Model} {A : Around} {E : Value → Shared → Prop} {s : Shared} {Q : Value → Shared → Prop} {v : Value} {text : List Nat} {n : Int}
    (hs : (text.takeWhile (· != 0)).length ≤ 640) (hr : (int_private% "readNumeral") 0 16 (text.takeWhile (· != 0)) = (int_private% "Numeral.value") n)
    (ha : ((text.takeWhile (· != 0)).length == text.length) = true) (h : Q (.int n s.toks) { s with toks := s.toks + 1 }) :
    wpAny M A ((int_private% "intFromText") v text 16) Q E s := by
  obtain ⟨hp, g, d, tk, os⟩ := s
  repeat (any_goals (first
    | assumption
    | (with_reducible refine wpAny_ite_true (decide_eq_true hs) ?_)
    | (with_reducible refine wpAny_ite_true (decide_eq_true ha) ?_)
    | wp_step))
  all_goals (try rw [hr])
  all_goals (try dsimp only)
  repeat (any_goals (first
    | assumption
    | (with_reducible refine wpAny_ite_true (decide_eq_true hs) ?_)
    | (with_reducible refine wpAny_ite_true (decide_eq_true ha) ?_)
    | wp_step))

theorem read16_tab : (List.range 256).map (fun (r : Nat) => (int_private% "readNumeral") 0 16 [hexUp (r / 16), hexUp (r % 16)]) = (List.range 256).map (fun (r : Nat) => (int_private% "Numeral.value") ((r : Nat) : Int)) := by kernel_rfl
theorem read16 {r : Nat} (h : r < 256) : (int_private% "readNumeral") 0 16 [hexUp (r / 16), hexUp (r % 16)] = (int_private% "Numeral.value") (r : Int) :=
  List.map_inj_left.mp read16_tab r (List.mem_range.mpr h)
theorem hexUp_pos {d : Nat} : (hexUp d != 0) = true := by unfold hexUp; split <;> simp <;> lia
theorem hexUp_lt {d : Nat} (h : d < 16) : hexUp d < 128 := by unfold hexUp; split <;> lia

structure Hid2 (p : Prop) : Prop where
  out : p
set_option maxHeartbeats 4000000 in
theorem gives_text16 {r : Nat} {u u' : Tok} (h : r < 256) : Gives (Builtin.«int.__new__» ⟨[.type "int", .str ⟨#[hexUp (r / 16), hexUp (r % 16)]⟩ u, .int 16 u'], []⟩) (.int (r : Int)) :=
  .of_wp fun M A E s Q hq => by
    obtain ⟨hp, g, d, tk, os⟩ := s
    have f1 := F.conv_sub_int
    have f2 := F.madeHere_int
    have f6 : typeOf (.str ⟨#[hexUp (r / 16), hexUp (r % 16)]⟩ u) = pure (.type "str") := rfl
    have hk := Hid2.mk (read16 h)
    have h1 : hexUp (r / 16) < 128 := hexUp_lt (by lia)
    have h2 : hexUp (r % 16) < 128 := hexUp_lt (by lia)
    clear h
    have e : (if ((⟨#[hexUp (r / 16), hexUp (r % 16)]⟩ : Str).cps.all fun x => decide (x < 128)) = true then (⟨#[hexUp (r / 16), hexUp (r % 16)]⟩ : Str).cps.toList else Unicode.numberText (⟨#[hexUp (r / 16), hexUp (r % 16)]⟩ : Str).cps.toList) = [hexUp (r / 16), hexUp (r % 16)] := by
      rw [if_pos (by simp [h1, h2])]
    have e2 : List.takeWhile (fun x => x != 0) [hexUp (r / 16), hexUp (r % 16)] = [hexUp (r / 16), hexUp (r % 16)] := by simp [List.takeWhile, hexUp_pos]
    repeat (any_goals (first
      | assumption
      | ((with_reducible show wpAny _ _ ((int_private% "intFromText") _ _ _) _ _ _); refine wp_text16 (n := r) ?_ ?_ ?_ ?_)
      | wp_step))
    · rw [e, e2]; show 2 ≤ 640; decide
    · rw [e, e2]; exact hk.out
    · rw [e, e2]; rfl
    · exact ⟨_, rfl, hq⟩

namespace Two
theorem typeCall (a b : Value) : checkTypeCall "int" ⟨[a, b], []⟩ = pure () := by kernel_rfl
theorem newCall (a b : Value) : checkBuiltinCall "int.__new__" ⟨[.type "int", a, b], []⟩ = pure () := by kernel_rfl
theorem initArgs (o a b : Value) : argsOk "object.__init__" ⟨[o, a, b], []⟩ := by unfold argsOk; kernel_rfl
end Two

section
variable {c : Cx} {k : Nat} {F : Frm}
theorem b_int16 {r : Nat} (h : r < 256) : OpN c k (fun vs => call (.type "int") vs) [.str ⟨#[hexUp (r / 16), hexUp (r % 16)]⟩, .int 16] (.int (r : Int)) := by
  intro A X s vs R B xo rvs
  refine Does.up fun Q hq => ?_
  simp only [Rds, Rd] at rvs
  obtain ⟨_, _, rfl, ⟨t, rfl⟩, _, _, rfl, ⟨u, rfl⟩, rfl⟩ := rvs
  have hq' : Q (.int (r : Int) s.toks) { s with toks := s.toks + 1 } := hq _ _ ExtW.toks rdI
  with_reducible refine callType_new PySem.F.called_int PySem.F.newNe_int (Two.typeCall _ _) (Two.newCall _ _) (fun obj => Two.initArgs obj _ _) PySem.F.entry_int_new (gives_text16 h).meets ?_
  exact ⟨rfl, hq'⟩
theorem b_int_str {x : Str} {n : Int} (hn : PySem.intText? x = some n) (hl : x.length ≤ 640) : OpN c k (fun vs => call (.type "int") vs) [.str x] (.int n) := opn1 fun A X s t _ _ _ Q h => by
  with_reducible exact KIN.call_text hn hl (h _ _ ExtW.toks rdI)
end
end Mine
namespace Mine
open PySem PySem.W PyProof.Rows PySem.SeqAt

mutual
/-- equal by value -/
noncomputable def pvEq : PV → PV → Bool
  | .none, .none => true
  | .bool a, .bool b => a == b
  | .int a, .int b => a == b
  | .fltB a _ _, .fltB b _ _ => Float64.cmp a b == some .eq
  | .str a, .str b => a == b
  | .tup l, .tup m => pvEqs l m
  | .lst l, .lst m => pvEqs l m
  | _, _ => false
noncomputable def pvEqs : List PV → List PV → Bool
  | [], [] => true
  | p :: ps, q :: qs => pvEq p q && pvEqs ps qs
  | _, _ => false
end
mutual
/-- such as the model compares: kinds alike, floats told apart by their marks -/
noncomputable def eqOk : PV → PV → Bool
  | .none, .none => true
  | .bool _, .bool _ => true
  | .int _, .int _ => true
  | .fltB a i j, .fltB b k l => (decide (j ≤ k) || decide (l ≤ i)) && Float64.cmp a a == some .eq
  | .str _, .str _ => true
  | .tup l, .tup m => eqOks l m
  | .lst l, .lst m => eqOks l m
  | _, _ => false
noncomputable def eqOks : List PV → List PV → Bool
  | p :: ps, q :: qs => eqOk p q && eqOks ps qs
  | _, _ => true
end
mutual
noncomputable def pvDep : PV → Nat
  | .tup l => pvDeps l + 1
  | .lst l => pvDeps l + 1
  | _ => 0
noncomputable def pvDeps : List PV → Nat
  | [] => 0
  | p :: ps => max (pvDep p) (pvDeps ps)
end

theorem isSame_flt {M : Model} {A : Around} {E : Value → Shared → Prop} {s : Shared} {x y : UInt64} {t u : Tok} {Q : Bool → Shared → Prop} (ht : t ≠ 0) (hu : u ≠ 0) (htu : t ≠ u) (hb : NoneBooked s.heap)
    (hq : ∀ b, (b = true → x = y) → Q b s) : wpAny M A (isSame (.float x t) (.float y u)) Q E s := by
  have h0 : (t == 0 || u == 0) = false := by simp [ht, hu]
  have h1 : (t == u) = false := by simp [htu]
  show wpAny M A (if (t == 0 || u == 0) = true then _ else if (t == u) = true then _ else if (!(x == y && !Float64.isNaN x)) = true then pure false else _) Q E s
  rw [h0, h1]
  simp only [Bool.false_eq_true, if_false]
  split
  · exact wpAny_pure (hq false fun h => by cases h)
  · rename_i hc
    have hxy : x = y := by
      simp only [Bool.not_eq_true', Bool.not_eq_false, Bool.and_eq_true, beq_iff_eq] at hc
      exact hc.1
    refine wpAny_bind (wpAny_sharingNotTold_none hb ?_)
    simp only [Bool.false_eq_true, if_false]
    refine wpAny_bind (wpAny_sharingNotTold_none hb ?_)
    simp only [Bool.false_eq_true, if_false]
    exact wpAny_bind (wpAny_rule (wpAny_bind (wpAny_askSetting (wpAny_pure (hq _ fun _ => hxy)))))

theorem eqAt_flt {A : Around} {s : Shared} {x y : UInt64} {t u : Tok} (ht : t ≠ 0) (hu : u ≠ 0) (htu : t ≠ u) (hb : NoneBooked s.heap) (hx : (Float64.cmp x x == some .eq) = true) : EqAt A s (.float x t) (.float y u) (Float64.cmp x y == some .eq) := by
  intro prog w E Q hq
  unfold eqBool
  refine wpAny_holding ?_
  refine wpAny_ite_split (fun hab => ?_) (fun _ => ?_)
  · have hab := eq_of_beq hab
    injection hab with _ e
    exact absurd e htu
  · refine wpAny_bind (isSame_flt ht hu htu hb fun b hbx => ?_)
    cases b with
    | true =>
      have := hbx rfl
      subst this
      rw [hx] at hq
      exact wpAny_pure hq
    | false =>
      simp only [Bool.false_eq_true, if_false]
      refine wpAny_bind (m := richCompare .Eq (.float x t) (.float y u)) ?_
      exact AutoFloatOps.eq_0 (wpAny_truthy_bool hq)
theorem pvEqs_all : ∀ ps qs : List PV, pvEqs ps qs = ((List.range (min ps.length qs.length)).all (fun j => pvEq (ps.getD j .none) (qs.getD j .none)) && (ps.length == qs.length))
  | [], [] => by simp [pvEqs]
  | [], q :: qs => by simp [pvEqs]
  | p :: ps, [] => by simp [pvEqs]
  | p :: ps, q :: qs => by
    rw [pvEqs, pvEqs_all ps qs]
    have e : min (p :: ps).length (q :: qs).length = min ps.length qs.length + 1 := by simp only [List.length_cons]; lia
    rw [e, List.range_succ_eq_map, List.all_cons, List.all_map]
    have e2 : ((p :: ps).length == (q :: qs).length) = (ps.length == qs.length) := by simp
    rw [e2, Bool.and_assoc]
    rfl

section
variable {lo : Nat} {X : List Addr} {s : Shared}
theorem isList_same {h : Heap} {a : Addr} {xs ys : Array Value} (h1 : h.IsList a xs) (h2 : h.IsList a ys) : xs = ys := by
  obtain ⟨o, ho, _, n, hd⟩ := h1
  obtain ⟨o', ho', _, n', hd'⟩ := h2
  rw [ho] at ho'; cases ho'
  rw [hd] at hd'; injection hd'
theorem isTup_same {h : Heap} {a : Addr} {xs ys : Array Value} (h1 : IsTup h a xs) (h2 : IsTup h a ys) : xs = ys := by
  obtain ⟨o, ho, _, n, hd⟩ := h1
  obtain ⟨o', ho', _, n', hd'⟩ := h2
  rw [ho] at ho'; cases ho'
  rw [hd] at hd'; injection hd'

mutual
theorem pvEq_same : ∀ {p q : PV} {a : Value}, eqOk p q = true → Rd lo X s p a → Rd lo X s q a → pvEq p q = true
  | .none, q, a, h, ra, rb => by cases q <;> simp_all [eqOk, pvEq]
  | .bool x, q, a, h, ra, rb => by
    cases q <;> simp_all [eqOk, pvEq, Rd]
  | .int x, q, a, h, ra, rb => by
    cases q <;> simp_all [eqOk, pvEq, Rd]
    obtain ⟨t, rfl⟩ := ra
    simp_all
  | .str x, q, a, h, ra, rb => by
    cases q <;> simp_all [eqOk, pvEq, Rd]
    obtain ⟨t, rfl⟩ := ra
    simp_all
  | .fltB x i j, q, a, h, ra, rb => by
    cases q <;> simp only [eqOk, Bool.false_eq_true] at h
    simp only [Rd] at ra rb
    obtain ⟨t, _, t1, t2, rfl⟩ := ra
    obtain ⟨u, _, u1, u2, e⟩ := rb
    injection e with _ e
    subst e
    simp only [Bool.and_eq_true, Bool.or_eq_true, decide_eq_true_eq] at h
    lia
  | .tup l, q, a, h, ra, rb => by
    cases q <;> simp only [eqOk, Bool.false_eq_true] at h
    simp only [Rd] at ra rb
    obtain ⟨x, vs, rfl, _, t1, r1⟩ := ra
    obtain ⟨y, us, e, _, t2, r2⟩ := rb
    injection e with e
    subst e
    have e : vs = us := by simpa using isTup_same t1 t2
    subst e
    exact pvEqs_same h r1 r2
  | .lst l, q, a, h, ra, rb => by
    cases q <;> simp only [eqOk, Bool.false_eq_true] at h
    simp only [Rd] at ra rb
    obtain ⟨x, vs, rfl, _, t1, r1⟩ := ra
    obtain ⟨y, us, e, _, t2, r2⟩ := rb
    injection e with e
    subst e
    have e : vs = us := by simpa using isList_same t1 t2
    subst e
    exact pvEqs_same h r1 r2
  | .flt x, q, a, h, ra, rb => by cases q <;> simp [eqOk] at h
  | .gfl x, q, a, h, ra, rb => by cases q <;> simp [eqOk] at h
  | .val x, q, a, h, ra, rb => by cases q <;> simp [eqOk] at h
  | .app x, q, a, h, ra, rb => by cases q <;> simp [eqOk] at h
  | .lsa x l, q, a, h, ra, rb => by cases q <;> simp [eqOk] at h
theorem pvEqs_same : ∀ {ps qs : List PV} {vs : List Value}, eqOks ps qs = true → Rds lo X s ps vs → Rds lo X s qs vs → pvEqs ps qs = true
  | [], [], vs, h, ra, rb => rfl
  | [], q :: qs, vs, h, ra, rb => by
    simp only [Rds] at ra rb
    obtain ⟨_, _, e, _⟩ := rb
    rw [ra] at e; cases e
  | p :: ps, [], vs, h, ra, rb => by
    simp only [Rds] at ra rb
    obtain ⟨_, _, e, _⟩ := ra
    rw [rb] at e; cases e
  | p :: ps, q :: qs, vs, h, ra, rb => by
    simp only [Rds] at ra rb
    obtain ⟨v, r, rfl, h1, h2⟩ := ra
    obtain ⟨v', r', e, h1', h2'⟩ := rb
    injection e with e1 e2
    subst e1; subst e2
    simp only [eqOks, Bool.and_eq_true] at h
    simp only [pvEqs, Bool.and_eq_true]
    exact ⟨pvEq_same h.1 h1 h1', pvEqs_same h.2 h2 h2'⟩
end

mutual
theorem eqAt_pv (hb : NoneBooked s.heap) : ∀ {p q : PV} {a b : Value} {A : Around}, eqOk p q = true → Rd lo X s p a → Rd lo X s q b → A.units + pvDep p < cLine → EqAt A s a b (pvEq p q)
  | .none, q, a, b, A, h, ra, rb, hu => by
    cases q <;> simp only [eqOk, Bool.false_eq_true] at h
    simp only [Rd] at ra rb
    subst ra; subst rb
    exact EqAt.same _
  | .bool x, q, a, b, A, h, ra, rb, hu => by
    cases q <;> simp only [eqOk, Bool.false_eq_true] at h
    simp only [Rd] at ra rb
    subst ra; subst rb
    exact EqAt.bool_bool _ _
  | .int x, q, a, b, A, h, ra, rb, hu => by
    cases q <;> simp only [eqOk, Bool.false_eq_true] at h
    simp only [Rd] at ra rb
    obtain ⟨t, rfl⟩ := ra
    obtain ⟨u, rfl⟩ := rb
    exact EqAt.int_int _ _ _ _
  | .str x, q, a, b, A, h, ra, rb, hu => by
    cases q <;> simp only [eqOk, Bool.false_eq_true] at h
    simp only [Rd] at ra rb
    obtain ⟨t, rfl⟩ := ra
    obtain ⟨u, rfl⟩ := rb
    exact EqAt.str_str _ _ _ _
  | .fltB x i j, q, a, b, A, h, ra, rb, hu => by
    cases q <;> simp only [eqOk, Bool.false_eq_true] at h
    simp only [Rd] at ra rb
    obtain ⟨t, t0, t1, t2, rfl⟩ := ra
    obtain ⟨u, u0, u1, u2, rfl⟩ := rb
    simp only [Bool.and_eq_true, Bool.or_eq_true, decide_eq_true_eq] at h
    exact eqAt_flt t0 u0 (fun e => by subst e; lia) hb h.2
  | .tup l, q, a, b, A, h, ra, rb, hu => by
    cases q with
    | tup m =>
      have same := pvEq_same (p := .tup l) (q := .tup m) (a := a) h ra
      simp only [eqOk] at h
      simp only [pvDep] at hu
      simp only [Rd] at ra rb same
      obtain ⟨x, vs, rfl, nx, t1, r1⟩ := ra
      obtain ⟨y, us, rfl, ny, t2, r2⟩ := rb
      by_cases hxy : x = y
      · subst hxy
        rw [same ⟨x, us, rfl, ny, t2, r2⟩]
        exact EqAt.same _
      · refine EqAt.of_refs hxy ?_
        have := RcAt.tuples (e := fun j => pvEq (l.getD j .none) (m.getD j .none)) t1 t2 (A := A) (by lia) (fun j h1 h2 => by
          have e1 : j < l.length := by rw [← r1.length]; simpa using h1
          have e2 : j < m.length := by rw [← r2.length]; simpa using h2
          have := eqAt_pvs hb (A := A.in1) h r1 r2 (by simp only [Around.in1_units]; lia) j (by simpa using h1) (by simpa using h2)
          simpa using this)
        have e : pvEq (.tup l) (.tup m) = ((List.range (min vs.toArray.size us.toArray.size)).all (fun j => pvEq (l.getD j .none) (m.getD j .none)) && vs.toArray.size == us.toArray.size) := by
          rw [List.size_toArray, List.size_toArray, r1.length, r2.length]
          exact pvEqs_all l m
        rw [e]; exact this
    | _ => simp [eqOk] at h
  | .lst l, q, a, b, A, h, ra, rb, hu => by
    cases q with
    | lst m =>
      have same := pvEq_same (p := .lst l) (q := .lst m) (a := a) h ra
      simp only [eqOk] at h
      simp only [pvDep] at hu
      simp only [Rd] at ra rb same
      obtain ⟨x, vs, rfl, nx, t1, r1⟩ := ra
      obtain ⟨y, us, rfl, ny, t2, r2⟩ := rb
      by_cases hxy : x = y
      · subst hxy
        rw [same ⟨x, us, rfl, ny, t2, r2⟩]
        exact EqAt.same _
      · refine EqAt.of_refs hxy ?_
        by_cases hl : l.length = m.length
        · have := RcAt.lists (e := fun j => pvEq (l.getD j .none) (m.getD j .none)) t1 t2 (A := A) (by simp [r1.length, r2.length, hl]) (by lia) (fun j h1 h2 => by
            have := eqAt_pvs hb (A := A.in1) h r1 r2 (by simp only [Around.in1_units]; lia) j (by simpa using h1) (by simpa using h2)
            simpa using this)
          have e : pvEq (.lst l) (.lst m) = (List.range vs.toArray.size).all (fun j => pvEq (l.getD j .none) (m.getD j .none)) := by
            rw [List.size_toArray, r1.length]
            have := pvEqs_all l m
            rw [hl, Nat.min_self] at this
            simp only [beq_self_eq_true, Bool.and_true] at this
            rw [hl]
            exact this
          rw [e]; exact this
        · have := RcAt.lists_lengths t1 t2 (A := A) (by simp [r1.length, r2.length, hl]) (by lia)
          have e : pvEq (.lst l) (.lst m) = false := by
            have := pvEqs_all l m
            have h0 : (l.length == m.length) = false := by simp [hl]
            rw [h0, Bool.and_false] at this
            exact this
          rw [e]; exact this
    | _ => simp [eqOk] at h
  | .flt x, q, a, b, A, h, ra, rb, hu => by cases q <;> simp [eqOk] at h
  | .gfl x, q, a, b, A, h, ra, rb, hu => by cases q <;> simp [eqOk] at h
  | .val x, q, a, b, A, h, ra, rb, hu => by cases q <;> simp [eqOk] at h
  | .app x, q, a, b, A, h, ra, rb, hu => by cases q <;> simp [eqOk] at h
  | .lsa x l, q, a, b, A, h, ra, rb, hu => by cases q <;> simp [eqOk] at h
theorem eqAt_pvs (hb : NoneBooked s.heap) : ∀ {ps qs : List PV} {vs us : List Value} {A : Around}, eqOks ps qs = true → Rds lo X s ps vs → Rds lo X s qs us → A.units + pvDeps ps < cLine →
    ∀ (j : Nat) (h1 : j < vs.length) (h2 : j < us.length), EqAt A s vs[j] us[j] (pvEq (ps.getD j .none) (qs.getD j .none))
  | [], qs, vs, us, A, h, ra, rb, hu, j, h1, h2 => by
    simp only [Rds] at ra
    subst ra
    simp at h1
  | p :: ps, [], vs, us, A, h, ra, rb, hu, j, h1, h2 => by
    simp only [Rds] at rb
    subst rb
    simp at h2
  | p :: ps, q :: qs, vs, us, A, h, ra, rb, hu, j, h1, h2 => by
    simp only [Rds] at ra rb
    obtain ⟨v, r, rfl, g1, g2⟩ := ra
    obtain ⟨v', r', rfl, g1', g2'⟩ := rb
    simp only [eqOks, Bool.and_eq_true] at h
    simp only [pvDeps] at hu
    cases j with
    | zero =>
      show EqAt A s v v' (pvEq p q)
      exact eqAt_pv hb h.1 g1 g1' (by lia)
    | succ j =>
      have := eqAt_pvs hb (A := A) h.2 g2 g2' (by lia) j (by simpa using h1) (by simpa using h2)
      simpa using this
end
end
section
variable {c : Cx} {k : Nat}
theorem room_dep {A : Around} {d : Nat} (R : Room k A) (hd : d ≤ 100) : A.units + d < cLine := by have := R.units; lia
/-- == over lists and tuples -/
theorem o_eq_seq {p q : PV} (hs : (∃ l m, p = .lst l ∧ q = .lst m) ∨ (∃ l m, p = .tup l ∧ q = .tup m)) (h : eqOk p q = true) (hd : pvDep p ≤ 100) : Op2 c k (compareOp .Eq) p q (.bool (pvEq p q)) := by
  intro A X s a b R B xo ra rb Q hq
  have hb := B.booked
  rcases hs with ⟨l, m, rfl, rfl⟩ | ⟨l, m, rfl, rfl⟩
  · simp only [eqOk] at h
    simp only [pvDep] at hd
    simp only [Rd] at ra rb
    obtain ⟨x, vs, rfl, nx, t1, r1⟩ := ra
    obtain ⟨y, us, rfl, ny, t2, r2⟩ := rb
    by_cases hl : l.length = m.length
    · have e : pvEq (.lst l) (.lst m) = (List.range vs.toArray.size).all (fun j => pvEq (l.getD j .none) (m.getD j .none)) := by
        rw [List.size_toArray, r1.length]
        have := pvEqs_all l m
        rw [hl, Nat.min_self] at this
        simp only [beq_self_eq_true, Bool.and_true] at this
        rw [hl]
        exact this
      refine eq_listAt (e := fun j => pvEq (l.getD j .none) (m.getD j .none)) t1 t2 (by simp [r1.length, r2.length, hl]) (room_dep (d := 0) R (by lia)) (fun j h1 h2 => ?_) (e ▸ hq _ s (Ext.refl s) rdB)
      have := eqAt_pvs hb (A := A.in1) h r1 r2 (by have := R.units; simp only [Around.in1_units]; lia) j (by simpa using h1) (by simpa using h2)
      simpa using this
    · have e : pvEq (.lst l) (.lst m) = false := by
        have := pvEqs_all l m
        have h0 : (l.length == m.length) = false := by simp [hl]
        rw [h0, Bool.and_false] at this
        exact this
      exact eq_list_lengthsAt t1 t2 (by simp [r1.length, r2.length, hl]) (room_dep (d := 0) R (by lia)) (e ▸ hq _ s (Ext.refl s) rdB)
  · simp only [eqOk] at h
    simp only [pvDep] at hd
    simp only [Rd] at ra rb
    obtain ⟨x, vs, rfl, nx, t1, r1⟩ := ra
    obtain ⟨y, us, rfl, ny, t2, r2⟩ := rb
    have e : pvEq (.tup l) (.tup m) = ((List.range (min vs.toArray.size us.toArray.size)).all (fun j => pvEq (l.getD j .none) (m.getD j .none)) && vs.toArray.size == us.toArray.size) := by
      rw [List.size_toArray, List.size_toArray, r1.length, r2.length]
      exact pvEqs_all l m
    refine eq_tupleAt (e := fun j => pvEq (l.getD j .none) (m.getD j .none)) t1 t2 (room_dep (d := 0) R (by lia)) (fun j h1 h2 => ?_) (e ▸ hq _ s (Ext.refl s) rdB)
    have := eqAt_pvs hb (A := A.in1) h r1 r2 (by have := R.units; simp only [Around.in1_units]; lia) j (by simpa using h1) (by simpa using h2)
    simpa using this
/-- != over lists and tuples -/
theorem o_ne_seq {p q : PV} (hs : (∃ l m, p = .lst l ∧ q = .lst m) ∨ (∃ l m, p = .tup l ∧ q = .tup m)) (h : eqOk p q = true) (hd : pvDep p ≤ 100) : Op2 c k (compareOp .NotEq) p q (.bool (!pvEq p q)) := by
  intro A X s a b R B xo ra rb Q hq
  have hb := B.booked
  rcases hs with ⟨l, m, rfl, rfl⟩ | ⟨l, m, rfl, rfl⟩
  · simp only [eqOk] at h
    simp only [pvDep] at hd
    simp only [Rd] at ra rb
    obtain ⟨x, vs, rfl, nx, t1, r1⟩ := ra
    obtain ⟨y, us, rfl, ny, t2, r2⟩ := rb
    by_cases hl : l.length = m.length
    · have e : pvEq (.lst l) (.lst m) = (List.range vs.toArray.size).all (fun j => pvEq (l.getD j .none) (m.getD j .none)) := by
        rw [List.size_toArray, r1.length]
        have := pvEqs_all l m
        rw [hl, Nat.min_self] at this
        simp only [beq_self_eq_true, Bool.and_true] at this
        rw [hl]
        exact this
      refine RcNeAt.lists (e := fun j => pvEq (l.getD j .none) (m.getD j .none)) t1 t2 (by simp [r1.length, r2.length, hl]) (room_dep (d := 0) R (by lia)) (fun j h1 h2 => ?_) _ _ _ _ (e ▸ hq _ s (Ext.refl s) rdB)
      have := eqAt_pvs hb (A := A.in1) h r1 r2 (by have := R.units; simp only [Around.in1_units]; lia) j (by simpa using h1) (by simpa using h2)
      simpa using this
    · have e : pvEq (.lst l) (.lst m) = false := by
        have := pvEqs_all l m
        have h0 : (l.length == m.length) = false := by simp [hl]
        rw [h0, Bool.and_false] at this
        exact this
      exact RcNeAt.lists_lengths t1 t2 (by simp [r1.length, r2.length, hl]) (room_dep (d := 0) R (by lia)) _ _ _ _ (show Q (.bool (!false)) s from e ▸ hq _ s (Ext.refl s) rdB)
  · simp only [eqOk] at h
    simp only [pvDep] at hd
    simp only [Rd] at ra rb
    obtain ⟨x, vs, rfl, nx, t1, r1⟩ := ra
    obtain ⟨y, us, rfl, ny, t2, r2⟩ := rb
    have e : pvEq (.tup l) (.tup m) = ((List.range (min vs.toArray.size us.toArray.size)).all (fun j => pvEq (l.getD j .none) (m.getD j .none)) && vs.toArray.size == us.toArray.size) := by
      rw [List.size_toArray, List.size_toArray, r1.length, r2.length]
      exact pvEqs_all l m
    refine RcNeAt.tuples (e := fun j => pvEq (l.getD j .none) (m.getD j .none)) t1 t2 (room_dep (d := 0) R (by lia)) (fun j h1 h2 => ?_) _ _ _ _ (e ▸ hq _ s (Ext.refl s) rdB)
    have := eqAt_pvs hb (A := A.in1) h r1 r2 (by have := R.units; simp only [Around.in1_units]; lia) j (by simpa using h1) (by simpa using h2)
    simpa using this
mutual
noncomputable def pvSimple : PV → Bool
  | .none | .bool _ | .int _ | .str _ | .fltB _ _ _ => true
  | .tup l => pvSimples l
  | .lst l => pvSimples l
  | _ => false
noncomputable def pvSimples : List PV → Bool
  | [] => true
  | p :: ps => pvSimple p && pvSimples ps
end
mutual
noncomputable def pvEr : PV → PV
  | .fltB x _ _ => .fltB x 0 0
  | .tup l => .tup (pvErs l)
  | .lst l => .lst (pvErs l)
  | p => p
noncomputable def pvErs : List PV → List PV
  | [] => []
  | p :: ps => pvEr p :: pvErs ps
end
mutual
theorem pvEq_er : ∀ p q : PV, pvEq (pvEr p) q = pvEq p q
  | .none, q => rfl
  | .bool _, q => rfl
  | .int _, q => rfl
  | .flt _, q => rfl
  | .str _, q => rfl
  | .val _, q => rfl
  | .app _, q => rfl
  | .gfl _, q => rfl
  | .lsa _ _, q => rfl
  | .fltB x i j, q => by cases q <;> rfl
  | .tup l, q => by
    cases q <;> simp only [pvEr, pvEq]
    exact pvEqs_er l _
  | .lst l, q => by
    cases q <;> simp only [pvEr, pvEq]
    exact pvEqs_er l _
theorem pvEqs_er : ∀ ps qs : List PV, pvEqs (pvErs ps) qs = pvEqs ps qs
  | [], qs => rfl
  | p :: ps, [] => rfl
  | p :: ps, q :: qs => by simp only [pvErs, pvEqs, pvEq_er p q, pvEqs_er ps qs]
end
mutual
theorem rd_er {lo : Nat} {X : List Addr} {s : Shared} : ∀ {p q : PV} {v : Value}, pvSimple p = true → pvSimple q = true → Rd lo X s p v → Rd lo X s q v → pvEr p = pvEr q
  | .none, q, v, hp, hq, r1, r2 => by
    cases q <;> simp only [pvSimple, Bool.false_eq_true] at hq <;> simp only [Rd] at r1 r2 <;> subst r1 <;> simp_all
  | .bool x, q, v, hp, hq, r1, r2 => by
    cases q <;> simp only [pvSimple, Bool.false_eq_true] at hq <;> simp only [Rd] at r1 r2 <;> subst r1 <;> simp_all
  | .int x, q, v, hp, hq, r1, r2 => by
    cases q <;> simp only [pvSimple, Bool.false_eq_true] at hq <;> simp only [Rd] at r1 r2 <;> obtain ⟨t, rfl⟩ := r1 <;> simp_all
  | .str x, q, v, hp, hq, r1, r2 => by
    cases q <;> simp only [pvSimple, Bool.false_eq_true] at hq <;> simp only [Rd] at r1 r2 <;> obtain ⟨t, rfl⟩ := r1 <;> simp_all
  | .fltB x i j, q, v, hp, hq, r1, r2 => by
    cases q with
    | fltB y k l =>
      simp only [Rd] at r1 r2
      obtain ⟨t, _, _, _, rfl⟩ := r1
      obtain ⟨u, _, _, _, e⟩ := r2
      injection e with e1 e2
      subst e1
      rfl
    | _ => first | (simp [pvSimple] at hq; done) | (exfalso; simp only [Rd] at r1 r2; obtain ⟨t, _, _, _, rfl⟩ := r1; simp_all; done)
  | .tup l, q, v, hp, hq, r1, r2 => by
    cases q with
    | tup m =>
      simp only [pvSimple] at hp hq
      simp only [Rd] at r1 r2
      obtain ⟨x, vs, rfl, _, t1, r1⟩ := r1
      obtain ⟨y, us, e, _, t2, r2⟩ := r2
      injection e with e
      subst e
      have e : vs = us := by simpa using isTup_same t1 t2
      subst e
      simp only [pvEr, rds_er hp hq r1 r2]
    | lst m =>
      simp only [Rd] at r1 r2
      obtain ⟨x, vs, rfl, _, ⟨o, ho, hc, _⟩, _⟩ := r1
      obtain ⟨y, us, e, _, ⟨o', ho', hc', _⟩, _⟩ := r2
      injection e with e
      subst e
      rw [ho] at ho'; cases ho'
      rw [hc] at hc'
      injection hc' with e
      exact absurd e (by decide)
    | _ => first | (simp [pvSimple] at hq; done) | (exfalso; simp only [Rd] at r1 r2; obtain ⟨x, vs, rfl, _⟩ := r1; simp_all; done)
  | .lst l, q, v, hp, hq, r1, r2 => by
    cases q with
    | lst m =>
      simp only [pvSimple] at hp hq
      simp only [Rd] at r1 r2
      obtain ⟨x, vs, rfl, _, t1, r1⟩ := r1
      obtain ⟨y, us, e, _, t2, r2⟩ := r2
      injection e with e
      subst e
      have e : vs = us := by simpa using isList_same t1 t2
      subst e
      simp only [pvEr, rds_er hp hq r1 r2]
    | tup m =>
      simp only [Rd] at r1 r2
      obtain ⟨x, vs, rfl, _, ⟨o, ho, hc, _⟩, _⟩ := r1
      obtain ⟨y, us, e, _, ⟨o', ho', hc', _⟩, _⟩ := r2
      injection e with e
      subst e
      rw [ho] at ho'; cases ho'
      rw [hc] at hc'
      injection hc' with e
      exact absurd e (by decide)
    | _ => first | (simp [pvSimple] at hq; done) | (exfalso; simp only [Rd] at r1 r2; obtain ⟨x, vs, rfl, _⟩ := r1; simp_all; done)
  | .flt x, q, v, hp, hq, r1, r2 => by simp [pvSimple] at hp
  | .gfl x, q, v, hp, hq, r1, r2 => by simp [pvSimple] at hp
  | .val x, q, v, hp, hq, r1, r2 => by simp [pvSimple] at hp
  | .app x, q, v, hp, hq, r1, r2 => by simp [pvSimple] at hp
  | .lsa x l, q, v, hp, hq, r1, r2 => by simp [pvSimple] at hp
theorem rds_er {lo : Nat} {X : List Addr} {s : Shared} : ∀ {ps qs : List PV} {vs : List Value}, pvSimples ps = true → pvSimples qs = true → Rds lo X s ps vs → Rds lo X s qs vs → pvErs ps = pvErs qs
  | [], [], vs, hp, hq, r1, r2 => rfl
  | [], q :: qs, vs, hp, hq, r1, r2 => by
    simp only [Rds] at r1 r2
    obtain ⟨_, _, e, _⟩ := r2
    rw [r1] at e; cases e
  | p :: ps, [], vs, hp, hq, r1, r2 => by
    simp only [Rds] at r1 r2
    obtain ⟨_, _, e, _⟩ := r1
    rw [r2] at e; cases e
  | p :: ps, q :: qs, vs, hp, hq, r1, r2 => by
    simp only [Rds] at r1 r2
    obtain ⟨v, r, rfl, h1, h2⟩ := r1
    obtain ⟨v', r', e, h1', h2'⟩ := r2
    injection e with e1 e2
    subst e1; subst e2
    simp only [pvSimples, Bool.and_eq_true] at hp hq
    simp only [pvErs, rd_er hp.1 hq.1 h1 h1', rds_er hp.2 hq.2 h2 h2']
end

/-- p in a list -/
theorem o_in_lst {p : PV} {l : List PV} (h : ∀ q ∈ l, eqOk q p = true ∧ pvDep q ≤ 99 ∧ pvSimple q = true) : Op2 c k (compareOp .In) p (.lst l) (.bool (l.any fun q => pvEq q p)) := by
  intro A X s a b R B xo ra rb Q hq
  have hb := B.booked
  simp only [Rd] at rb
  obtain ⟨y, us, rfl, ny, t2, r2⟩ := rb
  -- what the values at hand are worth
  have key : ∃ e : Value → Bool, (∀ (j : Nat) q u, l[j]? = some q → us[j]? = some u → e u = pvEq q p) := by
    refine ⟨fun u => (l.zip us).any fun z => z.2 == u && pvEq z.1 p, fun j q u h1 h2 => ?_⟩
    cases hb' : pvEq q p with
    | true =>
      refine List.any_eq_true.mpr ⟨(q, u), ?_, by simp [hb']⟩
      exact List.mem_of_getElem? (i := j) (by rw [List.getElem?_zip_eq_some]; exact ⟨h1, h2⟩)
    | false =>
      refine Bool.eq_false_iff.mpr fun ha => ?_
      obtain ⟨⟨q', u'⟩, hm, he⟩ := List.any_eq_true.mp ha
      simp only [Bool.and_eq_true, beq_iff_eq] at he
      obtain ⟨e1, e2⟩ := he
      subst e1
      obtain ⟨i, hi⟩ := List.mem_iff_getElem?.mp hm
      rw [List.getElem?_zip_eq_some] at hi
      obtain ⟨v1, w1, g1⟩ := r2.get h1
      obtain ⟨v2, w2, g2⟩ := r2.get hi.1
      rw [h2] at w1; cases w1
      rw [hi.2] at w2; cases w2
      have e3 := rd_er (h q (List.mem_of_getElem? h1)).2.2 (h q' (List.mem_of_getElem? hi.1)).2.2 g1 g2
      rw [← pvEq_er, e3, pvEq_er, e2] at hb'
      cases hb'
  obtain ⟨e, he⟩ := key
  refine in_listAt e t2 (fun u hu => ?_) ?_
  · have hu : u ∈ us := by simpa using hu
    obtain ⟨j, hj⟩ := List.mem_iff_getElem?.mp hu
    have hjl : j < l.length := by rw [← r2.length]; exact (List.getElem?_eq_some_iff.mp hj).1
    have hq' : l[j]? = some l[j] := by simp [hjl]
    obtain ⟨v, w1, g⟩ := r2.get hq'
    rw [hj] at w1; cases w1
    rw [he j _ _ hq' hj]
    have hh := h l[j] (List.mem_of_getElem? hq')
    exact eqAt_pv hb hh.1 g ra (by have := R.units; simp only [Around.in1_units]; lia)
  · have e1 : us.toArray.any e = l.any fun q => pvEq q p := by
      rw [List.any_toArray]
      have : ∀ (l : List PV) (us : List Value), l.length = us.length → (∀ (j : Nat) q u, l[j]? = some q → us[j]? = some u → e u = pvEq q p) → us.any e = l.any fun q => pvEq q p := by
        intro l
        induction l with
        | nil => intro us hl _; cases us with
          | nil => rfl
          | cons _ _ => simp at hl
        | cons q l ih => intro us hl he; cases us with
          | nil => simp at hl
          | cons u us =>
            rw [List.any_cons, List.any_cons, he 0 q u rfl rfl, ih us (by simpa using hl) fun j q' u' h1 h2 => he (j + 1) q' u' (by simpa using h1) (by simpa using h2)]
      exact this l us r2.length.symm he
    rw [e1]
    exact hq _ s (Ext.refl s) rdB
end
end Mine
namespace Mine
open PySem PySem.W PyProof.Rows

section
variable {c : Cx} {k : Nat} {F : Frm}

theorem o_add_ll {l m : List PV} (hsz : l.length + m.length ≤ sizeLine) : Op2 c k (binaryOp .Add) (.lst l) (.lst m) (.lst (l ++ m)) := by
  intro A X s a b R B xo ra rb Q hq
  simp only [Rd] at ra rb
  obtain ⟨x, vs, rfl, nx, hl, r1⟩ := ra
  obtain ⟨y, ws, rfl, ny, hb, r2⟩ := rb
  obtain ⟨⟨cls, dd, data, sl⟩, ho, hc, n, hd⟩ := id hl
  obtain ⟨⟨cls2, dd2, data2, sl2⟩, ho2, hc2, n2, hd2⟩ := id hb
  simp only at hc hd hc2 hd2
  subst hc hd hc2 hd2
  have e : vs.toArray ++ ws.toArray = (vs ++ ws).toArray := by simp
  have hs : vs.toArray.size + ws.toArray.size ≤ sizeLine := by simp [r1.length, r2.length]; omega
  have ex : Ext s { s with heap := s.heap.push { cls := .type "list", data := .seq (vs ++ ws).toArray } } := Ext.push
  have fin : Q (.ref s.heap.objs.size) { s with heap := s.heap.push { cls := .type "list", data := .seq (vs ++ ws).toArray } } := by
    refine hq _ _ ex ?_
    simp only [Rd]
    exact ⟨_, vs ++ ws, rfl, xo.fresh, ⟨_, Heap.get?_push_size _ rfl, rfl, _, rfl⟩, (r1.append r2).ext ex⟩
  refine concat_meets hl.typeIs hb.typeIs noFill_list_add seq_list_add PySem.F.slot_list_add PySem.F.entry_list_add (PySem.F.args_list_add_2 _ _) (list_addW x y vs.toArray ws.toArray n n2 dd dd2 sl sl2 hs) ⟨ho, ho2, ?_⟩
  rw [e]
  exact fin

theorem o_mul_si {x : Str} {n : Int} (hok : MulOk x n) : Op2 c k (binaryOp .Mult) (.str x) (.int n) (.str (Txt.mul x n)) := by
  intro A X s a b R B xo ra rb
  refine Does.up fun Q hq => ?_
  simp only [Rd] at ra rb
  obtain ⟨t, rfl⟩ := ra
  obtain ⟨u, rfl⟩ := rb
  with_reducible exact SB.mul hok fun t' tk => hq _ _ ExtW.toks rdS

theorem tr_lst {l : List PV} (hf : (l.length : Int) < 2 ^ 63) : Truth c (.lst l) (!l.isEmpty) := by
  intro A X s a R B xo ra Q hq
  simp only [Rd] at ra
  obtain ⟨x, vs, rfl, nx, hl, r1⟩ := ra
  have e : vs.toArray.isEmpty = l.isEmpty := by
    have := r1.length
    cases vs <;> cases l <;> simp_all
  refine up_any ?_
  have fin : Q (!vs.toArray.isEmpty) { s with toks := s.toks + 1 + 1 } := by
    rw [e]
    exact hq _ (ExtW.toks.up (Nat.le_add_right _ 2))
  with_reducible exact wpAny_truthy_list hl (by rw [List.size_toArray, r1.length]; exact hf) fun _ => fin

theorem o_is_none_none : Op2 c k (compareOp .Is) .none .none (.bool true) := by
  intro A X s a b R B xo ra rb Q hq
  simp only [Rd] at ra rb
  subst ra; subst rb
  with_reducible exact PySem.is_none (hq _ s (Ext.refl s) rdB)
theorem o_is_int_none {i : Int} : Op2 c k (compareOp .Is) (.int i) .none (.bool false) := by
  intro A X s a b R B xo ra rb Q hq
  simp only [Rd] at ra rb
  obtain ⟨t, rfl⟩ := ra
  subst rb
  with_reducible exact is_int_none (hq _ s (Ext.refl s) rdB)

theorem op2_fg {f : Value → Value → Sem Value} {a b : UInt64} {r : PV} (h : ∀ A s t u, A.handled = none → (s.toks ≠ 0 ∧ c.lo ≤ s.toks) → ∀ Q : Value → Shared → Prop, (∀ v s', ExtW s s' → (∀ X, Rd c.lo X s' r v) → Q v s') → wpAny c.M A (f (.float a t) (.float b u)) Q (fun _ _ => False) s) : Op2 c k f (.flt a) (.gfl b) r := by
  intro A X s u v R B x ru rv
  simp only [Rd] at ru rv
  obtain ⟨t, _, _, _, rfl⟩ := ru
  obtain ⟨t', rfl⟩ := rv
  exact Does.up fun Q hq => h A s t t' R.handled ⟨Nat.ne_of_gt x.good.2, x.low⟩ Q fun v s' e r => hq v s' e (r X)
theorem op2_gf {f : Value → Value → Sem Value} {a b : UInt64} {r : PV} (h : ∀ A s t u, A.handled = none → (s.toks ≠ 0 ∧ c.lo ≤ s.toks) → ∀ Q : Value → Shared → Prop, (∀ v s', ExtW s s' → (∀ X, Rd c.lo X s' r v) → Q v s') → wpAny c.M A (f (.float a t) (.float b u)) Q (fun _ _ => False) s) : Op2 c k f (.gfl a) (.flt b) r := by
  intro A X s u v R B x ru rv
  simp only [Rd] at ru rv
  obtain ⟨t, rfl⟩ := ru
  obtain ⟨t', _, _, _, rfl⟩ := rv
  exact Does.up fun Q hq => h A s t t' R.handled ⟨Nat.ne_of_gt x.good.2, x.low⟩ Q fun v s' e r => hq v s' e (r X)
theorem o_add_fg {a b : UInt64} : Op2 c k (binaryOp .Add) (.flt a) (.gfl b) (.flt (Float64.add a b)) := op2_fg fun A s t u _ pos Q h => by with_reducible exact add_float (h _ _ ExtW.toks fun _ => rdNew pos)
theorem o_sub_fg {a b : UInt64} : Op2 c k (binaryOp .Sub) (.flt a) (.gfl b) (.flt (Float64.sub a b)) := op2_fg fun A s t u _ pos Q h => by with_reducible exact sub_float (h _ _ ExtW.toks fun _ => rdNew pos)
theorem o_sub_gf {a b : UInt64} : Op2 c k (binaryOp .Sub) (.gfl a) (.flt b) (.flt (Float64.sub a b)) := op2_gf fun A s t u _ pos Q h => by with_reducible exact sub_float (h _ _ ExtW.toks fun _ => rdNew pos)
theorem o_lt_fg {a b : UInt64} : Op2 c k (compareOp .Lt) (.flt a) (.gfl b) (.bool (Float64.cmp a b == some .lt)) := op2_fg fun A s t u _ pos Q h => by with_reducible exact AutoFloatOps.lt_0 (h _ _ (ExtW.refl s) fun _ => rdB)

/-- two lists are not one -/
theorem o_isnot_lsa {a b : Addr} {l m : List PV} (hab : a ≠ b) : Op2 c k (compareOp .IsNot) (.lsa a l) (.lsa b m) (.bool true) := by
  intro A X s u v R B xo ra rb Q hq
  simp only [Rd] at ra rb
  obtain ⟨vs, rfl, _, ⟨o, ho, hc, _⟩, _⟩ := ra
  obtain ⟨ws, rfl, _, ⟨o', ho', hc', _⟩, _⟩ := rb
  show wpAny _ A (do return .bool (!(← isSame (.ref a) (.ref b)))) Q _ s
  exact wpAny_bind (wpAny_isSame_ref_other hab ho ho' (by rw [hc]; decide) (wpAny_pure (hq _ s (Ext.refl s) rdB)))

/-- a list whose place is told, as a list -/
theorem Rd.unpin {lo : Nat} {X : List Addr} {s : Shared} {a : Addr} {l : List PV} {v : Value} (r : Rd lo X s (.lsa a l) v) : Rd lo X s (.lst l) v := by
  simp only [Rd] at r ⊢
  obtain ⟨vs, h⟩ := r
  exact ⟨a, vs, h⟩
theorem e_unpin {e : Expr} {a : Addr} {l : List PV} (h : Evals c k F e (.lsa a l)) : Evals c k F e (.lst l) := fun A s R r Q hq => h A s R r Q fun v s' e' rv => hq v s' e' rv.unpin

/-- from here on the place of the list is told -/
theorem r_pin (i : Nat) {ρ : List (Option PV)} {w : Ow} {l : List PV} {sts : List Stmt} {P : Out → Prop} (hi : ρ[i]? = some (some (.lst l)))
    (hn : ∀ a, Runs c k F (ρ.set i (some (.lsa a l))) w sts P) (hx : ∃ x, F.names[i]? = some x) : Runs c k F ρ w sts P := by
  intro S A s R r Q hq
  obtain ⟨x, hx⟩ := hx
  obtain ⟨m, hm, hv⟩ := r.vars
  obtain ⟨v, va, rv⟩ := hv i x _ hx hi
  simp only [Rd] at rv
  obtain ⟨a, vs, rfl, h1, h2, h3⟩ := rv
  refine hn a S A s R ⟨r.baseE, r.keep, r.env, ⟨m, hm, fun j y p e1 e2 => ?_⟩, r.own, r.cells, r.x0, r.good, r.low⟩ Q hq
  have e2 : (ρ.set i (some (.lsa a l)))[j]? = some (some p) := e2
  by_cases hj : j = i
  · subst hj
    have e1 : F.names[j]? = some y := e1
    rw [hx] at e1; cases e1
    rw [List.getElem?_set_self'] at e2
    rw [hi] at e2
    have e2 : PV.lsa a l = p := by simpa using e2
    subst e2
    refine ⟨_, va, ?_⟩
    simp only [Rd]
    exact ⟨vs, trivial, h1, h2, h3⟩
  · rw [List.getElem?_set_ne (Ne.symm hj)] at e2
    exact hv j y p e1 e2

/-- y = f(x), where the answer is a new list and x's place is told -/
theorem r_assign_new (i : Nat) {ρ : List (Option PV)} {w : Ow} {x : Str} {px pos : Pos} {e : Expr} {rest : List Stmt} {a : Addr} {l : List PV} {P : Out → Prop} (j : Nat) {la : List PV}
    (h1 : ∀ A s, Room k A → Rel c (F.at ρ w) s → ∀ Q : Value → Shared → Prop, (∀ v s', Ext s s' → Rd c.lo (F.at ρ w).X s' (.lst l) v → (∃ b, v = .ref b ∧ s.heap.get? b = none) → Q v s') → wpAny c.M A (eval e F.env) Q (fun _ _ => False) s)
    (hj : ρ[j]? = some (some (.lsa a la))) (hjx : ∃ y, F.names[j]? = some y) (sl : Slot F i x) (hsw : swapsWith e (some (.Name x px)) pos.line F.env = pure false)
    (hn : ∀ b, a ≠ b → Runs c k F (ρ.set i (some (.lsa b l))) w rest P) : Runs c k F ρ w (.Assign [.Name x px] e pos :: rest) P := by
  refine r_cons fun S A s R r Q hq => ?_
  obtain ⟨y, hy⟩ := hjx
  obtain ⟨m, hm, hv⟩ := r.vars
  obtain ⟨va, _, ra⟩ := hv j y _ hy hj
  simp only [Rd] at ra
  obtain ⟨_, _, _, ⟨oa, hoa, _⟩, _⟩ := ra
  refine wpAny_Assign_Name (h1 A s R r _ fun v s₁ e₁ rv hb => ?_) hsw
  obtain ⟨b, rfl, hb⟩ := hb
  have hab : a ≠ b := fun e => by rw [e, hb] at hoa; cases hoa
  have rv' : Rd c.lo (F.at ρ w).X s₁ (.lsa b l) (.ref b) := by
    simp only [Rd] at rv ⊢
    obtain ⟨b', vs, e, h⟩ := rv
    injection e with e
    subst e
    exact ⟨vs, trivial, h⟩
  refine store_wp (F := F.at ρ w) S.at sl.at (r.ext e₁) rv' fun s₂ e₂ r₂ => hq (.next _ w) _ s₂ (hn b hab) (Step.trans e₁.s e₂) ⟨rfl, r₂⟩
end
end Mine
namespace Mine
open PySem PySem.W PyProof.Rows

theorem forIn_wp {β : Type} {M : Model} {A : Around} {E : Value → Shared → Prop} {body : Nat → β → Sem (ForInStep β)} (I : List Nat → β → Shared → Prop)
    (step : ∀ n rest b s, I (n :: rest) b s → wpAny M A (body n b) (fun r s' => ∃ b', r = .yield b' ∧ I rest b' s') E s) :
    ∀ (l : List Nat) (b : β) (s : Shared) (Q : β → Shared → Prop), I l b s → (∀ b s', I [] b s' → Q b s') → wpAny M A (forIn l b body) Q E s
  | [], b, s, Q, hi, h => by rw [List.forIn_nil]; exact wpAny_pure (h b s hi)
  | n :: l, b, s, Q, hi, h => by
    rw [List.forIn_cons]
    refine wpAny_bind (wpAny_mono (step n l b s hi) (fun r s' hr => ?_) fun _ _ e => e)
    obtain ⟨b', rfl, hi'⟩ := hr
    exact forIn_wp I step l b' s' Q hi' h

theorem lookup_wp {prog : Program} {w : World} {A : Around} {E : Value → Shared → Prop} {s : Shared} {a : Addr} {vs : List Value} {n : Nat} {x : Str} {t : Tok} {Q : Builtin.Str.Mapped → Shared → Prop} (hl : s.heap.IsList a vs.toArray) (hx : vs[n]? = some (.str x t)) (hn : n < 2 ^ 60)
    (h : Q (.text x) { s with toks := s.toks + 1 }) : wpAny (model prog w) A (Builtin.Str.tableLookup (.ref a) n) Q E s := by
  unfold Builtin.Str.tableLookup
  refine wpAny_bind (wpAny_attempt (wpAny_bind (wpAny_mkInt ?_)))
  refine wpAny_getItem_list (x := .str x t) hl (by lia) (by lia) (by simpa using hx) ?_
  dsimp only
  refine wpAny_bind (wpAny_of_eq (a := (none : Option Int)) (by first | rfl | kernel_rfl) ?_)
  dsimp only
  refine wpAny_bind (wpAny_of_eq (a := (some x : Option Str)) (by first | rfl | kernel_rfl) ?_)
  exact wpAny_pure h

noncomputable def transS (m : Nat → Str) (x : Str) : Str := ⟨(x.cps.toList.map fun n => (m n).cps.toList).flatten.toArray⟩

theorem wp_if_f {M : Model} {A : Around} {β : Type} {Q : β → Shared → Prop} {E : Value → Shared → Prop} {s : Shared} {c : Bool} {x e : Sem β} (hc : c = false) (h : wpAny M A e Q E s) : wpAny M A (if c = true then x else e) Q E s := by subst hc; exact h
theorem wp_if_b {M : Model} {A : Around} {β : Type} {Q : β → Shared → Prop} {E : Value → Shared → Prop} {s : Shared} {c : Bool} {x e : Sem β} (ht : wpAny M A x Q E s) (hf : wpAny M A e Q E s) : wpAny M A (if c = true then x else e) Q E s := by
  cases c
  · exact hf
  · exact ht
theorem wp_neg {M : Model} {A : Around} {β : Type} {Q : β → Shared → Prop} {E : Value → Shared → Prop} {s : Shared} {p : Prop} [Decidable p] {x e : Sem β} (hc : ¬ p) (h : wpAny M A e Q E s) : wpAny M A (if p then x else e) Q E s := by rw [if_neg hc]; exact h
theorem wp_arr {M : Model} {A : Around} {α β : Type} {Q : β → Shared → Prop} {E : Value → Shared → Prop} {s : Shared} {l : Array α} {b : β} {f : α → β → Sem (ForInStep β)} (h : wpAny M A (forIn l.toList b f) Q E s) : wpAny M A (forIn l b f) Q E s := by rw [← Array.forIn_toList]; exact h
theorem trans_wp {prog : Program} {w : World} {A : Around} {s : Shared} {a : Addr} {vs : List Value} {x : Str} {t : Tok} {m : Nat → Str} {Q : Fin → Shared → Prop} (hl : s.heap.IsList a vs.toArray)
    (hm : ∀ n ∈ x.cps.toList, n < 128 ∧ ∃ u, vs[n]? = some (.str (m n) u)) (hne : x.length ≠ 0) (hsz : (transS m x).length ≤ sizeLine)
    (h : ∀ tk, Q (.done (.ret (.str (transS m x) tk))) { s with toks := tk + 1 }) : wpAny (model prog w) A (Builtin.«str.translate» ⟨[.str x t, .ref a], []⟩) Q (fun _ _ => False) s := by
  refine wpAny_bind (wpAny_of_eq (a := (.str x t, x, .ref a)) (by first | rfl | kernel_rfl) (wp_neg (by simpa using hne) ?_))
  have tot : ∀ pre rest : List Nat, pre ++ rest = x.cps.toList → ((pre.map fun n => (m n).cps.toList).flatten).length ≤ sizeLine := by
    intro pre rest e
    refine Nat.le_trans ?_ hsz
    show _ ≤ (transS m x).cps.size
    unfold transS
    rw [List.size_toArray, ← e, List.map_append, List.flatten_append, List.length_append]
    exact Nat.le_add_right _ _
  refine wpAny_bind (wp_arr (forIn_wp (fun rest (b : List Str × Nat × Bool × List (Nat × Option Nat) × Bool) s' => ∃ pre tk, pre ++ rest = x.cps.toList ∧ s' = { s with toks := tk } ∧ (b.1.reverse.map fun z => z.cps.toList).flatten = (pre.map fun n => (m n).cps.toList).flatten ∧
      b.2.1 = ((pre.map fun n => (m n).cps.toList).flatten).length ∧ (∀ n o, b.2.2.2.1.lookup n = some o → ∃ d, o = some d ∧ m n = ⟨#[d]⟩) ∧ b.2.2.2.2 = false) ?_ _ _ _ _ ⟨[], s.toks, rfl, rfl, rfl, rfl, fun n o e => by simp at e, rfl⟩ ?_))
  · rintro n rest ⟨pieces, total, fast, known, after⟩ s' ⟨pre, tk, e, rfl, hp, ht, hk, ha⟩
    have ha : after = false := ha
    subst ha
    have hp : (pieces.reverse.map fun z => z.cps.toList).flatten = (pre.map fun n => (m n).cps.toList).flatten := hp
    have ht : total = ((pre.map fun n => (m n).cps.toList).flatten).length := ht
    have hk : ∀ n o, known.lookup n = some o → ∃ d, o = some d ∧ m n = ⟨#[d]⟩ := hk
    have hn : n ∈ x.cps.toList := by rw [← e]; simp
    obtain ⟨hn1, u, hu⟩ := hm n hn
    have e' : (pre ++ [n]) ++ rest = x.cps.toList := by rw [← e]; simp
    have htl : Builtin.Str.tooLong total = false := by
      exact decide_eq_false (Nat.not_lt.mpr (ht ▸ tot pre (n :: rest) e))
    have hlook : ∀ (tk : Nat) (K : Builtin.Str.Mapped → Shared → Prop), K (.text (m n)) { s with toks := tk + 1 } → wpAny (model prog w) A (Builtin.Str.tableLookup (.ref a) n) K (fun _ _ => False) { s with toks := tk } := fun tk K hK => lookup_wp hl hu (by lia) hK
    have more : ∀ (t : Str), t = m n → ((t :: pieces).reverse.map fun z => z.cps.toList).flatten = ((pre ++ [n]).map fun n => (m n).cps.toList).flatten := by
      rintro t rfl
      rw [List.reverse_cons, List.map_append, List.flatten_append, hp]
      simp
    have fin : ∀ (tk : Nat) (fa : Bool) (kn : List (Nat × Option Nat)) (t : Str) (len : Nat), t = m n → len = total + t.length → (∀ n o, kn.lookup n = some o → ∃ d, o = some d ∧ m n = ⟨#[d]⟩) →
        ∃ b' : List Str × Nat × Bool × List (Nat × Option Nat) × Bool, ForInStep.yield (t :: pieces, len, fa, kn, false) = .yield b' ∧ ∃ pre tk', pre ++ rest = x.cps.toList ∧ { s with toks := tk } = { s with toks := tk' } ∧ (b'.1.reverse.map fun z => z.cps.toList).flatten = (pre.map fun n => (m n).cps.toList).flatten ∧
      b'.2.1 = ((pre.map fun n => (m n).cps.toList).flatten).length ∧ (∀ n o, b'.2.2.2.1.lookup n = some o → ∃ d, o = some d ∧ m n = ⟨#[d]⟩) ∧ b'.2.2.2.2 = false := by
      intro tk fa kn t len h1 h2 h3
      refine ⟨_, rfl, pre ++ [n], tk, e', rfl, more t h1, ?_, h3, rfl⟩
      subst h1; subst h2
      rw [List.map_append, List.flatten_append, List.length_append, ← ht]
      simp [Str.length]
    refine wp_if_f htl (wp_if_b ?_ (wpAny_bind (hlook tk _ (wpAny_pure (fin (tk + 1) _ known (m n) _ rfl rfl hk)))))
    cases hq : known.lookup n with
    | some a1 =>
      obtain ⟨d, rfl, hd⟩ := hk n a1 hq
      exact wpAny_bind (wpAny_pure (wpAny_pure (fin tk _ known ⟨#[d]⟩ (total + 1) hd.symm rfl hk)))
    | none =>
      refine wpAny_bind (hlook tk _ ?_)
      dsimp only
      cases hs : (if ((m n).length == 1 && (m n).cps.all fun x => decide (x < 128)) = true then some (m n).cps[0]? else none : Option (Option Nat)) with
      | some a1 =>
        obtain ⟨d, rfl, hd⟩ : ∃ d, a1 = some d ∧ m n = ⟨#[d]⟩ := by
          split at hs
          · rename_i hc
            have h1 : (m n).length = 1 := by simp only [Bool.and_eq_true, beq_iff_eq] at hc; exact hc.1
            generalize m n = z at h1 hs
            obtain ⟨z⟩ := z
            obtain ⟨d, hd⟩ := Array.size_eq_one_iff.mp (show z.size = 1 from h1)
            subst hd
            injection hs with hs
            exact ⟨d, hs.symm, rfl⟩
          · cases hs
        refine wpAny_bind (wpAny_pure (wpAny_pure (fin (tk + 1) _ ((n, some d) :: known) ⟨#[d]⟩ (total + 1) hd.symm rfl fun n' o ho => ?_)))
        rw [List.lookup_cons] at ho
        cases hb : n' == n with
        | true =>
          rw [hb] at ho
          have e1 : n' = n := by simpa using hb
          subst e1
          injection ho with ho
          exact ⟨d, ho.symm, hd⟩
        | false =>
          rw [hb] at ho
          exact hk n' o ho
      | none => exact wpAny_bind (wpAny_pure (wpAny_bind (wpAny_rule (wpAny_bind (hlook (tk + 1) _ (wpAny_pure (fin (tk + 1 + 1) _ known (m n) _ rfl rfl hk)))))))
  · rintro ⟨pieces, total, fast, known, after⟩ s' ⟨pre, tk, e, rfl, hp, ht, hk, ha⟩
    simp only at hp ht hk ha
    rw [List.append_nil] at e
    subst e
    have htl : Builtin.Str.tooLong total = false := by
      exact decide_eq_false (Nat.not_lt.mpr (ht ▸ tot x.cps.toList [] (by simp)))
    refine wp_if_f htl ?_
    have e2 : (⟨pieces.reverse.foldl (fun acc p => acc ++ p.cps) #[]⟩ : Str) = transS m x := by
      have : ∀ (l : List Str) (acc : Array Nat), (l.foldl (fun acc p => acc ++ p.cps) acc).toList = acc.toList ++ (l.map fun z => z.cps.toList).flatten := by
        intro l
        induction l with
        | nil => intro acc; simp
        | cons z l ih => intro acc; rw [List.foldl_cons, ih]; simp
      unfold transS
      congr 1
      apply Array.toList_inj.mp
      rw [this, hp]
      simp
    rw [e2]
    unfold retStr
    exact wpAny_bind (wpAny_mkStr (wpAny_pure (h tk)) hsz)
section
variable {c : Cx} {k : Nat}
theorem m_translate {x : Str} {l : List PV} {m : Nat → Str} (hm : ∀ n ∈ x.cps.toList, n < 128 ∧ l[n]? = some (.str (m n))) (hne : x.length ≠ 0) (hsz : (transS m x).length ≤ sizeLine) :
    OpN c k (fun vs => call (.builtin "str.translate") vs) [.str x, .lst l] (.str (transS m x)) := by
  intro A X s vs R B xo rvs
  refine Does.up fun Q h => ?_
  simp only [Rds, Rd] at rvs
  obtain ⟨_, _, rfl, ⟨t, rfl⟩, _, _, rfl, ⟨a, us, rfl, _, hl, rus⟩, rfl⟩ := rvs
  have hm' : ∀ n ∈ x.cps.toList, n < 128 ∧ ∃ u, us[n]? = some (.str (m n) u) := fun n hn => by
    obtain ⟨h1, h2⟩ := hm n hn
    obtain ⟨v, hv, rv⟩ := rus.get h2
    simp only [Rd] at rv
    obtain ⟨u, rfl⟩ := rv
    exact ⟨h1, u, hv⟩
  refine wpAny_call_entry PySem.F.slot_str_translate (typeIs_str _ _ _) PySem.F.entry_str_translate ?_ (PySem.F.args_str_translate_2 _ _)
  exact wpAny_mono (trans_wp hl hm' hne hsz (Q := fun fin s' => ∃ v, fin = .done (.ret v) ∧ Q v s') fun tk => ⟨_, rfl, h _ _ ExtW.toks rdS⟩) (fun _ _ x => x) fun _ _ x => x.elim
end
end Mine
namespace Mine
open PySem PySem.W PyProof.Rows

namespace LA
theorem slot_get : PySem.Slot "method_descriptor" "__get__" "method_descriptor.__get__" :=
  .of (owner := "method_descriptor") (n := "__get__") (by rw [typeLookup_type, builtinLookup_eq_fast]; kernel_rfl) (by decide +kernel) (by decide +kernel) (by decide +kernel)
    (by first | exact .inl (by decide +kernel) | exact .inr (by decide +kernel)) (by rw [isSubtype_type]; kernel_rfl)
theorem entry_get : entryFor table "method_descriptor.__get__" = some Builtin.«method_descriptor.__get__» := entryFor_of_tree (by kernel_rfl)
theorem args_get (a b c : Value) : argsOk "method_descriptor.__get__" ⟨[a, b, c], []⟩ := by unfold argsOk; kernel_rfl
theorem md_set : typeLookup (.type "method_descriptor") "__set__" = pure none := by rw [typeLookup_type, builtinLookup_eq_fast]; kernel_rfl
theorem md_del : typeLookup (.type "method_descriptor") "__delete__" = pure none := by rw [typeLookup_type, builtinLookup_eq_fast]; kernel_rfl
theorem told : (Manifest.toldItsClass.contains "list.append") = false := by decide +kernel
noncomputable def bound (l : Addr) : Obj := { cls := .type "builtin_function_or_method", data := .fields #[.builtin "list.append", .ref l] }
theorem sub_list : isSubtype (.type "list") (.type "list") = pure true := by rw [isSubtype_type]; kernel_rfl

theorem owner : (".".intercalate ("list.append".cutAt '.').dropLast) = "list" := by decide +kernel
theorem sub_owner : isSubtype (.type "list") (.type (".".intercalate ("list.append".cutAt '.').dropLast)) = pure true := by rw [owner, isSubtype_type]; kernel_rfl

section
variable {prog : Program} {w : World} {A : Around} {E : Value → Shared → Prop} {h : Heap} {g : Array GenState} {d : Drawn} {t : Nat} {os : OsState} {a : Addr} {o : Obj}

theorem run_get {M : Model} {P : Fin → Shared → Prop} (hx : h.get? a = some o) (hc : o.cls = .type "list") (hq : P (.done (.ret (.ref h.objs.size))) ⟨h.push (bound a), g, d, t, os⟩) :
    wpAny M A (Builtin.«method_descriptor.__get__» ⟨[.builtin "list.append", .ref a, .type "list"], []⟩) P E ⟨h, g, d, t, os⟩ := by
  have hT : (⟨h, g, d, t, os⟩ : Shared).TypeIs (.ref a) "list" := ⟨_, hx, hc⟩
  have f1 := sub_list
  unfold Builtin.«method_descriptor.__get__»
  refine wpAny_bind (wpAny_of_eq (a := (.builtin "list.append", some (.ref a), some (.type "list"))) (by first | rfl | kernel_rfl) ?_)
  dsimp only
  rw [told]
  simp only [Bool.false_eq_true, if_false]
  repeat (any_goals (first | assumption | wp_step))
  refine wpAny_of_eq (a := true) sub_owner ?_
  refine KFB.if_not rfl (wpAny_pure ?_)
  exact wpAny_bind (wpAny_newObj_type (wpAny_pure hq))

theorem ga_entry {tk : Tok} {Q : Fin → Shared → Prop} {xs : Array Value} {n : Nat} {sl : Array (Option Value)} (hx : h.get? a = some { cls := .type "list", dict := none, data := .seq xs n, slots := sl }) (hq : Q (.done (.ret (.ref h.objs.size))) ⟨h.push (bound a), g, d, t, os⟩) :
    wpAny (model prog w) A (Builtin.«object.__getattribute__» ⟨[.ref a, .str "append" tk], []⟩) Q E ⟨h, g, d, t, os⟩ := by
  have hT : (⟨h, g, d, t, os⟩ : Shared).TypeIs (.ref a) "list" := ⟨_, hx, rfl⟩
  have hT5 : (⟨h, g, d, t, os⟩ : Shared).TypeIs (.builtin "list.append") "method_descriptor" := PySem.F.type_list_append
  have f4 := PySem.slot_list_append.lookup
  have f5 := PySem.F.type_list_append
  have f6 := slot_get.lookup
  have f7 := md_set
  have f8 := md_del
  repeat (any_goals (first | assumption | wp_step))
  refine codeAny_call_builtin slot_get.plain entry_get (slot_get.check _ _ _ _ _ _ _ _ hT5 (args_get _ _ _) (run_get hx rfl ?_))
  exact wpAny_pure hq

theorem ga_call {tk : Tok} {R : Result → Shared → Prop} {xs : Array Value} {n : Nat} {sl : Array (Option Value)} (hx : h.get? a = some { cls := .type "list", dict := none, data := .seq xs n, slots := sl }) (hq : R (.ok (.ret (.ref h.objs.size))) ⟨h.push (bound a), g, d, t, os⟩) :
    codeAny (model prog w) A (.call (.builtin "list.__getattribute__") ⟨[.ref a, .str "append" tk], []⟩) R ⟨h, g, d, t, os⟩ :=
  codeAny_call_builtin PySem.F.slot_list_getattribute.plain PySem.F.entry_list_ga (PySem.F.slot_list_getattribute.check _ _ _ _ _ _ _ _ (show (⟨h, g, d, t, os⟩ : Shared).TypeIs (.ref a) "list" from ⟨_, hx, rfl⟩) (PySem.F.args_list_getattribute_2 _ _) (ga_entry hx hq))

theorem getAttr_append {Q : Value → Shared → Prop} {xs : Array Value} {n : Nat} {sl : Array (Option Value)} (hx : h.get? a = some { cls := .type "list", dict := none, data := .seq xs n, slots := sl }) (hq : ∀ tk, Q (.ref h.objs.size) ⟨h.push (bound a), g, d, tk, os⟩) :
    wpAny (model prog w) A (getAttr (.ref a) "append" true) Q E ⟨h, g, d, t, os⟩ := by
  have hT : ∀ tk', (⟨h, g, d, tk', os⟩ : Shared).TypeIs (.ref a) "list" := fun _ => ⟨_, hx, rfl⟩
  have f2 := PySem.F.slot_list_getattribute.lookup
  have f3 := PySem.F.slot_list_getattribute.bind (.ref a)
  unfold getAttr getAttrBy
  repeat (any_goals (first | assumption | exact hT _ | wp_step))
  refine ga_call hx ?_
  repeat (any_goals (first | assumption | exact hq _ | wp_step))
end
end LA

section
variable {c : Cx} {k : Nat} {F : Frm}

/-- y = x.append, x the list being built -/
theorem r_bind (i j : Nat) {ρ : List (Option PV)} {x y : Str} {px py apos pos : Pos} {rest : List Stmt} {D : Addr} {l : List PV} {P : Out → Prop} (hx : F.names[i]? = some x) (hi : ρ[i]? = some (some (.val (.ref D)))) (hd : (x == ("__debug__" : Str)) = false)
    (sl : Slot F j y) (hbase : attributeBase (.Name x px) "append" F.env (eval (.Name x px) F.env) = eval (.Name x px) F.env)
    (hsw : swapsWith (.Attribute (.Name x px) "append" apos) (some (.Name y py)) pos.line F.env = pure false)
    (hn : Runs c k F (ρ.set j (some (.app D))) (some (D, l)) rest P) : Runs c k F ρ (some (D, l)) (.Assign [.Name y py] (.Attribute (.Name x px) "append" apos) pos :: rest) P := by
  refine r_cons fun S A s R r Q hq => ?_
  refine wpAny_Assign_Name ?_ hsw
  show wpAny _ _ (eval (.Attribute (.Name x px) "append" apos) F.env) _ _ _
  rw [arm_eval_Attribute, hbase]
  refine wpAny_bind (e_var (F := F.at ρ (some (D, l))) (k := k) i hx hi hd A s R r _ fun v s₁ e₁ rv => ?_)
  simp only [Rd] at rv
  subst rv
  refine wpAny_bind (wpAny_standAt ?_)
  have r₁ := r.ext e₁
  obtain ⟨vs, ⟨o, ho, hcl, hdn, n, hdt⟩, rvs, hE⟩ := r₁.own D l rfl
  obtain ⟨cls, dd, data, sl'⟩ := o
  simp only at hcl hdn hdt
  subst hcl hdn hdt
  obtain ⟨h₁, g₁, d₁, t₁, os₁⟩ := s₁
  refine wpAny_bind (wpAny_holding (up_any (LA.getAttr_append ho fun tk le => ?_)))
  refine wpAny_bind (wpAny_letTemporaryGo (wpAny_pure ?_))
  have ex : Ext ⟨h₁, g₁, d₁, t₁, os₁⟩ ⟨h₁.push (LA.bound D), g₁, d₁, tk, os₁⟩ := ⟨fun _ _ e => Heap.get?_push_of_some _ e, rfl, fun _ _ e => e, id, le⟩
  refine store_wp (F := F.at ρ (some (D, l))) S.at sl.at (r₁.ext ex) (p := .app D) ?_ fun s₃ e₃ r₃ => ?_
  · simp only [Rd]
    exact ⟨_, rfl, r₁.xok.fresh, Heap.get?_push_size _ rfl⟩
  · exact hq (.next _ (some (D, l))) _ s₃ hn (Step.trans (e₁.trans ex).s e₃) ⟨rfl, r₃⟩
end
end Mine
namespace Mine
open PySem PySem.W PyProof.Rows

namespace LA
theorem quiet {as : Args} : (Code.builtin "list.append" as).quiet = true := Code.quiet_builtin _ (by decide +kernel)
theorem sub_mod : isSubtype (.type "list") (.type "module") = pure false := by rw [isSubtype_type]; kernel_rfl
theorem sub_type : isSubtype (.type "list") (.type "type") = pure false := by rw [isSubtype_type]; kernel_rfl
theorem kind : builtinKind "list.append" = some .method := by decide +kernel
theorem va : Manifest.varargsMethods.contains "list.append" = false := by decide +kernel
noncomputable def sigA : Manifest.Signature := (List.lookup (String.ofList ['d', 'n', 'e', 'p', 'p', 'a'].reverse) Manifest.sig_list).get (by decide +kernel)
theorem sig_is : Manifest.signature? "list.append" = some sigA := by
  rw [signature?_of (id := "list.append") (n := ['d', 'n', 'e', 'p', 'p', 'a']) (o := ['t', 's', 'i', 'l']) (by kernel_rfl) PySem.F.owner_list]
  unfold sigA
  rw [Option.some_get]
theorem check_is (l : Addr) (y : Value) : Bind.checkArgs "list.append" { sigA with full := s!"{Bind.lastOf "list"}.{Bind.lastOf "list.append"}" } ⟨[.ref l, y], []⟩ = pure () := by kernel_rfl
theorem check {M : Model} {A : Around} {E : Value → Shared → Prop} {s : Shared} {l : Addr} {y : Value} {its : Array Value} {n : Nat} {sl : Array (Option Value)} {Q : Unit → Shared → Prop} (ho : s.heap.get? l = some { cls := .type "list", dict := none, data := .seq its n, slots := sl }) (hq : Q () s) :
    wpAny M A (checkBoundCall "list.append" ⟨[.ref l, y], []⟩) Q E s := by
  have hT : s.TypeIs (.ref l) "list" := ⟨_, ho, rfl⟩
  have f1 := sub_mod
  have f2 := sub_type
  have f3 := va
  unfold checkBoundCall
  rw [sig_is, kind]
  dsimp only
  refine KFB.if_not (by decide) ?_
  refine wpAny_bind (wpAny_isInstance hT f1 ?_)
  rw [f3]
  refine KFB.if_not rfl ?_
  obtain ⟨hp, g, d, tk, os⟩ := s
  refine wpAny_bind ?_
  have f4 := check_is l y
  repeat (any_goals (first | assumption | wp_step))
section
variable {prog : Program} {w : World} {A : Around} {E : Value → Shared → Prop} {s : Shared}
theorem call_bound {q l : Addr} {its : Array Value} {y : Value} {Q : Value → Shared → Prop} (hb : s.heap.get? q = some (bound l)) (hl : PlainL s.heap l its)
    (hsz : its.size ≤ sizeLine) (hQ : ∀ h', PlainL h' l (its.push y) → Heap.SameBut l s.heap h' → Q .none { s with heap := h' }) : wpAny (model prog w) A (call (.ref q) [y]) Q E s := by
  obtain ⟨o, n, ho, hc, hdn, hd⟩ := id hl
  obtain ⟨n', hd'⟩ := Obj.data_mapSeq hd (·.push y)
  refine wpAny_call (codeAny_of_tree ?_)
  show wpAny _ A.in1 (callAny (.ref q) ⟨[y], []⟩) _ _ s
  simp only [callAny]
  refine wpAny_bind (wpAny_load hb ?_)
  simp only [bound]
  refine KFB.if_so (by decide) ?_
  obtain ⟨cls, dd, dt, sl⟩ := o
  simp only at hc hdn hd
  subst hc hdn hd
  refine wpAny_bind (check ho ?_)
  refine wpAny_bind (wpAny_pure (wpAny_pure ?_))
  refine ⟨quiet, codeAny_builtin PySem.entry_list_append ?_⟩
  show wpAny _ _ (updateSeq l (·.push y) >>= fun _ => ret .none) _ _ s
  refine wpAny_bind ?_
  refine wpAny_updateSeq ho rfl (wpAny_pure (hQ _ ?_ (Heap.SameBut.update ..))) hsz (by rw [Array.size_push]; lia)
  exact ⟨_, n', Heap.get?_update_self _ ho (Obj.isFreed_of_seq hd'), Obj.cls_mapSeq .., rfl, hd'⟩
end
end LA

theorem callWith_bound {M : Model} {A : Around} {E : Value → Shared → Prop} {s : Shared} {pos : Pos} {u : Addr} {first : List Value} {args : List (Bool × Sem Value)} {Q : Value → Shared → Prop} (hplain : args.any (·.1) = false)
    (h : wpAny M A (evalArgs (.ref u) true args []) (fun x s₁ => (∃ D, s₁.heap.get? u = some (LA.bound D)) ∧ wpAny M A (call (.ref u) (first ++ x.pos) x.kw) Q E s₁) E s) : wpAny M A (callWith pos (.ref u) first args []) Q E s := by
  unfold callWith
  refine wpAny_bind (wpAny_holding (wpAny_mono h (fun x s₁ h₁ => wpAny_bind (wpAny_standAt ?_)) fun _ _ x => x))
  obtain ⟨⟨D, ho⟩, hcall⟩ := h₁
  simp only [hplain, List.any_nil, Bool.or_false]
  refine wpAny_bind (m := keeperOf (.ref u)) ?_
  unfold keeperOf
  refine wpAny_bind (wpAny_load ho ?_)
  simp only [LA.bound, show (Value.type "builtin_function_or_method" != Value.type "method") = true by decide, show (Value.type "builtin_function_or_method" == Value.type "builtin_function_or_method" || Value.type "builtin_function_or_method" == Value.type "method-wrapper") = true by decide, if_true]
  refine wpAny_pure ?_
  exact wpAny_bind (wpAny_mono hcall (fun r s₂ hr => wpAny_bind (wpAny_holding (wpAny_point (wpAny_pure hr)))) fun _ _ x => x)

section
variable {c : Cx} {k : Nat} {F : Frm}
/-- append(e), append a name for x.append -/
theorem r_append2 (j : Nat) {ρ : List (Option PV)} {y : Str} {py pos spos : Pos} {e : Expr} {rest : List Stmt} {D : Addr} {l : List PV} {p : PV} {P : Out → Prop} (hy : F.names[j]? = some y) (hj : ρ[j]? = some (some (.app D))) (hd : (y == ("__debug__" : Str)) = false)
    (h1 : Evals c k (F.at ρ (some (D, l))) e p) (hsz : l.length ≤ sizeLine)
    (hattr : eval (.Call (.Name y py) [e] [] pos) F.env = (do callWith pos (← eval (.Name y py) F.env) [] (backTo pos (starEach [e] F.env)) []))
    (htrees : starEach [e] F.env = [(false, eval e F.env)])
    (hsw : swapsWith (.Call (.Name y py) [e] [] pos) none spos.line F.env = pure false)
    (hn : Runs c k F ρ (some (D, l ++ [p])) rest P) : Runs c k F ρ (some (D, l)) (.Expr (.Call (.Name y py) [e] [] pos) spos :: rest) P := by
  refine r_cons fun S A s R r Q hq => ?_
  have hint : interactive F.env = false := by
    unfold interactive
    rw [show F.env.scope.kind = .function from r.env.kind]
    rfl
  refine wpAny_Expr_any ?_ hint hsw
  rw [hattr]
  refine wpAny_bind (e_var (F := F.at ρ (some (D, l))) (k := k) j hy hj hd A s R r _ fun v s₁ e₁ rv => ?_)
  simp only [Rd] at rv
  obtain ⟨q, rfl, hq1, hq2⟩ := rv
  have r₁ := r.ext e₁
  refine callWith_bound (by rw [any_backTo, htrees]; rfl) ?_
  refine evalArgs_of (F := F) (fun _ => ⟨e, [], rfl, htrees⟩) ?_
  refine spliced_more (h1 A s₁ R r₁ _ fun u s₂ e₂ ru => ?_) htrees
  refine spliced_none ?_
  have r₂ := r₁.ext e₂
  obtain ⟨vs, hl, rvs, hE⟩ := r₂.own D l rfl
  refine ⟨⟨D, e₂.keep _ _ hq2⟩, ?_⟩
  refine LA.call_bound (e₂.keep _ _ hq2) hl.plain (by rw [List.size_toArray, rvs.length]; exact hsz) fun h' hl' hs => ?_
  obtain ⟨r₃, e₃⟩ := Rel.app r₂ ru hs hl rvs (PlL.of hl')
  exact hq (.next ρ (some (D, l ++ [p]))) _ _ hn (Step.trans (e₁.trans e₂).s e₃) ⟨rfl, r₃⟩
end
end Mine
namespace Mine
open PySem PySem.W PyProof.Rows

section
variable {c : Cx} {k : Nat} {F : Frm}
/-- o.replace('..', '..') -/
theorem e_replace {o : Expr} {apos pos p1 p2 : Pos} {k1 k2 : Nat} {x y z : Str} (h0 : Evals c k F o (.str x)) (hyz : (y == z) = false) (hsz : x.length + (x.length + 1) * z.length ≤ 16777216)
    (hbase : attributeBase o "replace" F.env (eval o F.env) = eval o F.env)
    (hfew : ((backTo pos (starEach [.Constant (.str y) k1 p1, .Constant (.str z) k2 p2] F.env)).all (fun x => !x.1) && (backToKw pos (keywordEach [] F.env)).all (fun x => x.1.isSome)
      && decide (([.Constant (.str y) k1 p1, .Constant (.str z) k2 p2] : List Expr).length + ([] : List Keyword).length + (if ([] : List Keyword).isEmpty then 0 else 1) < 30)) = true)
    (hline : (apos.endLine == pos.line) = true) :
    Evals c k F (.Call (.Attribute o "replace" apos) [.Constant (.str y) k1 p1, .Constant (.str z) k2 p2] [] pos) (.str (Txt.replace x y z)) := by
  intro A s R r Q h
  refine wpAny_Call_method_late hbase hfew hline rfl (h0 A s R r _ fun v s₁ e₁ rv => ?_)
  simp only [Rd] at rv
  obtain ⟨t, rfl⟩ := rv
  refine ⟨"str", "str.replace", PySem.F.plainAttrs_str, PySem.F.slot_str_replace, PySem.F.type_str_replace, typeIs_str _ _ _, (fun _ e => nomatch e), ?_⟩
  refine callWith_any (.inl ⟨_, rfl⟩) (r.base.ext e₁).k (fun _ => ⟨_, _, rfl, rfl⟩) rfl ?_
  have r₁ := r.ext e₁
  refine spliced_more (env := F.env) (rest := [.Constant (.str z) k2 p2]) (Calls.Constant_str ?_) rfl
  refine spliced_more (env := F.env) (rest := []) (Calls.Constant_str ?_) rfl
  refine spliced_none ⟨fun _ _ e => e, ?_⟩
  have ht : s₁.toks ≠ 0 := Nat.ne_of_gt r₁.good.2
  refine up_any ?_
  show wpAny (model c.prog c.w) A (call (.builtin "str.replace") [.str x t, .str y s₁.toks, .str z (s₁.toks + 1)]) _ _ { s₁ with toks := s₁.toks + 1 + 1 }
  with_reducible refine SC.replace ht (Nat.succ_ne_zero _) (Nat.ne_of_lt (Nat.lt_succ_self _)) hyz hsz fun t' tk => ?_
  intro le
  refine h _ _ (e₁.trans ⟨fun _ _ e => e, rfl, fun _ _ e => e, id, ?_⟩) rdS
  exact Nat.le_trans (Nat.le_trans (Nat.le_succ _) (Nat.le_succ _)) le
end
end Mine
namespace Mine
open PySem PySem.W PyProof.Rows

section
variable {c : Cx} {k : Nat} {F : Frm} {ρ : List (Option PV)} {w : Ow}

theorem e_neg {x : Expr} {pos : Pos} {i : Int} (h1 : Evals c k F x (.int i)) : Evals c k F (.UnaryOp .USub x pos) (.int (-i)) := by
  intro A s R r Q h
  refine UnaryOp_ (h1 A s R r _ fun v s₁ e₁ rv => ?_)
  simp only [Rd] at rv
  obtain ⟨t, rfl⟩ := rv
  have fin : Q (.int (-i) s₁.toks) { s₁ with toks := s₁.toks + 1 } := h _ _ (e₁.trans Ext.toks1) rdI
  with_reducible exact PySem.P.neg_int fin

/-- both branches lead to one state -/
theorem r_if_join (ρ' : List (Option PV)) (w' : Ow) {test : Expr} {body orelse rest : List Stmt} {pos : Pos} {b : Bool} {P : Out → Prop} (ht : Tests c k (F.at ρ w) test b)
    (h1 : b = true → Runs c k F ρ w body (fun o => o = .next ρ' w')) (h2 : b = false → Runs c k F ρ w orelse (fun o => o = .next ρ' w')) (hn : Runs c k F ρ' w' rest P) : Runs c k F ρ w (.If test body orelse pos :: rest) P := by
  have key : ∀ o, o = .next ρ' w' → thenP c k F rest P o := by rintro o rfl; exact hn
  exact r_if ht (fun h => (h1 h).mono key) (fun h => (h2 h).mono key)

/-- the test of a branch is known -/
theorem r_if_t {test : Expr} {body orelse rest : List Stmt} {pos : Pos} {P : Out → Prop} (ht : Tests c k (F.at ρ w) test true) (h1 : Runs c k F ρ w body (thenP c k F rest P)) : Runs c k F ρ w (.If test body orelse pos :: rest) P :=
  r_if ht (fun _ => h1) (fun h => by cases h)
theorem r_if_f {test : Expr} {body orelse rest : List Stmt} {pos : Pos} {P : Out → Prop} (ht : Tests c k (F.at ρ w) test false) (h1 : Runs c k F ρ w orelse (thenP c k F rest P)) : Runs c k F ρ w (.If test body orelse pos :: rest) P :=
  r_if ht (fun h => by cases h) (fun _ => h1)
theorem Tests.eq {e : Expr} {a b : Bool} (h : Tests c k F e a) (hab : a = b) : Tests c k F e b := hab ▸ h
theorem Evals.eq {e : Expr} {a b : PV} (h : Evals c k F e a) (hab : a = b) : Evals c k F e b := hab ▸ h

/-- a built-in function, called -/
theorem e_cb {x : Str} {px pos : Pos} {id : String} {args : List Expr} {ps : List PV} {z : PV} (hk : F.env.kindOf x = some .globalImplicit) (hg : c.mg x = none) (hb : bootBuiltins x = some (.builtin id)) (hx : x ≠ "__name__") (hd : (x == ("__debug__" : Str)) = false)
    (h1 : EvalsL c k F args ps) (h2 : OpN c k (fun vs => call (.builtin id) vs) ps z)
    (hattr : eval (.Call (.Name x px) args [] pos) F.env = (do callWith pos (← eval (.Name x px) F.env) [] (backTo pos (starEach args F.env)) []))
    (hne : args ≠ [] → ∃ e r, args = e :: r ∧ starEach (e :: r) F.env = (false, eval e F.env) :: starEach r F.env) (hpl : (starEach args F.env).any (·.1) = false) : Evals c k F (.Call (.Name x px) args [] pos) z :=
  e_call (e_bui hk hg hb hx hd) (.inl ⟨id, rfl⟩) h1 h2 hattr hne hpl
/-- a built-in type, called -/
theorem e_ct {x : Str} {px pos : Pos} {T : String} {args : List Expr} {ps : List PV} {z : PV} (hk : F.env.kindOf x = some .globalImplicit) (hg : c.mg x = none) (hb : bootBuiltins x = some (.type T)) (hx : x ≠ "__name__") (hd : (x == ("__debug__" : Str)) = false)
    (h1 : EvalsL c k F args ps) (h2 : OpN c k (fun vs => call (.type T) vs) ps z)
    (hattr : eval (.Call (.Name x px) args [] pos) F.env = (do callWith pos (← eval (.Name x px) F.env) [] (backTo pos (starEach args F.env)) []))
    (hne : args ≠ [] → ∃ e r, args = e :: r ∧ starEach (e :: r) F.env = (false, eval e F.env) :: starEach r F.env) (hpl : (starEach args F.env).any (·.1) = false) : Evals c k F (.Call (.Name x px) args [] pos) z :=
  e_call (e_bui hk hg hb hx hd) (.inr (.inl ⟨T, rfl⟩)) h1 h2 hattr hne hpl
/-- if t: x = e1 / else: x = e2, floats -/
theorem r_if_setF (i : Nat) {x : Str} {test e1 e2 : Expr} {p1 p2 q1 q2 pos : Pos} {rest : List Stmt} {b : Bool} {u v : UInt64} {ρ' : List (Option PV)} {P : Out → Prop} (ht : Tests c k (F.at ρ w) test b)
    (h1 : b = true → Evals c k (F.at ρ w) e1 (.flt u)) (h2 : b = false → Evals c k (F.at ρ w) e2 (.flt v)) (sl : Slot F i x) (hs : SetAt ρ i (some (.flt (if b = true then u else v))) ρ')
    (hs1 : swapsWith e1 (some (.Name x p1)) q1.line F.env = pure false) (hs2 : swapsWith e2 (some (.Name x p2)) q2.line F.env = pure false)
    (hn : Runs c k F ρ' w rest P) : Runs c k F ρ w (.If test [.Assign [.Name x p1] e1 q1] [.Assign [.Name x p2] e2 q2] pos :: rest) P := by
  refine r_if ht (fun h => ?_) (fun h => ?_)
  · subst h
    exact r_assign i (h1 rfl) sl hs hs1 (r_nil hn)
  · subst h
    exact r_assign i (h2 rfl) sl hs hs2 (r_nil hn)
theorem r_if_setF3 (i : Nat) {x : Str} {test test2 e1 e2 e3 : Expr} {p1 p2 p3 q1 q2 q3 pos pos2 : Pos} {rest : List Stmt} {b d : Bool} {u v z : UInt64} {ρ' : List (Option PV)} {P : Out → Prop} (ht : Tests c k (F.at ρ w) test b)
    (ht2 : Tests c k (F.at ρ w) test2 d) (h1 : b = true → Evals c k (F.at ρ w) e1 (.flt u)) (h2 : d = true → Evals c k (F.at ρ w) e2 (.flt v)) (h3 : d = false → Evals c k (F.at ρ w) e3 (.flt z)) (sl : Slot F i x)
    (hs : SetAt ρ i (some (.flt (if b = true then u else if d = true then v else z))) ρ')
    (hs1 : swapsWith e1 (some (.Name x p1)) q1.line F.env = pure false) (hs2 : swapsWith e2 (some (.Name x p2)) q2.line F.env = pure false) (hs3 : swapsWith e3 (some (.Name x p3)) q3.line F.env = pure false)
    (hn : Runs c k F ρ' w rest P) : Runs c k F ρ w (.If test [.Assign [.Name x p1] e1 q1] [.If test2 [.Assign [.Name x p2] e2 q2] [.Assign [.Name x p3] e3 q3] pos2] pos :: rest) P := by
  refine r_if ht (fun h => ?_) (fun h => ?_)
  · subst h
    exact r_assign i (h1 rfl) sl hs hs1 (r_nil hn)
  · subst h
    refine r_if_setF i ht2 h2 h3 sl hs hs2 hs3 (r_nil hn)

/-- what is known of a function's name -/
structure FnName (c : Cx) (x : Str) (f : Addr) : Prop where
  glob : c.mg x = some (.ref f)
  obj : ∃ o fd, c.K.lookup f = some o ∧ o.data = .func fd
/-- a function of the text's, called -/
theorem e_cf {x : Str} {px pos : Pos} {f : Addr} {args : List Expr} {ps : List PV} {z : PV} (hf : FnName c x f) (hk : F.env.kindOf x = some .globalImplicit) (hd : (x == ("__debug__" : Str)) = false)
    (h1 : EvalsL c k F args ps) (h2 : Fn c k f ps z)
    (hattr : eval (.Call (.Name x px) args [] pos) F.env = (do callWith pos (← eval (.Name x px) F.env) [] (backTo pos (starEach args F.env)) []))
    (hne : args ≠ [] → ∃ e r, args = e :: r ∧ starEach (e :: r) F.env = (false, eval e F.env) :: starEach r F.env) (hpl : (starEach args F.env).any (·.1) = false) : Evals c k F (.Call (.Name x px) args [] pos) z :=
  let ⟨o, fd, h1', h2'⟩ := hf.obj
  e_call (e_glob hk hf.glob hd) (.inr (.inr ⟨f, o, fd, rfl, h1', h2'⟩)) h1 h2 hattr hne hpl
end
end Mine
namespace Mine
open PySem PySem.W PyProof.Rows

section
variable {M : Model} {A : Around} {R : GenEnd} {Y : Protocol} {n : Nat} {s₀ : Shared} {c : Code} {fs : List Frame} {s : Shared} {env : Env}
  {K : Flow → Sem Fin} {H : Value → Sem Fin} {gd : Bool → Bool} {lv : List Value → List Value}

theorem seg_If {test : Expr} {body orelse : List Stmt} {pos : Pos}
    (h : wpAny M (A.over c fs) (isTrue test env (eval test env)) (fun b s' => Seg M A R Y n s₀ c ((execs (if b = true then body else orelse) env).wrap K H gd lv) fs s') (fun x s' => Seg M A R Y n s₀ c (H x) fs s') s) :
    Seg M A R Y n s₀ c ((exec (.If test body orelse pos) env).wrap K H gd lv) fs s := by
  rw [exec_If]
  show Seg M A R Y n s₀ c (.at pos fun _ => (isTrue test env (eval test env) >>= fun b => if b = true then execs body env else execs orelse env).wrap K H gd lv) fs s
  refine seg_at ?_
  rw [Sem.bind_eq_wrap', Sem.wrap_wrap]
  refine seg_wrap (wpAny_mono h (fun b s' hb => ?_) fun _ _ x => x)
  cases b <;> exact hb

/-- a statement that does not yield -/
theorem seg_plain {st : Stmt} (h : wpAny M (A.over c fs) (exec st env) (fun f s' => Seg M A R Y n s₀ c (K f) fs s') (fun x s' => Seg M A R Y n s₀ c (H x) fs s') s) :
    Seg M A R Y n s₀ c ((exec st env).wrap K H gd lv) fs s := seg_wrap h

theorem seg_For {target iter : Expr} {body orelse : List Stmt} {pos : Pos} (hs : ∀ x, foldedSetIterable iter env x = pure x)
    (h : wpAny M (A.over c fs) (eval iter env) (fun x s₁ => wpAny M (A.over c fs) (pyIter x) (fun it s₂ => ∀ p, Seg M A R Y n s₀ (.forLoop target it body orelse env) (M.den (.forLoop target it body orelse env))
      (.ret (fun r => ((match r with | .ok f => (.pure f : Sem Flow) | .error e => .raise e).onRaise fun (x : Value) => do
        if (← field x 1) == Value.none then unsupported "frame.own-activation:exception-without-traceback"
        setFlight x env.frame).wrap K H gd lv) none (gd false) (lv []) c p [] :: fs) s₂) (fun x s' => Seg M A R Y n s₀ c (H x) fs s') s₁) (fun x s' => Seg M A R Y n s₀ c (H x) fs s') s) :
    Seg M A R Y n s₀ c ((exec (.For target iter body orelse pos) env).wrap K H gd lv) fs s := by
  rw [exec_For]
  simp only [hs]
  show Seg M A R Y n s₀ c (.at pos fun _ => (eval iter env >>= fun x => (standAt iter.pos >>= fun _ => holding [x] (pyIter x) >>= fun it => runOwn (.forLoop target it body orelse env) env)).wrap K H gd lv) fs s
  refine seg_at ?_
  rw [Sem.bind_eq_wrap', Sem.wrap_wrap]
  refine seg_wrap (wpAny_mono h (fun x s₁ h₁ => ?_) fun _ _ x => x)
  show Seg M A R Y n s₀ c (.at iter.pos fun _ => (holding [x] (pyIter x) >>= fun it => runOwn (.forLoop target it body orelse env) env).wrap K H gd lv) fs s₁
  refine seg_at ?_
  rw [Sem.bind_eq_wrap', Sem.wrap_wrap]
  refine seg_wrap (wpAny_holding (wpAny_mono h₁ (fun it s₂ h₂ => ?_) fun _ _ x => x))
  exact seg_call h₂
end

section
variable {prog : Program} {w : World} {A : Around} {R : GenEnd} {Y : Protocol} {n : Nat} {s₀ : Shared} {fs : List Frame} {s : Shared} {env : Env}

/-- one turn of a for loop in a generator; the items' step does not raise -/
theorem seg_forLoop {target : Expr} {it : Value} {body orelse : List Stmt}
    (h : wpAny (model prog w) (A.over (.forLoop target it body orelse env) fs) ((pyNext it).onRaise (fun _ => standAt { target.pos with line := 0 })) (fun v s' => match v with
        | none => Seg (model prog w) A R Y n s₀ (.forLoop target it body orelse env) ((again (.block orelse env) : Sem Fin).wrap .pure (fun e => (do noteFrame e env; theTreesLotGoes e : Sem Unit).wrap (fun _ => .raise e) .raise id id) id id) fs s'
        | some v => wpAny (model prog w) (A.over (.forLoop target it body orelse env) fs) (letOwnedTupleGo target it v) (fun _ s₁ => wpAny (model prog w) (A.over (.forLoop target it body orelse env) fs) (assign target env v) (fun _ s'' =>
            Seg (model prog w) A R Y n s₀ (.forLoop target it body orelse env) ((execs body env).wrap (fun f => match f with
              | .next | .cont => .pure (.again (.forLoop target it body orelse env))
              | .brk => .pure (.done .next)
              | .ret v => .pure (.done (.ret v))) (fun e => (do noteFrame e env; theTreesLotGoes e : Sem Unit).wrap (fun _ => .raise e) .raise id id) id id) fs s'') (fun _ _ => False) s₁) (fun _ _ => False) s')
      (fun _ _ => False) s) :
    Seg (model prog w) A R Y n s₀ (.forLoop target it body orelse env) ((model prog w).den (.forLoop target it body orelse env)) fs s := by
  show Seg _ A R Y n s₀ _ ((forTurn target it body orelse env).onRaise (fun x => do noteFrame x env; theTreesLotGoes x)) fs s
  unfold forTurn
  rw [Sem.onRaise_eq_wrap, Sem.bind_eq_wrap', Sem.wrap_wrap]
  refine seg_wrap (wpAny_standAt ?_)
  rw [Sem.bind_eq_wrap', Sem.wrap_wrap]
  refine seg_wrap (wpAny_mono h (fun v s' hv => ?_) fun _ _ x => x.elim)
  cases v with
  | none =>
    have e : ∀ e : Value, (do noteFrame e env; theTreesLotGoes e : Sem Unit).bind (fun _ => (.raise e : Sem Fin)) = (do noteFrame e env; theTreesLotGoes e : Sem Unit).wrap (fun _ => .raise e) .raise id id := fun e => Sem.bind_eq_wrap _ _
    show Seg _ A R Y n s₀ _ (Sem.wrap _ _ _ _ (again (.block orelse env))) fs s'
    rw [Sem.wrap_congr (again (.block orelse env) : Sem Fin) _ _ (K' := .pure) (H' := (fun e => (do noteFrame e env; theTreesLotGoes e : Sem Unit).wrap (fun _ => .raise e) .raise id id)) (fun f => rfl) e]
    exact hv
  | some v =>
    have e : ∀ e : Value, (do noteFrame e env; theTreesLotGoes e : Sem Unit).bind (fun _ => (.raise e : Sem Fin)) = (do noteFrame e env; theTreesLotGoes e : Sem Unit).wrap (fun _ => .raise e) .raise id id := fun e => Sem.bind_eq_wrap _ _
    have go : wpAny (model prog w) (A.over (.forLoop target it body orelse env) fs) (letOwnedTupleGo target it v) (fun _ s₁ => wpAny (model prog w) (A.over (.forLoop target it body orelse env) fs) (assign target env v) (fun _ s'' =>
            Seg (model prog w) A R Y n s₀ (.forLoop target it body orelse env) ((execs body env).wrap (fun f => match f with
              | .next | .cont => .pure (.again (.forLoop target it body orelse env))
              | .brk => .pure (.done .next)
              | .ret v => .pure (.done (.ret v))) (fun e => (do noteFrame e env; theTreesLotGoes e : Sem Unit).wrap (fun _ => .raise e) .raise id id) id id) fs s'') (fun _ _ => False) s₁) (fun _ _ => False) s' := hv
    show Seg _ A R Y n s₀ _ (Sem.wrap _ _ _ _ (letOwnedTupleGo target it v >>= fun _ => assign target env v >>= fun _ => execs body env >>= _)) fs s'
    rw [Sem.bind_eq_wrap', Sem.wrap_wrap]
    refine seg_wrap (wpAny_mono go (fun _ s₁ h₁ => ?_) fun _ _ x => x.elim)
    rw [Sem.bind_eq_wrap', Sem.wrap_wrap]
    refine seg_wrap (wpAny_mono h₁ (fun _ s₂ h₂ => ?_) fun _ _ x => x.elim)
    rw [Sem.bind_eq_wrap', Sem.wrap_wrap]
    rw [Sem.wrap_congr (execs body env) _ _ (K' := fun f => match f with
              | .next | .cont => .pure (.again (.forLoop target it body orelse env))
              | .brk => .pure (.done .next)
              | .ret v => .pure (.done (.ret v))) (H' := (fun e => (do noteFrame e env; theTreesLotGoes e : Sem Unit).wrap (fun _ => .raise e) .raise id id)) (fun f => by cases f <;> rfl) (fun e0 => by exact e e0)]
    exact h₂
end
end Mine
namespace Mine
open PySem PySem.W PyProof.Rows

mutual
/-- no float of the text's own run -/
noncomputable def noFlt : PV → Bool
  | .flt _ => false
  | .tup l => noFlts l
  | .lst l => noFlts l
  | .lsa _ l => noFlts l
  | _ => true
noncomputable def noFlts : List PV → Bool
  | [] => true
  | p :: ps => noFlt p && noFlts ps
end
mutual
/-- the floats' marks told -/
noncomputable def toB (i j : Nat) : PV → PV
  | .flt x => .fltB x i j
  | .tup l => .tup (toBs i j l)
  | .lst l => .lst (toBs i j l)
  | .lsa a l => .lsa a (toBs i j l)
  | p => p
noncomputable def toBs (i j : Nat) : List PV → List PV
  | [] => []
  | p :: ps => toB i j p :: toBs i j ps
end
mutual
theorem Rd.lo {lo lo' : Nat} {X : List Addr} {s : Shared} : ∀ {p : PV} {v : Value}, noFlt p = true → Rd lo X s p v → Rd lo' X s p v
  | .none, _, _, r => by simpa only [Rd] using r
  | .bool _, _, _, r => by simpa only [Rd] using r
  | .int _, _, _, r => by simpa only [Rd] using r
  | .flt _, _, h, r => by cases h
  | .str _, _, _, r => by simpa only [Rd] using r
  | .tup l, v, h, r => by
    simp only [noFlt] at h
    simp only [Rd] at r ⊢
    obtain ⟨a, vs, e, hx, q, hr⟩ := r
    exact ⟨a, vs, e, hx, q, Rds.lo h hr⟩
  | .lst l, v, h, r => by
    simp only [noFlt] at h
    simp only [Rd] at r ⊢
    obtain ⟨a, vs, e, hx, q, hr⟩ := r
    exact ⟨a, vs, e, hx, q, Rds.lo h hr⟩
  | .val _, _, _, r => by simpa only [Rd] using r
  | .app _, _, _, r => by simpa only [Rd] using r
  | .gfl _, _, _, r => by simpa only [Rd] using r
  | .fltB _ _ _, _, _, r => by simpa only [Rd] using r
  | .lsa a l, v, h, r => by
    simp only [noFlt] at h
    simp only [Rd] at r ⊢
    obtain ⟨vs, e, hx, q, hr⟩ := r
    exact ⟨vs, e, hx, q, Rds.lo h hr⟩
theorem Rds.lo {lo lo' : Nat} {X : List Addr} {s : Shared} : ∀ {ps : List PV} {vs : List Value}, noFlts ps = true → Rds lo X s ps vs → Rds lo' X s ps vs
  | [], _, _, r => by simpa only [Rds] using r
  | p :: ps, vs, h, r => by
    simp only [noFlts, Bool.and_eq_true] at h
    simp only [Rds] at r ⊢
    obtain ⟨v, r', e, h1, h2⟩ := r
    exact ⟨v, r', e, Rd.lo h.1 h1, Rds.lo h.2 h2⟩
end
mutual
theorem Rd.toB {lo lo' j : Nat} {X : List Addr} {s : Shared} (hj : s.toks ≤ j) : ∀ {p : PV} {v : Value}, Rd lo X s p v → Rd lo' X s (toB lo j p) v
  | .none, _, r => by simpa only [Mine.toB, Rd] using r
  | .bool _, _, r => by simpa only [Mine.toB, Rd] using r
  | .int _, _, r => by simpa only [Mine.toB, Rd] using r
  | .flt _, _, r => by
    simp only [Mine.toB, Rd] at r ⊢
    obtain ⟨t, h0, h1, h2, e⟩ := r
    exact ⟨t, h0, h1, Nat.lt_of_lt_of_le h2 hj, e⟩
  | .str _, _, r => by simpa only [Mine.toB, Rd] using r
  | .tup l, v, r => by
    simp only [Mine.toB, Rd] at r ⊢
    obtain ⟨a, vs, e, hx, q, hr⟩ := r
    exact ⟨a, vs, e, hx, q, Rds.toB hj hr⟩
  | .lst l, v, r => by
    simp only [Mine.toB, Rd] at r ⊢
    obtain ⟨a, vs, e, hx, q, hr⟩ := r
    exact ⟨a, vs, e, hx, q, Rds.toB hj hr⟩
  | .val _, _, r => by simpa only [Mine.toB, Rd] using r
  | .app _, _, r => by simpa only [Mine.toB, Rd] using r
  | .gfl _, _, r => by simpa only [Mine.toB, Rd] using r
  | .fltB _ _ _, _, r => by simpa only [Mine.toB, Rd] using r
  | .lsa a l, v, r => by
    simp only [Mine.toB, Rd] at r ⊢
    obtain ⟨vs, e, hx, q, hr⟩ := r
    exact ⟨vs, e, hx, q, Rds.toB hj hr⟩
theorem Rds.toB {lo lo' j : Nat} {X : List Addr} {s : Shared} (hj : s.toks ≤ j) : ∀ {ps : List PV} {vs : List Value}, Rds lo X s ps vs → Rds lo' X s (toBs lo j ps) vs
  | [], _, r => by simpa only [toBs, Rds] using r
  | p :: ps, vs, r => by
    simp only [toBs, Rds] at r ⊢
    obtain ⟨v, r', e, h1, h2⟩ := r
    exact ⟨v, r', e, Rd.toB hj h1, Rds.toB hj h2⟩
end
noncomputable abbrev Cx.at (c : Cx) (lo : Nat) : Cx := { c with lo := lo }
theorem Base.atLo {c : Cx} {lo : Nat} {h : Heap} (b : Base c h) : Base (c.at lo) h := ⟨b.g, b.b, b.nolimit, b.nodigits, b.booked, b.k⟩
theorem Rel.atLo {c : Cx} {F : Frm} {ρ : List (Option PV)} {s : Shared} {lo : Nat} (r : Rel c (F.at ρ none) s) (h : ∀ (i : Nat) p, ρ[i]? = some (some p) → noFlt p = true) (hl : lo ≤ s.toks) : Rel (c.at lo) (F.at ρ none) s := by
  refine ⟨r.baseE.atLo, r.keep, r.env, ?_, fun a l e => (nomatch e), r.cells, r.x0, r.good, hl⟩
  obtain ⟨m, hn, hv⟩ := r.vars
  refine ⟨m, hn, fun i x p h1 h2 => ?_⟩
  obtain ⟨v, a, b⟩ := hv i x p h1 h2
  exact ⟨v, a, b.lo (h i p h2)⟩

/-- x, y = e1, e2, the floats of the one and of the other told apart by their marks -/
theorem r_two {c : Cx} {k : Nat} {F : Frm} {ρ : List (Option PV)} {tgt : List Expr} {e₁ e₂ : Expr} {kd kd2 : Nat} {tpos tpos2 pos : Pos} {rest : List Stmt} {p q : PV} {ρ' : Nat → Nat → List (Option PV)} {P : Out → Prop}
    (h1 : Evals c k (F.at ρ none) e₁ p) (h2 : ∀ lo', c.lo ≤ lo' → Evals (c.at lo') k (F.at ρ none) e₂ q) (hf : ∀ (i : Nat) p, ρ[i]? = some (some p) → noFlt p = true)
    (ha : ∀ m m', Asg c k F (.Tuple tgt kd tpos) (.tup [toB c.lo m p, toB m m' q]) ρ (ρ' m m'))
    (he : starEach [e₁, e₂] F.env = (false, eval e₁ F.env) :: starEach [e₂] F.env) (he' : starEach [e₂] F.env = (false, eval e₂ F.env) :: starEach [] F.env)
    (hs : swapsWithSole [.Tuple tgt kd tpos] (.Tuple [e₁, e₂] kd2 tpos2) pos.line F.env = pure false) (hw : swappedStores [.Tuple tgt kd tpos] (.Tuple [e₁, e₂] kd2 tpos2) F.env = pure none)
    (hn : ∀ m m', m ≤ m' → Runs c k F (ρ' m m') none rest P) : Runs c k F ρ none (.Assign [.Tuple tgt kd tpos] (.Tuple [e₁, e₂] kd2 tpos2) pos :: rest) P := by
  refine r_cons fun S A s R r Q hq => ?_
  refine Assign_Tuple (Tuple_ ?_) hs hw
  refine spliced_more (h1 A s R r _ fun v₁ s₁ e₁' r₁ => ?_) he
  have rel₁ := r.ext e₁'
  have rel' : Rel (c.at s₁.toks) (F.at ρ none) s₁ := rel₁.atLo hf (Nat.le_refl _)
  refine spliced_more (h2 s₁.toks rel₁.low A s₁ R rel' _ fun v₂ s₂ e₂' r₂ => ?_) he'
  refine spliced_none ?_
  have rel₂ := rel₁.ext e₂'
  have rv : Rds c.lo (Xw F.X0 none) s₂ [Mine.toB c.lo s₁.toks p, Mine.toB s₁.toks s₂.toks q] [v₁, v₂] := by
    rw [X_on] at r₁ r₂
    exact .cons ((Rd.toB (lo' := c.lo) (Nat.le_refl s₁.toks) r₁).ext e₂') (.cons (Rd.toB (lo' := c.lo) (Nat.le_refl s₂.toks) r₂) .nil)
  have xo := rel₂.xok
  rw [X_on] at xo
  refine newTuple_does xo rv (Nat.le_of_ble_eq_true rfl) _ fun v s₃ e₃ rv₃ => ?_
  exact ha s₁.toks s₂.toks S A s₃ none v R (rel₂.ext e₃) rv₃ _ fun s₄ e₄ r₄ => hq (.next _ none) _ s₄ (hn _ _ e₂'.le) (Step.trans ((e₁'.trans e₂').trans e₃).s e₄) ⟨rfl, r₄⟩
end Mine
namespace Mine
open PySem PySem.W PyProof.Rows

/-- made after h₀, and no value is read from it -/
noncomputable def Priv (h₀ : Heap) (b : Addr) (o : Obj) : Prop := h₀.get? b = none ∧ ¬ GoodObj o

/-- the object of a generator -/
noncomputable def GenObj (o : Obj) : Prop := o.cls = .type "generator" ∧ ∃ vs, o.data = .fields vs
/-- what a generator's frame may write -/
noncomputable def PrivW (h₀ : Heap) (b : Addr) (o : Obj) : Prop := Priv h₀ b o ∧ ¬ GenObj o

/-- what a generator's waking may do -/
structure StepV (h₀ : Heap) (g : Nat) (s s' : Shared) : Prop where
  os : s'.os = s.os
  gens : ∀ (i : Nat) (x : GenState), i ≠ g → s.gens[i]? = some x → s'.gens[i]? = some x
  bare : AllBare s.gens → AllBare s'.gens
  le : s.toks ≤ s'.toks
  keep : ∀ b o, ¬ PrivW h₀ b o → s.heap.get? b = some o → s'.heap.get? b = some o
  gsz : s.gens.size ≤ s'.gens.size
theorem StepV.refl {h₀ : Heap} {g : Nat} (s : Shared) : StepV h₀ g s s := ⟨rfl, fun _ _ _ e => e, id, Nat.le_refl _, fun _ _ _ e => e, Nat.le_refl _⟩
theorem StepV.trans {h₀ : Heap} {g : Nat} {a b d : Shared} (x : StepV h₀ g a b) (y : StepV h₀ g b d) : StepV h₀ g a d where
  os := y.os.trans x.os
  gens := fun i z n e => y.gens i z n (x.gens i z n e)
  bare := fun q => y.bare (x.bare q)
  le := Nat.le_trans x.le y.le
  keep := fun q o n e => y.keep q o n (x.keep q o n e)
  gsz := Nat.le_trans x.gsz y.gsz
theorem gens_size {a b : Array GenState} (h : ∀ (g : Nat) (x : GenState), a[g]? = some x → b[g]? = some x) : a.size ≤ b.size := by
  rcases Nat.lt_or_ge b.size a.size with l | l
  · have := h b.size _ (Array.getElem?_eq_getElem l)
    rw [Array.getElem?_eq_none (Nat.le_refl _)] at this; cases this
  · exact l
theorem Ext.v {h₀ : Heap} {g : Nat} {s s' : Shared} (e : Ext s s') : StepV h₀ g s s' := ⟨e.os, fun i x _ h => e.gens i x h, e.bare, e.le, fun b o _ h => e.keep b o h, gens_size e.gens⟩

/-- what the generator's user does between two wakings -/
structure Use (h₀ : Heap) (g : Nat) (s s' : Shared) : Prop where
  keep : ∀ b o, Priv h₀ b o → s.heap.get? b = some o → s'.heap.get? b = some o
  gen : ∀ x, s.gens[g]? = some x → s'.gens[g]? = some x
theorem Use.trans {h₀ : Heap} {g : Nat} {a b d : Shared} (x : Use h₀ g a b) (y : Use h₀ g b d) : Use h₀ g a d :=
  ⟨fun q o n e => y.keep q o n (x.keep q o n e), fun z e => y.gen z (x.gen z e)⟩

/-- what the user's state shows at each waking -/
structure Stand (c : Cx) (hE h₀ : Heap) (s : Shared) : Prop where
  hE : Keep hE s.heap
  fine : Fine c s
  dom : ∀ b o, h₀.get? b = some o → ∃ o', s.heap.get? b = some o'

structure GIter (c : Cx) (A : Around) (X : List Addr) (hE h₀ : Heap) (it : Value) (g : Nat) (St : List PV → Shared → Prop) : Prop where
  stable : ∀ xs s s', St xs s → Use h₀ g s s' → St xs s'
  item : ∀ x xs s (Q : Option Value → Shared → Prop), Stand c hE h₀ s → St (x :: xs) s → (∀ v s', StepV h₀ g s s' → Rd c.lo X s' x v → St xs s' → Q (some v) s') → wpAny c.M A (pyNext it) Q (fun _ _ => False) s
  done : ∀ s (Q : Option Value → Shared → Prop), Stand c hE h₀ s → St [] s → (∀ s', StepV h₀ g s s' → Q none s') → wpAny c.M A (pyNext it) Q (fun _ _ => False) s
  owned : ∀ tgt v xs s (Q : Unit → Shared → Prop), St xs s → Q () s → wpAny c.M A (letOwnedTupleGo tgt it v) Q (fun _ _ => False) s

/-- the user's frame lies in h₀ -/
structure In0 (F : Frm) (h₀ : Heap) : Prop where
  hE : Keep F.hE h₀
  locals : ∃ o, h₀.get? F.env.locals = some o
  cells : ∀ x a, F.env.cells.lookup x = some a → ∃ o, h₀.get? a = some o

theorem good_list {h : Heap} {a : Addr} {items : Array Value} {o : Obj} (x : PlL h a items) (e : h.get? a = some o) : GoodObj o := by
  obtain ⟨o', ho, _, _, n, hd⟩ := x
  rw [ho] at e; cases e
  exact good_seq hd

theorem Rel.stepV {c : Cx} {F : Frm} {ρ : List (Option PV)} {w : Ow} {s s' : Shared} {h₀ : Heap} {g : Nat} (r : Rel c (F.at ρ w) s) (I : In0 F h₀) (st : StepV h₀ g s s') : Rel c (F.at ρ w) s' := by
  have kd : ∀ {X}, KeepD X s.heap s'.heap := fun b o _ g e => st.keep b o (fun m => m.1.2 g) e
  have k0 : ∀ {b o o'}, h₀.get? b = some o' → s.heap.get? b = some o → s'.heap.get? b = some o := fun {b o o'} h e => st.keep b o (fun m => by rw [m.1.1] at h; cases h) e
  refine ⟨r.baseE, fun b o e => k0 (I.hE b o e) (r.keep b o e), r.env, ?_, fun a l e => ?_, fun x a h => ?_, r.x0, ⟨st.bare r.good.1, Nat.lt_of_lt_of_le r.good.2 st.le⟩, Nat.le_trans r.low st.le⟩
  · obtain ⟨m, ⟨oL, es, ep, hL, q⟩, hv⟩ := r.vars
    obtain ⟨o0, h0⟩ := I.locals
    refine ⟨m, ⟨oL, es, ep, k0 h0 hL, q⟩, fun i x p h1 h2 => ?_⟩
    obtain ⟨v, a, b⟩ := hv i x p h1 h2
    refine ⟨v, ?_, b.keepD kd st.le⟩
    rcases a with a | ⟨a, ca, b, o, ho, hd⟩ | ⟨a, q, ca, b, o, ho, hd⟩
    · exact .inl a
    · obtain ⟨o1, h1⟩ := I.cells _ _ b
      exact .inr (.inl ⟨a, ca, b, o, k0 h1 ho, hd⟩)
    · obtain ⟨o1, h1⟩ := I.cells _ _ b
      exact .inr (.inr ⟨a, q, ca, b, o, k0 h1 ho, hd⟩)
  · obtain ⟨vs, h1, h2, h3⟩ := r.own a l e
    refine ⟨vs, ?_, h2.keepD kd st.le, h3⟩
    obtain ⟨o, ho, t⟩ := id h1
    exact ⟨o, st.keep _ _ (fun m => m.1.2 (good_list h1 ho)) ho, t⟩
  · obtain ⟨v, o, ho, hd⟩ := r.cells x a h
    obtain ⟨o1, h1⟩ := I.cells _ _ h
    exact ⟨v, o, k0 h1 ho, hd⟩

theorem use_step {c : Cx} {F : Frm} {ρ : List (Option PV)} {w w' : Ow} {s s' : Shared} {h₀ : Heap} {g : Nat} (r : Rel c (F.at ρ w) s) (I : In0 F h₀) (st : Step F.env w w' s s') : Use h₀ g s s' := by
  refine ⟨fun b o p e => st.keep b o ?_ (fun x h => ?_) (fun a l h => ?_) e, fun x e => st.gens g x e⟩
  · rintro rfl
    obtain ⟨o', h⟩ := I.locals
    rw [p.1] at h; cases h
  · obtain ⟨o', h'⟩ := I.cells x b h
    rw [p.1] at h'; cases h'
  · rintro rfl
    obtain ⟨vs, h1, _⟩ := r.own b l h
    exact p.2 (good_list h1 e)

theorem Step.overV {env : Env} {w₀ w : Ow} {s₀ s s' : Shared} {h₀ : Heap} {g : Nat} (x : Step env w₀ w s₀ s) (y : StepV h₀ g s s') (h : ∀ b o, s₀.heap.get? b = some o → ∃ o', h₀.get? b = some o') (hg : s₀.gens[g]? = none) : Step env w₀ w s₀ s' where
  os := y.os.trans x.os
  gens := fun i z e => y.gens i z (fun m => by rw [m, hg] at e; cases e) (x.gens i z e)
  bare := fun b => y.bare (x.bare b)
  le := Nat.le_trans x.le y.le
  keep := fun b o h1 h2 h3 e => y.keep b o (fun m => by obtain ⟨o', h'⟩ := h b o e; rw [m.1.1] at h'; cases h') (x.keep b o h1 h2 h3 e)
  own := x.own
  dom := fun b o e => let ⟨o', h'⟩ := x.dom b o e; ⟨o', y.keep b o' (fun m => by obtain ⟨o1, h1⟩ := h b o e; rw [m.1.1] at h1; cases h1) h'⟩

noncomputable abbrev Dom (h₀ h : Heap) : Prop := ∀ b o, h₀.get? b = some o → ∃ o', h.get? b = some o'
theorem Dom.v {h₀ : Heap} {g : Nat} {s s' : Shared} (d : Dom h₀ s.heap) (v : StepV h₀ g s s') : Dom h₀ s'.heap := fun b o e => let ⟨o', h⟩ := d b o e; ⟨o', v.keep b o' (fun m => by rw [m.1.1] at e; cases e) h⟩
theorem Dom.step {h₀ : Heap} {env : Env} {w w' : Ow} {s s' : Shared} (d : Dom h₀ s.heap) (v : Step env w w' s s') : Dom h₀ s'.heap := fun b o e => let ⟨o', h⟩ := d b o e; v.dom b o' h
theorem Rel.stand {c : Cx} {F : Frm} {ρ : List (Option PV)} {w : Ow} {s : Shared} {h₀ : Heap} (r : Rel c (F.at ρ w) s) (d : Dom h₀ s.heap) : Stand c F.hE h₀ s :=
  ⟨r.keep, r.fine, d⟩

theorem for_codeG {c : Cx} {k : Nat} {F : Frm} {tgt : Expr} {body : List Stmt} {P₁ : Out → Prop} (S : FrmSt F) {A : Around} (R : Room k A) {it : Value} {h₀ : Heap} {g : Nat} {X : List Addr} {St : List PV → Shared → Prop}
    (G : GIter c A X F.hE h₀ it g St) (I : In0 F h₀) {w₀ : Ow} {s₀ : Shared} (hf : ∀ b o, s₀.heap.get? b = some o → ∃ o', h₀.get? b = some o') (hg : s₀.gens[g]? = none)
    {Q : Flow → Shared → Prop} (hq : ∀ o f s', P₁ o → Step F.env w₀ o.own s₀ s' → EndRel c F o f s' → Q f s') :
    ∀ (xs : List PV) (ρ : List (Option PV)) (w : Ow) (s : Shared), Xw F.X0 w = X → ForRuns c k F tgt body P₁ xs ρ w → Rel c (F.at ρ w) s → St xs s → Dom h₀ s.heap → Step F.env w₀ w s₀ s →
      codeAny c.M A (.forLoop tgt it body [] F.env) (fun r s' => match r with | .ok f => Q f s' | .error _ => False) s
  | [], ρ, w, s, hX, h, r, st, dm, e => by
    refine for_turn (G.done s _ (r.stand dm) st fun s' sw => ?_)
    exact hq (.next ρ w) _ s' h (e.overV sw hf hg) ⟨rfl, r.stepV I sw⟩
  | x :: xs, ρ, w, s, hX, h, r, st, dm, e => by
    obtain ⟨ρ', ha, hb⟩ := h
    refine for_turn (G.item x xs s _ (r.stand dm) st fun v s₁ sw rv st₁ => ?_)
    have r₁ := r.stepV I sw
    have e₁ := e.overV sw hf hg
    refine G.owned tgt v xs s₁ _ st₁ ?_
    refine ha S A s₁ w v R r₁ (hX ▸ rv) _ fun s₂ e₂ r₂ => ?_
    have st₂ := G.stable _ _ _ st₁ (use_step r₁ I e₂)
    refine hb S A s₂ R r₂ _ fun o f s₃ p e₃ q => ?_
    have e' := (e₁.trans e₂).trans e₃
    have st₃ := G.stable _ _ _ st₂ (use_step r₂ I e₃)
    have dm₃ := ((dm.v sw).step e₂).step e₃
    cases o with
    | next r' w' =>
      obtain ⟨rfl, rel⟩ := q
      exact for_codeG S R G I hf hg hq xs r' w' s₃ (p.1.trans hX) p.2 rel st₃ dm₃ e'
    | cont r' w' =>
      obtain ⟨rfl, rel⟩ := q
      exact for_codeG S R G I hf hg hq xs r' w' s₃ (p.1.trans hX) p.2 rel st₃ dm₃ e'
    | brk r' w' => obtain ⟨rfl, rel⟩ := q; exact hq (.next r' w') _ s₃ p e' ⟨rfl, rel⟩
    | ret p' fr => obtain ⟨v', rfl, rel⟩ := q; exact hq (.ret p' fr) _ s₃ p e' ⟨v', rfl, rel⟩

/-- an iterable that is a generator -/
noncomputable def GenE (c : Cx) (k : Nat) (F : Frm) (e : Expr) (xs : List PV) : Prop :=
  ∀ A s, Room k A → Rel c F s → ∀ Q : Value → Shared → Prop, (∀ it s' h₀ g St, Ext s s' → (∀ b o, s.heap.get? b = some o → h₀.get? b = some o) → GIter c A F.X F.hE h₀ it g St → St xs s' → Dom h₀ s'.heap → s.gens[g]? = none → Q it s') →
    wpAny c.M A (eval e F.env) (fun v s₁ => wpAny c.M A (pyIter v) Q (fun _ _ => False) s₁) (fun _ _ => False) s

theorem r_forG {c : Cx} {k : Nat} {F : Frm} {ρ : List (Option PV)} {w : Ow} {tgt iter : Expr} {body rest : List Stmt} {pos : Pos} {xs : List PV} {P : Out → Prop} (hi : GenE c k (F.at ρ w) iter xs)
    (h : ForRuns c k F tgt body (thenP c k F rest P) xs ρ w) (hfs : ∀ x, foldedSetIterable iter F.env x = pure x) : Runs c k F ρ w (.For tgt iter body [] pos :: rest) P := by
  refine r_cons fun S A s R r Q hq => ?_
  refine wpAny_For (hi A s R r _ fun it s' h₀ g St e k₀ G st dm hg => ?_) hfs
  rw [X_on] at G
  have I : In0 F h₀ := ⟨fun b o q => k₀ b o (r.keep b o q), (let ⟨o, ho, _⟩ := locals_obj r; ⟨o, k₀ _ o ho⟩), fun x a q => let ⟨o, ho, _⟩ := cell_obj r q; ⟨o, k₀ _ o ho⟩⟩
  refine codeAny_mono (for_codeG S R G I (w₀ := w) (s₀ := s) (fun b o q => ⟨o, k₀ b o q⟩) hg hq xs ρ w s' rfl h (r.ext e) st dm e.s) fun r' s' h' => ?_
  cases r' with
  | ok f => exact h'
  | error e => exact h'.elim

/-- a frame whose values are flat, after its user's step -/
inductive Flat : PV → Prop
  | none : Flat .none
  | bool {b} : Flat (.bool b)
  | int {i} : Flat (.int i)
  | str {x} : Flat (.str x)
theorem Flat.rd {lo lo' : Nat} {X X' : List Addr} {s s' : Shared} {p : PV} {v : Value} (f : Flat p) (r : Rd lo X s p v) : Rd lo' X' s' p v := by
  cases f <;> simpa only [Rd] using r

theorem Rel.use {c : Cx} {F : Frm} {ρ : List (Option PV)} {s s' : Shared} {h₀ : Heap} (r : Rel c (F.at ρ none) s) (u : ∀ b o, Priv h₀ b o → s.heap.get? b = some o → s'.heap.get? b = some o) (sd : Stand c F.hE h₀ s') (hL : h₀.get? F.env.locals = none) (hc : ∀ x, F.env.cells.lookup x = none)
    (hf : ∀ (i : Nat) p, ρ[i]? = some (some p) → Flat p) : Rel c (F.at ρ none) s' := by
  refine ⟨r.baseE, sd.hE, r.env, ?_, fun a l e => (nomatch e), fun x a h => ?_, r.x0, sd.fine.good, sd.fine.low⟩
  · obtain ⟨m, ⟨oL, es, ep, hd1, hd2, q⟩, hv⟩ := r.vars
    refine ⟨m, ⟨oL, es, ep, u _ _ ⟨hL, not_good_dict hd2⟩ hd1, hd2, q⟩, fun i x p h1 h2 => ?_⟩
    obtain ⟨v, a, b⟩ := hv i x p h1 h2
    refine ⟨v, ?_, (hf i p h2).rd b⟩
    rcases a with a | ⟨a, ca, b, _⟩ | ⟨a, q, ca, b, _⟩
    · exact .inl a
    · rw [show (F.at ρ none).env = F.env from rfl, hc] at b; cases b
    · rw [show (F.at ρ none).env = F.env from rfl, hc] at b; cases b
  · rw [show (F.at ρ none).env = F.env from rfl, hc] at h; cases h
end Mine
namespace Mine
open PySem PySem.W PyProof.Rows

/-- a generator function's waking: it yields, or it ends without a value -/
theorem next_gen {prog : Program} {w : World} {A : Around} {s : Shared} {a : Addr} {g n : Nat} {gs : GenState} {P : Nat → Shared → Shared → Prop} {Y : Protocol} {Q : Option Value → Shared → Prop} {E : Value → Shared → Prop}
    (hh : A.handled = none) (hroom : A.depth < recursionLimit) (hl : s.heap.NoLimit) (hg : s.heap.IsGen a g) (hgs : s.gens[g]? = some gs)
    (hgo : gs.Goes (model prog w) A.in1 (fun n s₀ r s₁ => r = .ok (.ret .none) ∧ P n s₀ s₁) Y n (.send .none) (s.setGen g .running))
    (hY : ∀ v s₁ gs', gs'.bare = true → Y (n - 1) (s.setGen g .running) v s₁ (fun r' s'' => match n with
        | 0 => False
        | m + 1 => gs'.Goes (model prog w) A.in1 (fun n s₀ r s₁ => r = .ok (.ret .none) ∧ P n s₀ s₁) Y m r' s'') → Q (some v) (s₁.setGen g gs'))
    (hP : ∀ s₁, P n (s.setGen g .running) s₁ → ∀ h', (∀ b o, s₁.heap.get? b = some o → h'.get? b = some o) → Q none { s₁.setGen g .finished with heap := h' }) :
    wpAny (model prog w) A (pyNext (.ref a)) Q E s := by
  unfold pyNext
  refine wpAny_bind (wpAny_attempt (wpAny_callSpecial?_slot (name := Str.ofString "__next__") hg.typeIs slot_gen_next
    (wpAny_call_entry slot_gen_next hg.typeIs entry_gen_next ?_ (args_gen_next _))))
  show wpAny _ A.in1 (Builtin.Generator.genWake (.ref a) (.send .none)) _ _ s
  unfold Builtin.Generator.genWake
  refine wpAny_bind (wpAny_holding (wpAny_genNumber hg (wpAny_bind (wpAny_genState hgs ?_))))
  have go : ∀ {α : Type} {k : GenResult → Sem α} {l : List Value} {Q' : α → Shared → Prop} {E' : Value → Shared → Prop},
      (∀ s₁ : Shared, P n (s.setGen g .running) s₁ → wpAny (model prog w) A.in1 (k (End.ret (.ok (.ret .none))).result) Q' E' (s₁.setGen g .finished)) →
      (∀ (v : Value) (s₁ : Shared) (gs' : GenState), (Q (some v) (s₁.setGen g gs')) → wpAny (model prog w) A.in1 (k (.yielded v)) Q' E' (s₁.setGen g gs')) →
      wpAny (model prog w) A.in1 (.resume g (.send .none) l k) Q' E' s := fun h1 h2 =>
    wpAny_resumeQ hgs hgo (fun x s₁ hx => by obtain ⟨rfl, hp⟩ := hx; exact h1 s₁ hp) (fun v s₁ gs' hb hv => h2 v s₁ gs' (hY v s₁ gs' hb hv))
  cases gs with
  | running => exact hgo.elim
  | finished => exact hgo.elim
  | _ =>
    refine wpAny_bind (wpAny_roomToWake hl hroom (go (fun s₁ hp => ?_) fun v s₁ gs' q => ?_))
    · show wpAny _ A.in1 (newExc (.type "StopIteration") [] >>= _) _ _ _
      simp only [newExc, newTuple]
      refine wpAny_bind (wpAny_bind (wpAny_newObj_type (wpAny_bind (m := firstArgMember _ _) (wpAny_of_eq (a := Value.none) (by first | rfl | (simp only [firstArgMember]; rfl)) (wpAny_newObj_type ?_ (by size_fits)))) (by size_fits)))
      simp only [raiseNew]
      refine wpAny_bind (wpAny_bind (wpAny_handled ?_))
      rw [show A.in1.handled = none from hh]
      refine wpAny_throw (wpAny_bind (wpAny_isInstance (T := "StopIteration") (b := true) ⟨_, Heap.get?_push_size _ rfl, rfl⟩ isSubtype_stop (wpAny_pure (hP s₁ hp _ fun b o hb => ?_))))
      exact Heap.get?_push_of_some _ (Heap.get?_push_of_some _ hb)
    · exact wpAny_pure ⟨v, rfl, wpAny_pure q⟩
end Mine
namespace Mine
open PySem PySem.W PyProof.Rows

/-- the user's step, seen from the heap alone -/
noncomputable abbrev UseH (h₀ h h' : Heap) : Prop := ∀ b o, Priv h₀ b o → h.get? b = some o → h'.get? b = some o

/-- what is yielded: the next of the outputs; n are left behind it -/
noncomputable def GY (c : Cx) (X : List Addr) (hE h₀ : Heap) (g : Nat) (outs : List PV) : Protocol := fun n s₀ v s₁ kap =>
  Stand c hE h₀ s₀ → StepV h₀ g s₀ s₁ ∧ Stand c hE h₀ s₁ ∧ ∃ pre x r, outs = pre ++ x :: r ∧ r.length = n ∧ Rd c.lo X s₁ x v ∧ ∀ s'', UseH h₀ s₁.heap s''.heap → Stand c hE h₀ s'' → kap (.send .none) s''
noncomputable def GP (c : Cx) (X : List Addr) (hE h₀ : Heap) (g : Nat) : Nat → Shared → Shared → Prop := fun n s₀ s₁ => Stand c hE h₀ s₀ → n = 0 ∧ StepV h₀ g s₀ s₁
noncomputable abbrev GR (c : Cx) (X : List Addr) (hE h₀ : Heap) (g : Nat) : GenEnd := fun n s₀ r s₁ => r = .ok (.ret .none) ∧ GP c X hE h₀ g n s₀ s₁

/-- where the generator stands: xs are the outputs left -/
noncomputable def GSt (c : Cx) (A : Around) (X : List Addr) (hE h₀ : Heap) (a : Addr) (g : Nat) (outs : List PV) (xs : List PV) (s : Shared) : Prop :=
  h₀.get? a = none ∧ s.heap.IsGen a g ∧ (∃ pre, outs = pre ++ xs) ∧ ∃ gs, s.gens[g]? = some gs ∧
    ∀ s'', UseH h₀ s.heap s''.heap → Stand c hE h₀ s'' → gs.Goes c.M A.in1 (GR c X hE h₀ g) (GY c X hE h₀ g outs) xs.length (.send .none) s''

theorem bare_set {gens : Array GenState} {g : Nat} {x : GenState} (h : AllBare gens) (hx : x.bare = true) : AllBare (gens.setIfInBounds g x) := by
  intro y hy
  obtain ⟨i, hi, rfl⟩ := Array.mem_iff_getElem.mp hy
  have e : (gens.setIfInBounds g x)[i]? = some (gens.setIfInBounds g x)[i] := Array.getElem?_eq_getElem hi
  rw [Array.getElem?_setIfInBounds] at e
  split at e
  · split at e
    · injection e with e; rw [← e]; exact hx
    · cases e
  · exact h _ (Array.mem_of_getElem? e)
theorem stepV_setGen {h₀ : Heap} {g : Nat} {s : Shared} {x : GenState} (hx : x.bare = true) : StepV h₀ g s (s.setGen g x) :=
  ⟨rfl, fun i y n e => by
    show (s.gens.setIfInBounds g x)[i]? = some y
    rw [Array.getElem?_setIfInBounds_ne (Ne.symm n)]; exact e, fun b => bare_set b hx, Nat.le_refl _, fun _ _ _ e => e, by show _ ≤ (s.gens.setIfInBounds g x).size; rw [Array.size_setIfInBounds]; exact Nat.le_refl _⟩
theorem Stand.setGen {c : Cx} {hE h₀ : Heap} {g : Nat} {s : Shared} {x : GenState} (sd : Stand c hE h₀ s) (hx : x.bare = true) : Stand c hE h₀ (s.setGen g x) :=
  ⟨sd.hE, ⟨sd.fine.base, ⟨bare_set sd.fine.good.1 hx, sd.fine.good.2⟩, sd.fine.low⟩, sd.dom⟩
theorem suffix_same {α : Type} {outs pre pre' xs ys : List α} (h1 : outs = pre ++ xs) (h2 : outs = pre' ++ ys) (hl : xs.length = ys.length) : xs = ys := by
  subst h1
  exact (List.append_inj' h2 hl).2
theorem gen_notgood {h : Heap} {a : Addr} {g : Nat} {o : Obj} (x : h.IsGen a g) (e : h.get? a = some o) : ¬ GoodObj o := by
  obtain ⟨o', nm, qn, ho, hc, hd, _⟩ := x
  rw [ho] at e; cases e
  exact not_good_fields hd hc (by decide)
theorem isGen_use {h₀ h h' : Heap} {a : Addr} {g : Nat} (x : h.IsGen a g) (h0 : h₀.get? a = none) (u : UseH h₀ h h') : h'.IsGen a g := by
  obtain ⟨o, nm, qn, ho, r⟩ := id x
  exact ⟨o, nm, qn, u a o ⟨h0, gen_notgood x ho⟩ ho, r⟩

theorem isGen_step {h₀ : Heap} {s s' : Shared} {a : Addr} {g : Nat} (x : s.heap.IsGen a g) (u : StepV h₀ g s s') : s'.heap.IsGen a g := by
  obtain ⟨o, nm, qn, ho, hc, hd, r⟩ := id x
  exact ⟨o, nm, qn, u.keep a o (fun m => m.2 ⟨hc, _, hd⟩) ho, hc, hd, r⟩

theorem giter_of {c : Cx} {A : Around} {X : List Addr} {hE h₀ : Heap} {a : Addr} {g : Nat} {outs : List PV} (hh : A.handled = none) (hroom : A.depth < recursionLimit) : GIter c A X hE h₀ (.ref a) g (GSt c A X hE h₀ a g outs) where
  stable := fun xs s s' ⟨h0, h1, h2, gs, h3, h4⟩ u => ⟨h0, isGen_use h1 h0 u.keep, h2, gs, u.gen gs h3, fun s'' u' sd => h4 s'' (fun b o p e => u' b o p (u.keep b o p e)) sd⟩
  item := fun x xs s Q sd ⟨h0, h1, ⟨pre, h2⟩, gs, h3, h4⟩ hQ => by
    have sd' : Stand c hE h₀ (s.setGen g .running) := sd.setGen rfl
    refine next_gen (P := GP c X hE h₀ g) hh hroom sd.fine.base.nolimit h1 h3 (h4 _ (fun _ _ _ e => e) sd') (fun v s₁ gs' hb hy => ?_) (fun s₁ hp h' hk => ?_)
    · obtain ⟨st, _, pre', x', r, ho, hr, rd, hk⟩ := hy sd'
      have hx : x' :: r = x :: xs := suffix_same ho h2 (by simp only [List.length_cons] at hr ⊢; lia)
      cases hx
      have st1 : StepV h₀ g s (s₁.setGen g gs') := ((stepV_setGen rfl).trans st).trans (stepV_setGen hb)
      have hlt : g < s.gens.size := (Array.getElem?_eq_some_iff.mp h3).1
      have hlt1 : (s₁.setGen g gs').gens[g]? = some gs' := by
        have h5 := st.gsz
        have h6 : (s.setGen g .running).gens.size = s.gens.size := by simp [Shared.setGen]
        have h7 : g < s₁.gens.size := by lia
        simp [Shared.setGen, h7]
      exact hQ v _ st1 (Rd.keepD (s := s₁) (s' := s₁.setGen g gs') (fun _ _ _ _ e => e) (Nat.le_refl s₁.toks) rd) ⟨h0, isGen_step h1 st1, ⟨pre ++ [x], by simp [h2]⟩, gs', hlt1, fun s'' u sd'' => hk s'' u sd''⟩
    · exact absurd (hp sd').1 (by simp)
  done := fun s Q sd ⟨h0, h1, ⟨pre, h2⟩, gs, h3, h4⟩ hQ => by
    have sd' : Stand c hE h₀ (s.setGen g .running) := sd.setGen rfl
    refine next_gen (P := GP c X hE h₀ g) hh hroom sd.fine.base.nolimit h1 h3 (h4 _ (fun _ _ _ e => e) sd') (fun v s₁ gs' hb hy => ?_) (fun s₁ hp h' hk => ?_)
    · obtain ⟨_, sd1, _, _, _, _, _, _, hk⟩ := hy sd'
      exact (hk s₁ (fun _ _ _ e => e) sd1).elim
    · obtain ⟨_, st⟩ := hp sd'
      have st1 : StepV h₀ g s (s₁.setGen g .finished) := ((stepV_setGen rfl).trans st).trans (stepV_setGen rfl)
      exact hQ _ (st1.trans ⟨rfl, fun _ _ _ e => e, id, Nat.le_refl _, fun b o _ e => hk b o e, Nat.le_refl _⟩)
  owned := fun tgt v xs s Q ⟨h0, h1, _⟩ hQ => by
    obtain ⟨o, nm, qn, ho, hc, hd, _⟩ := h1
    unfold letOwnedTupleGo
    split
    · cases v with
      | ref a =>
        refine wpAny_bind (wpAny_load ho ?_)
        rw [hc, hd]
        exact wpAny_pure hQ
      | _ => exact wpAny_pure hQ
    · cases v with
      | ref a =>
        refine wpAny_bind (wpAny_load ho ?_)
        rw [hc, hd]
        exact wpAny_pure hQ
      | _ => exact wpAny_pure hQ
    · exact wpAny_pure hQ
end Mine
namespace Mine
open PySem PySem.W PyProof.Rows

/-- what a generator's frame does, from its first statement on; k: room for calls -/
noncomputable def GenRun (c : Cx) (k : Nat) (fd : FuncData) (f : Addr) (body : List Stmt) (names : List Str) (ρ : List (Option PV)) (outs : List PV) : Prop :=
  ∀ (A : Around) (X : List Addr) (hE h₀ : Heap) (g : Nat) (L : Addr) (s : Shared), Room (k + 3) A → FrmSt (fnFrm fd f L hE names []) → h₀.get? L = none → Keep hE h₀ → (∀ a ∈ X, ∃ o, h₀.get? a = some o) →
    Rel c ((fnFrm fd f L hE names []).at ρ none) s → Stand c hE h₀ s →
    Seg c.M A.in1 (GR c X hE h₀ g) (GY c X hE h₀ g outs) outs.length s (.func body (callEnvC fd L f)) (c.M.den (.func body (callEnvC fd L f))) [] s

theorem genE_call {c : Cx} {k : Nat} {F : Frm} {x : Str} {px pos : Pos} {f : Addr} {fd : FuncData} {body : List Stmt} {args : List Expr} {ps ls : List Str} {pa : List PV} {outs : List PV}
    (FA : FnAt c f fd) (hn : FnName c x f) (hk : F.env.kindOf x = some .globalImplicit) (hd : (x == ("__debug__" : Str)) = false) (h1 : EvalsL c (k + 3) F args pa)
    (hattr : eval (.Call (.Name x px) args [] pos) F.env = (do callWith pos (← eval (.Name x px) F.env) [] (backTo pos (starEach args F.env)) []))
    (hne : args ≠ [] → ∃ e r, args = e :: r ∧ starEach (e :: r) F.env = (false, eval e F.env) :: starEach r F.env) (hpl : (starEach args F.env).any (·.1) = false)
    (hb : fd.body = .stmts body) (hbind : ∀ vals : List Value, vals.length = pa.length → bindArgs fd ⟨vals, []⟩ = pure (ps.zip vals)) (hlen : pa.length = ps.length) (hnd : (ps ++ ls).Nodup)
    (hkind : ∀ y ∈ ps, fd.scope.names.lookup y = some .local) (hcells : ∀ n, cellsFrom n fd.scope.names [] = []) (hflat : ∀ (i : Nat) p, pa[i]? = some p → Flat p)
    (hco : fd.scope.isCoroutine = false) (hgen : fd.scope.isGenerator = true) (hkf : fd.scope.kind = .function)
    (run : GenRun c k fd f body (ps ++ ls) (start pa ls.length) outs) : GenE c (k + 3) F (.Call (.Name x px) args [] pos) outs := by
  intro A s R r Q hq
  rw [hattr]
  obtain ⟨o, ho, hdat⟩ := FA.obj
  refine wpAny_bind (e_glob hk hn.glob hd A s R r _ fun v s₁ e₁ rv => ?_)
  simp only [Rd] at rv
  subst rv
  refine callWith_any (.inr (.inr ⟨f, o, fd, rfl, ho, hdat⟩)) (r.base.ext e₁).k hne hpl ?_
  refine h1 A s₁ pos R (r.ext e₁) _ fun vs s₂ e₂ rvs => ⟨e₂.keep, ?_⟩
  have r₂ := (r.ext e₁).ext e₂
  have B₂ := r₂.base
  have hl : vs.length = pa.length := rvs.length
  refine up_any ?_
  refine wpAny_call (codeAny_call_generator (by have := R.depth; lia) (B₂.k _ _ ho) hdat hco hgen hb (FA.code _ B₂.k) ?_)
  rw [show bindArgs fd ⟨[] ++ vs, []⟩ = pure (ps.zip vs) from hbind vs hl, FA.clo]
  refine wpAny_pure (wpAny_with_toks (n := s₂.toks) (Nat.le_refl _) (wpAny_newFunctionEnv_cells hkf (fun y hy => .inl (hkind _ (List.of_mem_zip hy).1)) fun env he s₃ ic le => ?_))
  have he : env = callEnvC fd s₂.heap.objs.size f := he
  subst he
  have hkeep : Keep s₂.heap s₃.heap := ic.toInCall.keep
  obtain ⟨h₁, tk, hs₃⟩ := ic.toInCall.same
  refine ⟨B₂.nolimit.keeps hkeep, ?_⟩
  have hcs : (callEnvC fd s₂.heap.objs.size f).cells = [] := hcells _
  have hgs : s₃.gens = s₂.gens := by rw [hs₃]
  have fresh3 : s₂.heap.get? s₃.heap.objs.size = none := keep_none hkeep (get_size_none _)
  have ex : Ext s₂ { s₃ with gens := s₃.gens.push (.fresh (.func body (callEnvC fd s₂.heap.objs.size f))), toks := s₃.toks + 1 + 1, heap := s₃.heap.push { cls := .type "generator", data := .fields #[.int s₃.gens.size 0, .str fd.name s₃.toks, .str fd.qualname (s₃.toks + 1)] } } := by
    refine ⟨fun b o' e => Heap.get?_push_of_some _ (hkeep b o' e), by rw [hs₃], fun i z e => ?_, fun b => ?_, Nat.le_succ_of_le (Nat.le_succ_of_le le)⟩
    · show (s₃.gens.push _)[i]? = some z
      rw [hgs]
      have := (Array.getElem?_eq_some_iff.mp e).1
      rw [Array.getElem?_push_lt this]
      rw [Array.getElem?_eq_getElem this] at e; exact e
    · exact AllBare.push (by rw [hgs]; exact b) rfl
  intro le'
  have hgN : s.gens[s₃.gens.size]? = none := by
    have := gens_size (e₁.trans e₂).gens
    rw [hgs]; exact Array.getElem?_eq_none this
  refine wpAny_pyIter_gen (g := s₃.gens.size) ⟨_, _, _, Heap.get?_push_size _ rfl, rfl, rfl, rfl⟩ ?_
  refine hq _ _ s₂.heap s₃.gens.size _ ((e₁.trans e₂).trans ex) (fun b o' e => (e₁.trans e₂).keep b o' e) (giter_of (outs := outs) R.handled (by have := R.depth; lia)) ?_ (fun b o' e => ⟨o', ex.keep b o' e⟩) hgN
  refine ⟨fresh3, ⟨_, _, _, Heap.get?_push_size _ rfl, rfl, rfl, rfl⟩, ⟨[], rfl⟩, _, Array.getElem?_push_size .., fun s'' u sd => ⟨rfl, ?_⟩⟩
  have hE2 : Keep F.hE s₂.heap := r₂.keep
  have FS : FrmSt (fnFrm fd f s₂.heap.objs.size F.hE (ps ++ ls) []) := ⟨hnd, keep_none hE2 (get_size_none _), fun y a e => by
    rw [show (fnFrm fd f s₂.heap.objs.size F.hE (ps ++ ls) []).env.cells = [] from hcs] at e; cases e⟩
  have hps : ps.Nodup := (List.nodup_append.mp hnd).1
  have R₃ : Rel c ((fnFrm fd f s₂.heap.objs.size F.hE (ps ++ ls) []).at (start pa ls.length) none) s₃ := by
    refine ⟨r.baseE, fun b o' e => hkeep b o' (hE2 b o' e), ⟨hkf, FA.glob, FA.bui, fun y z a e1 e2 => ?_⟩, ⟨_, ic.toInCall.ns, fun i y q h1 h2 => ?_⟩, fun a l e => (nomatch e), fun y a e => ?_, fun a m => (nomatch m), ⟨by rw [hgs]; exact r₂.good.1, Nat.lt_of_lt_of_le r₂.good.2 le⟩, Nat.le_trans r₂.low le⟩
    · rw [show ((fnFrm fd f s₂.heap.objs.size F.hE (ps ++ ls) []).at (start pa ls.length) none).env.cells = [] from hcs] at e1; cases e1
    · have hi := start_get h2
      obtain ⟨v, hv, rv⟩ := rvs.get hi
      have hlt : i < ps.length := by
        rw [← hlen]
        exact (List.getElem?_eq_some_iff.mp hi).1
      have hy : ps[i]? = some y := by
        have h1' : (ps ++ ls)[i]? = some y := h1
        rwa [List.getElem?_append_left hlt] at h1'
      exact ⟨v, .inl ⟨hkind y (List.mem_of_getElem? hy), bindL_at hps hy hv (hkind y (List.mem_of_getElem? hy))⟩, (hflat i q hi).rd rv⟩
    · rw [show ((fnFrm fd f s₂.heap.objs.size F.hE (ps ++ ls) []).at (start pa ls.length) none).env.cells = [] from hcs] at e; cases e
  have u3 : UseH s₂.heap s₃.heap s''.heap := fun b o' p e => u b o' p (Heap.get?_push_of_some _ e)
  refine run A F.X F.hE s₂.heap s₃.gens.size s₂.heap.objs.size s'' R FS (get_size_none _) hE2 (fun a m => (r₂.xok.out a m).1) ?_ sd
  exact R₃.use u3 sd (get_size_none _) (fun y => by rw [show (fnFrm fd f s₂.heap.objs.size F.hE (ps ++ ls) []).env.cells = [] from hcs]; rfl) (fun i p hp => hflat i p (start_get hp))
end Mine
namespace Mine
open PySem PySem.W PyProof.Rows

theorem run1_assign {c : Cx} {k : Nat} {F : Frm} {ρ : List (Option PV)} {w : Ow} (i : Nat) {x : Str} {px pos : Pos} {e : Expr} {p : PV} {ρ' : List (Option PV)}
    (h1 : Evals c k (F.at ρ w) e p) (sl : Slot F i x) (hs : SetAt ρ i (some p) ρ') (hsw : swapsWith e (some (.Name x px)) pos.line F.env = pure false) :
    Run1 c k F ρ w (.Assign [.Name x px] e pos) (fun o => o = .next ρ' w) := by
  intro S A s R r Q hq
  refine wpAny_Assign_Name (h1 A s R r _ fun v s₁ e₁ rv => ?_) hsw
  refine store_wp (F := F.at ρ w) S.at sl.at (r.ext e₁) rv fun s₂ e₂ r₂ => hq (.next ρ' w) _ s₂ rfl (Step.trans e₁.s e₂) ⟨rfl, ?_⟩
  rw [hs.eq]; exact r₂

section
variable {c : Cx} {k : Nat} {F : Frm} {ρ ρ' : List (Option PV)} {A : Around} {R : GenEnd} {Y : Protocol} {n : Nat} {s₀ : Shared} {cd : Code} {fs : List Frame} {s : Shared}
  {K : Flow → Sem Fin} {H : Value → Sem Fin} {gd : Bool → Bool} {lv : List Value → List Value}

theorem seg_run1 {st : Stmt} (S : FrmSt F) (Rm : Room k (A.over cd fs)) (r : Rel c (F.at ρ none) s) (h : Run1 c k F ρ none st (fun o => o = .next ρ' none))
    (hn : ∀ s', Step F.env none none s s' → Rel c (F.at ρ' none) s' → Seg c.M A R Y n s₀ cd (K .next) fs s') : Seg c.M A R Y n s₀ cd ((exec st F.env).wrap K H gd lv) fs s :=
  seg_plain (mono0 (h S _ s Rm r _ fun o f s' p e q => by subst p; obtain ⟨rfl, rel⟩ := q; exact hn s' e rel))

theorem seg_if {test : Expr} {body orelse : List Stmt} {pos : Pos} {b : Bool} (Rm : Room k (A.over cd fs)) (r : Rel c (F.at ρ none) s) (ht : Tests c k (F.at ρ none) test b)
    (hn : ∀ s', Ext s s' → Rel c (F.at ρ none) s' → Seg c.M A R Y n s₀ cd ((execs (if b = true then body else orelse) F.env).wrap K H gd lv) fs s') :
    Seg c.M A R Y n s₀ cd ((exec (.If test body orelse pos) F.env).wrap K H gd lv) fs s :=
  seg_If (mono0 (ht _ s Rm r _ fun s' e => hn s' e (r.ext e)))
end

/-- the frame of a generator: no cells, its dict made behind h₀ -/
structure GFrm (F : Frm) (h₀ : Heap) : Prop where
  st : FrmSt F
  loc : h₀.get? F.env.locals = none
  cells : ∀ x, F.env.cells.lookup x = none
  x0 : F.X0 = []
  hE : Keep F.hE h₀

theorem GFrm.stepV {c : Cx} {F : Frm} {ρ : List (Option PV)} {h₀ : Heap} {g : Nat} {s s' : Shared} (G : GFrm F h₀) (r : Rel c (F.at ρ none) s) (st : Step F.env none none s s') : StepV h₀ g s s' := by
  refine ⟨st.os, fun i x _ e => st.gens i x e, st.bare, st.le, fun b o np e => st.keep b o ?_ (fun x h => by rw [G.cells] at h; cases h) (fun a l h => nomatch h) e, gens_size st.gens⟩
  rintro rfl
  obtain ⟨m, ⟨oL, es, ep, hL, hd, q⟩, _⟩ := r.vars
  rw [show (F.at ρ none).env = F.env from rfl, e] at hL
  cases hL
  exact np ⟨⟨G.loc, not_good_dict hd⟩, fun ⟨_, vs, h⟩ => by rw [hd] at h; cases h⟩

theorem GFrm.stand {c : Cx} {F : Frm} {ρ : List (Option PV)} {h₀ : Heap} {s : Shared} (r : Rel c (F.at ρ none) s) (hd : Dom h₀ s.heap) : Stand c F.hE h₀ s := ⟨r.keep, r.fine, hd⟩

/-- one yield of a pair of flat values -/
theorem seg_yield_pair {c : Cx} {k : Nat} {F : Frm} {ρ : List (Option PV)} {A : Around} {X : List Addr} {h₀ : Heap} {g : Nat} {outs : List PV} {n : Nat} {s₀ : Shared} {cd : Code} {fs : List Frame} {s : Shared}
    {K : Flow → Sem Fin} {H : Value → Sem Fin} {gd : Bool → Bool} {lv : List Value → List Value} {e₁ e₂ : Expr} {p₁ p₂ : PV} {kd : Nat} {tpos ypos pos : Pos} {pre r : List PV}
    (G : GFrm F h₀) (Rm : Room k (A.over cd fs)) (rel : Rel c (F.at ρ none) s) (hX : ∀ a ∈ X, ∃ o, h₀.get? a = some o) (hd : Dom h₀ s.heap) (sv : Stand c F.hE h₀ s₀ → StepV h₀ g s₀ s)
    (h1 : Evals c k (F.at ρ none) e₁ p₁) (h2 : Evals c k (F.at ρ none) e₂ p₂) (f1 : Flat p₁) (f2 : Flat p₂) (flat : ∀ (i : Nat) p, ρ[i]? = some (some p) → Flat p)
    (ho : outs = pre ++ .tup [p₁, p₂] :: r) (hr : r.length = n)
    (he : starEach [e₁, e₂] F.env = (false, eval e₁ F.env) :: starEach [e₂] F.env) (he' : starEach [e₂] F.env = (false, eval e₂ F.env) :: starEach [] F.env)
    (hfs : splitAtGen fs = none) (hgd : gd false = false) (hfg : fs.any Frame.guarded = false) (hco : F.env.scope.isCoroutine = false) (hi : interactive F.env = false)
    (hn : ∀ s₁ s'', Ext s s₁ → UseH h₀ s₁.heap s''.heap → Stand c F.hE h₀ s'' → Rel c (F.at ρ none) s'' → Seg c.M A (GR c X F.hE h₀ g) (GY c X F.hE h₀ g outs) n s'' cd (K .next) fs s'') :
    Seg c.M A (GR c X F.hE h₀ g) (GY c X F.hE h₀ g outs) (n + 1) s₀ cd ((exec (.Expr (.Yield (some (.Tuple [e₁, e₂] kd tpos)) ypos) pos) F.env).wrap K H gd lv) fs s := by
  refine seg_Expr_Yield hfs hgd hfg ?_ hco hi
  refine Tuple_ (mono0 (l_cons h1 (l_cons h2 l_nil he') he _ s tpos Rm rel _ fun vs s₁ e₁ rvs => ?_))
  refine wpAny_newObj_type ?_ (by show vs.toArray.size ≤ sizeLine; rw [List.size_toArray, rvs.length]; exact Nat.le_of_ble_eq_true rfl)
  have rel₁ := rel.ext e₁
  have ex : Ext s₁ { s₁ with heap := s₁.heap.push { cls := .type "tuple", data := .seq vs.toArray 0 } } := Ext.push
  have hd₁ : Dom h₀ s₁.heap := hd.v (g := g) e₁.v
  intro kap hk sd0
  have sv' : StepV h₀ g s { s₁ with heap := s₁.heap.push { cls := .type "tuple", data := .seq vs.toArray 0 } } := (e₁.trans ex).v
  refine ⟨(sv sd0).trans sv', GFrm.stand (rel₁.ext ex) (hd₁.v (g := g) ex.v), pre, _, r, ho, hr, ?_, fun s'' u sd => hk .none s'' ?_⟩
  · simp only [Rd]
    refine ⟨_, vs, rfl, fun m => ?_, IsTup.new _ _, ?_⟩
    · obtain ⟨o0, ho0⟩ := hX _ m
      obtain ⟨o, ho⟩ := hd₁ _ _ ho0
      rw [get_size_none] at ho; cases ho
    · obtain ⟨v1, vs1, rfl, r1, v2, vs2, rfl, r2, r3⟩ : ∃ v1 vs1, vs = v1 :: vs1 ∧ Rd c.lo (F.at ρ none).X s₁ p₁ v1 ∧ ∃ v2 vs2, vs1 = v2 :: vs2 ∧ Rd c.lo (F.at ρ none).X s₁ p₂ v2 ∧ vs2 = [] := by
        simp only [Rds] at rvs
        obtain ⟨v, r', e, a, v2, r2, e2, b, e3⟩ := rvs
        exact ⟨v, r', e, a, v2, r2, e2, b, e3⟩
      subst r3
      exact .cons (f1.rd r1) (.cons (f2.rd r2) Rds.nil)
  · exact hn _ s'' (e₁.trans ex) u sd ((rel₁.ext ex).use u sd G.loc G.cells flat)
end Mine
namespace Mine
open PySem PySem.W PyProof.Rows

noncomputable abbrev PW : Program := PySem.Challenge.pw_if0011_01
noncomputable def stAt (n : Nat) : Stmt := (PW.main.body[n]?).getD default
noncomputable def dBody : Stmt → List Stmt
  | .FunctionDef _ _ b _ _ _ _ _ _ _ => b
  | _ => []
noncomputable def dScope : Stmt → Scope
  | .FunctionDef _ _ _ _ _ _ s _ _ _ => s
  | _ => default
noncomputable def dArgs : Stmt → Arguments
  | .FunctionDef _ a _ _ _ _ _ _ _ _ => a
  | _ => default

/-- the record of a function of the text's; the fields that no step looks at are free -/
structure FX where
  name : Str
  qualname : Str
  kwd : Value
  doc : Value
  pm : Value
  ann : Option Addr
  code : Value
  ct : Value
/-- the function that the text's n-th statement makes -/
noncomputable def mkFd (n : Nat) (x : FX) (dflt : Value) : FuncData :=
  { name := x.name, qualname := x.qualname, params := dArgs (stAt n), body := .stmts (dBody (stAt n)), scope := dScope (stAt n), globals := mainGlobals, closure := [], defaults := dflt, kwdefaults := x.kwd, doc := x.doc, pyModule := x.pm, annotations := x.ann, code := x.code, closureTuple := x.ct, builtins := builtinsNs }

/-- f is the function that the text's n-th statement makes; it has no defaults -/
noncomputable def DefAt (c : Cx) (n : Nat) (f : Addr) : Prop := ∃ fx, FnAt c f (mkFd n fx .none)
end Mine
namespace Mine
open PySem PySem.W PyProof.Rows

theorem len1 {vs : List Value} (h : vs.length = 1) : ∃ a, vs = [a] := List.length_eq_one_iff.mp h
theorem len2 {vs : List Value} (h : vs.length = 2) : ∃ a b, vs = [a, b] := by
  cases vs with
  | nil => cases h
  | cons a r => obtain ⟨b, rfl⟩ := len1 (Nat.succ.inj h); exact ⟨a, b, rfl⟩
theorem len3 {vs : List Value} (h : vs.length = 3) : ∃ a b c, vs = [a, b, c] := by
  cases vs with
  | nil => cases h
  | cons a r => obtain ⟨b, c, rfl⟩ := len2 (Nat.succ.inj h); exact ⟨a, b, c, rfl⟩
/-- a constant of the text, read in any state that bears its objects -/
noncomputable def GConst (c : Cx) (x : Str) (p : PV) : Prop := ∃ v, c.mg x = some v ∧ ∀ (X : List Addr) (s : Shared), c.K.In s.heap → (∀ a ∈ X, c.K.lookup a = none) → Rd c.lo X s p v
/-- the names of the text's top -/
structure Glob (c : Cx) : Prop where
  third : GConst c "ONE_THIRD" (.gfl 0x3fd5555555555555)
  sixth : GConst c "ONE_SIXTH" (.gfl 0x3fc5555555555555)
  twothird : GConst c "TWO_THIRD" (.gfl 0x3fe5555555555555)
  nob : ∀ x : Str, (["max", "min", "sum", "len", "abs", "chr", "ord", "int", "str", "range", "enumerate"] : List Str).contains x = true → c.mg x = none

theorem of_beq {a b : Bool} (h : (a == b) = true) : a = b := by simpa using h
noncomputable def vF (m1 m2 hue : UInt64) : UInt64 :=
  let hue := (Float64.divmod hue 0x3ff0000000000000).snd
  if (Float64.cmp hue 0x3fc5555555555555 == some .lt) = true then Float64.add m1 (Float64.mul (Float64.mul (Float64.sub m2 m1) hue) 0x4018000000000000)
  else if (Float64.cmp hue 0x3fe0000000000000 == some .lt) = true then m2
  else if (Float64.cmp hue 0x3fe5555555555555 == some .lt) = true then Float64.add m1 (Float64.mul (Float64.mul (Float64.sub m2 m1) (Float64.sub 0x3fe5555555555555 hue)) 0x4018000000000000)
  else m1

noncomputable def hlsF (r g b : UInt64) : UInt64 × UInt64 × UInt64 :=
  let maxc := fMax r g b
  let minc := fMin r g b
  let sumc := Float64.add maxc minc
  let rangec := Float64.sub maxc minc
  let l := Float64.div sumc 0x4000000000000000
  if (Float64.cmp minc maxc == some .eq) = true then (0, l, 0) else
  let s := if (Float64.cmp l 0x3fe0000000000000 == some .lt || Float64.cmp l 0x3fe0000000000000 == some .eq) = true then Float64.div rangec sumc else Float64.div rangec (Float64.sub (Float64.sub 0x4000000000000000 maxc) minc)
  let rc := Float64.div (Float64.sub maxc r) rangec
  let gc := Float64.div (Float64.sub maxc g) rangec
  let bc := Float64.div (Float64.sub maxc b) rangec
  let h := if (Float64.cmp r maxc == some .eq) = true then Float64.sub bc gc else if (Float64.cmp g maxc == some .eq) = true then Float64.sub (Float64.add 0x4000000000000000 rc) bc else Float64.sub (Float64.add 0x4010000000000000 gc) rc
  ((Float64.divmod (Float64.div h 0x4018000000000000) 0x3ff0000000000000).snd, l, s)
/-- no division by nought -/
noncomputable def hlsOk (r g b : UInt64) : Bool :=
  let maxc := fMax r g b
  let minc := fMin r g b
  let sumc := Float64.add maxc minc
  let rangec := Float64.sub maxc minc
  let l := Float64.div sumc 0x4000000000000000
  (Float64.cmp minc maxc == some .eq) || (Float64.isZero rangec == false && (if (Float64.cmp l 0x3fe0000000000000 == some .lt || Float64.cmp l 0x3fe0000000000000 == some .eq) = true then Float64.isZero sumc == false else Float64.isZero (Float64.sub (Float64.sub 0x4000000000000000 maxc) minc) == false))
noncomputable def hsvF (r g b : UInt64) : UInt64 × UInt64 × UInt64 :=
  let maxc := fMax r g b
  let minc := fMin r g b
  let rangec := Float64.sub maxc minc
  if (Float64.cmp minc maxc == some .eq) = true then (0, 0, maxc) else
  let s := Float64.div rangec maxc
  let rc := Float64.div (Float64.sub maxc r) rangec
  let gc := Float64.div (Float64.sub maxc g) rangec
  let bc := Float64.div (Float64.sub maxc b) rangec
  let h := if (Float64.cmp r maxc == some .eq) = true then Float64.sub bc gc else if (Float64.cmp g maxc == some .eq) = true then Float64.sub (Float64.add 0x4000000000000000 rc) bc else Float64.sub (Float64.add 0x4010000000000000 gc) rc
  ((Float64.divmod (Float64.div h 0x4018000000000000) 0x3ff0000000000000).snd, s, maxc)
noncomputable def hsvOk (r g b : UInt64) : Bool :=
  let maxc := fMax r g b
  let minc := fMin r g b
  let rangec := Float64.sub maxc minc
  (Float64.cmp minc maxc == some .eq) || (Float64.isZero rangec == false && Float64.isZero maxc == false)
noncomputable def unhlsF (h l s : UInt64) : UInt64 × UInt64 × UInt64 :=
  if (Float64.cmp s 0 == some .eq) = true then (l, l, l) else
  let m2 := if (Float64.cmp l 0x3fe0000000000000 == some .lt || Float64.cmp l 0x3fe0000000000000 == some .eq) = true then Float64.mul l (Float64.add 0x3ff0000000000000 s) else Float64.sub (Float64.add l s) (Float64.mul l s)
  let m1 := Float64.sub (Float64.mul 0x4000000000000000 l) m2
  (vF m1 m2 (Float64.add h 0x3fd5555555555555), vF m1 m2 h, vF m1 m2 (Float64.sub h 0x3fd5555555555555))
/-- a float cut to an int -/
noncomputable def truncF (x : UInt64) : Int := match Float64.decode x with
  | .fin sg m e => Float64.truncOf sg m e
  | _ => 0
noncomputable def unhsvF (h s v : UInt64) : UInt64 × UInt64 × UInt64 :=
  if (Float64.cmp s 0 == some .eq) = true then (v, v, v) else
  let i := truncF (Float64.mul h 0x4018000000000000)
  let f := Float64.sub (Float64.mul h 0x4018000000000000) (Float64.ofInt i)
  let p := Float64.mul v (Float64.sub 0x3ff0000000000000 s)
  let q := Float64.mul v (Float64.sub 0x3ff0000000000000 (Float64.mul s f))
  let t := Float64.mul v (Float64.sub 0x3ff0000000000000 (Float64.mul s (Float64.sub 0x3ff0000000000000 f)))
  let i := i.fmod 6
  if (i == 0) = true then (v, t, p) else if (i == 1) = true then (q, v, p) else if (i == 2) = true then (p, v, t) else if (i == 3) = true then (p, q, v) else if (i == 4) = true then (t, p, v) else (v, p, q)
noncomputable def unhsvOk (h s : UInt64) : Bool :=
  (Float64.cmp s 0 == some .eq) || ((match Float64.decode (Float64.mul h 0x4018000000000000) with | .fin _ _ _ => true | _ => false) && (Float64.isInf (Float64.ofInt (truncF (Float64.mul h 0x4018000000000000))) == false))
theorem dec_fin {x : UInt64} (h : (match Float64.decode x with | .fin _ _ _ => true | _ => false) = true) : ∃ sg m e, Float64.decode x = .fin sg m e ∧ truncF x = Float64.truncOf sg m e := by
  unfold truncF
  cases q : Float64.decode x with
  | fin sg m e => exact ⟨sg, m, e, rfl, rfl⟩
  | _ => rw [q] at h; cases h
theorem fmod6 (i : Int) : i.fmod 6 = 0 ∨ i.fmod 6 = 1 ∨ i.fmod 6 = 2 ∨ i.fmod 6 = 3 ∨ i.fmod 6 = 4 ∨ i.fmod 6 = 5 := by
  rw [Int.fmod_eq_emod_of_nonneg _ (by decide)]
  lia
/-- three floats as a tuple -/
noncomputable def tri (p : UInt64 × UInt64 × UInt64) : PV := .tup [.flt p.1, .flt p.2.1, .flt p.2.2]

section
variable {c : Cx} {k : Nat} (G : Glob c) {f L : Addr} {hE : Heap} {X0 : List Addr} {fx : FX} {dflt : Value}
include G
theorem run_v {m1 m2 hue : UInt64} :
    Runs c k (fnFrm (mkFd 6 fx dflt) f L hE ["m1", "m2", "hue"] X0) [some (.flt m1), some (.flt m2), some (.flt hue)] none (dBody (stAt 6)) (fun o => o = .ret (.flt (vF m1 m2 hue)) false) := by
  refine r_assign 2 (e_bin (e_var 2 rfl rfl rfl) e_flt (o_mod_ff (by first | assumption | decide +kernel | lia))) ⟨rfl, .inl (by kernel_rfl)⟩ (.tail (.tail .head)) rfl ?_
  refine r_if (t_cmp (e_var 2 rfl rfl rfl) (e_globP (by kernel_rfl) G.sixth rfl) o_lt_fg rfl) (fun h39 => ?_) (fun h39 => ?_)
  · skip
    exact r_ret (e_bin (e_var 0 rfl rfl rfl) (e_bin (e_bin (e_bin (e_var 1 rfl rfl rfl) (e_var 0 rfl rfl rfl) o_sub_ff) (e_var 2 rfl rfl rfl) o_mul_ff) e_flt o_mul_ff) o_add_ff) (by show Out.ret _ _ = Out.ret _ _; unfold vF; simp only [*, if_true, if_false, Bool.false_eq_true])
  · skip
    refine r_nil ?_
    show Runs _ _ _ _ _ _ _
    refine r_if (t_cmp (e_var 2 rfl rfl rfl) e_flt o_lt_ff rfl) (fun h41 => ?_) (fun h41 => ?_)
    · skip
      exact r_ret (e_var 1 rfl rfl rfl) (by show Out.ret _ _ = Out.ret _ _; unfold vF; simp only [*, if_true, if_false, Bool.false_eq_true])
    · skip
      refine r_nil ?_
      show Runs _ _ _ _ _ _ _
      refine r_if (t_cmp (e_var 2 rfl rfl rfl) (e_globP (by kernel_rfl) G.twothird rfl) o_lt_fg rfl) (fun h43 => ?_) (fun h43 => ?_)
      · skip
        exact r_ret (e_bin (e_var 0 rfl rfl rfl) (e_bin (e_bin (e_bin (e_var 1 rfl rfl rfl) (e_var 0 rfl rfl rfl) o_sub_ff) (e_bin (e_globP (by kernel_rfl) G.twothird rfl) (e_var 2 rfl rfl rfl) o_sub_gf) o_mul_ff) e_flt o_mul_ff) o_add_ff) (by show Out.ret _ _ = Out.ret _ _; unfold vF; simp only [*, if_true, if_false, Bool.false_eq_true])
      · skip
        refine r_nil ?_
        show Runs _ _ _ _ _ _ _
        exact r_ret (e_var 0 rfl rfl rfl) (by show Out.ret _ _ = Out.ret _ _; unfold vF; simp only [*, if_true, if_false, Bool.false_eq_true])
theorem run_hls {r g b : UInt64} (ok : hlsOk r g b = true) :
    Runs c k (fnFrm (mkFd 4 fx dflt) f L hE ["r", "g", "b", "maxc", "minc", "sumc", "rangec", "l", "s", "rc", "gc", "bc", "h"] X0) [some (.flt r), some (.flt g), some (.flt b), none, none, none, none, none, none, none, none, none, none] none (dBody (stAt 4)) (fun o => o = .ret (tri (hlsF r g b)) false) := by
  refine r_assign 3 (e_cb (by kernel_rfl) (G.nob _ (by decide +kernel)) (by kernel_rfl) (by decide +kernel) rfl (l_cons (e_var 0 rfl rfl rfl) (l_cons (e_var 1 rfl rfl rfl) (l_cons (e_var 2 rfl rfl rfl) l_nil rfl) rfl) rfl) b_max3 rfl (fun _ => ⟨_, _, rfl, rfl⟩) rfl) ⟨rfl, .inl (by kernel_rfl)⟩ (.tail (.tail (.tail .head))) rfl ?_
  refine r_assign 4 (e_cb (by kernel_rfl) (G.nob _ (by decide +kernel)) (by kernel_rfl) (by decide +kernel) rfl (l_cons (e_var 0 rfl rfl rfl) (l_cons (e_var 1 rfl rfl rfl) (l_cons (e_var 2 rfl rfl rfl) l_nil rfl) rfl) rfl) b_min3 rfl (fun _ => ⟨_, _, rfl, rfl⟩) rfl) ⟨rfl, .inl (by kernel_rfl)⟩ (.tail (.tail (.tail (.tail .head)))) rfl ?_
  refine r_assign 5 (e_bin (e_var 3 rfl rfl rfl) (e_var 4 rfl rfl rfl) o_add_ff) ⟨rfl, .inl (by kernel_rfl)⟩ (.tail (.tail (.tail (.tail (.tail .head))))) rfl ?_
  refine r_assign 6 (e_bin (e_var 3 rfl rfl rfl) (e_var 4 rfl rfl rfl) o_sub_ff) ⟨rfl, .inl (by kernel_rfl)⟩ (.tail (.tail (.tail (.tail (.tail (.tail .head)))))) rfl ?_
  refine r_assign 7 (e_bin (e_var 5 rfl rfl rfl) e_flt (o_div_ff (by first | assumption | decide +kernel | lia))) ⟨rfl, .inl (by kernel_rfl)⟩ (.tail (.tail (.tail (.tail (.tail (.tail (.tail .head))))))) rfl ?_
  refine r_if (t_cmp (e_var 4 rfl rfl rfl) (e_var 3 rfl rfl rfl) o_eq_ff rfl) (fun h11 => ?_) (fun h11 => ?_)
  · skip
    exact r_ret (e_tup (l_cons e_flt (l_cons (e_var 7 rfl rfl rfl) (l_cons e_flt l_nil rfl) rfl) rfl) (Nat.le_of_ble_eq_true rfl)) (by show Out.ret _ _ = Out.ret _ _; unfold tri hlsF; simp only [*, if_true, if_false, Bool.false_eq_true])
  · skip
    simp only [hlsOk, h11, Bool.false_or, Bool.and_eq_true, beq_iff_eq] at ok; have hz := ok.1
    refine r_nil ?_
    show Runs _ _ _ _ _ _ _
    refine r_if_setF 8 (t_cmp (e_var 7 rfl rfl rfl) e_flt o_le_ff rfl) (fun h13 => by have hz2 := ok.2; rw [if_pos h13] at hz2; have hz3 := of_beq hz2; exact (e_bin (e_var 6 rfl rfl rfl) (e_var 5 rfl rfl rfl) (o_div_ff (by first | assumption | decide +kernel | lia)))) (fun h13 => by have hz2 := ok.2; rw [if_neg (by rw [h13]; exact Bool.false_ne_true)] at hz2; have hz3 := of_beq hz2; exact (e_bin (e_var 6 rfl rfl rfl) (e_bin (e_bin e_flt (e_var 3 rfl rfl rfl) o_sub_ff) (e_var 4 rfl rfl rfl) o_sub_ff) (o_div_ff (by first | assumption | decide +kernel | lia)))) ⟨rfl, .inl (by kernel_rfl)⟩ (.tail (.tail (.tail (.tail (.tail (.tail (.tail (.tail .head)))))))) rfl rfl ?_
    refine r_assign 9 (e_bin (e_bin (e_var 3 rfl rfl rfl) (e_var 0 rfl rfl rfl) o_sub_ff) (e_var 6 rfl rfl rfl) (o_div_ff (by first | assumption | decide +kernel | lia))) ⟨rfl, .inl (by kernel_rfl)⟩ (.tail (.tail (.tail (.tail (.tail (.tail (.tail (.tail (.tail .head))))))))) rfl ?_
    refine r_assign 10 (e_bin (e_bin (e_var 3 rfl rfl rfl) (e_var 1 rfl rfl rfl) o_sub_ff) (e_var 6 rfl rfl rfl) (o_div_ff (by first | assumption | decide +kernel | lia))) ⟨rfl, .inl (by kernel_rfl)⟩ (.tail (.tail (.tail (.tail (.tail (.tail (.tail (.tail (.tail (.tail .head)))))))))) rfl ?_
    refine r_assign 11 (e_bin (e_bin (e_var 3 rfl rfl rfl) (e_var 2 rfl rfl rfl) o_sub_ff) (e_var 6 rfl rfl rfl) (o_div_ff (by first | assumption | decide +kernel | lia))) ⟨rfl, .inl (by kernel_rfl)⟩ (.tail (.tail (.tail (.tail (.tail (.tail (.tail (.tail (.tail (.tail (.tail .head))))))))))) rfl ?_
    refine r_if_setF3 12 (t_cmp (e_var 0 rfl rfl rfl) (e_var 3 rfl rfl rfl) o_eq_ff rfl) (t_cmp (e_var 1 rfl rfl rfl) (e_var 3 rfl rfl rfl) o_eq_ff rfl) (fun h20 => (e_bin (e_var 11 rfl rfl rfl) (e_var 10 rfl rfl rfl) o_sub_ff)) (fun _ => (e_bin (e_bin e_flt (e_var 9 rfl rfl rfl) o_add_ff) (e_var 11 rfl rfl rfl) o_sub_ff)) (fun _ => (e_bin (e_bin e_flt (e_var 10 rfl rfl rfl) o_add_ff) (e_var 9 rfl rfl rfl) o_sub_ff)) ⟨rfl, .inl (by kernel_rfl)⟩ (.tail (.tail (.tail (.tail (.tail (.tail (.tail (.tail (.tail (.tail (.tail (.tail .head)))))))))))) rfl rfl rfl ?_
    refine r_assign 12 (e_bin (e_bin (e_var 12 rfl rfl rfl) e_flt (o_div_ff (by first | assumption | decide +kernel | lia))) e_flt (o_mod_ff (by first | assumption | decide +kernel | lia))) ⟨rfl, .inl (by kernel_rfl)⟩ (.tail (.tail (.tail (.tail (.tail (.tail (.tail (.tail (.tail (.tail (.tail (.tail .head)))))))))))) rfl ?_
    exact r_ret (e_tup (l_cons (e_var 12 rfl rfl rfl) (l_cons (e_var 7 rfl rfl rfl) (l_cons (e_var 8 rfl rfl rfl) l_nil rfl) rfl) rfl) (Nat.le_of_ble_eq_true rfl)) (by show Out.ret _ _ = Out.ret _ _; unfold tri hlsF; simp only [*, if_true, if_false, Bool.false_eq_true])
theorem run_hsv {r g b : UInt64} (ok : hsvOk r g b = true) :
    Runs c k (fnFrm (mkFd 7 fx dflt) f L hE ["r", "g", "b", "maxc", "minc", "rangec", "v", "s", "rc", "gc", "bc", "h"] X0) [some (.flt r), some (.flt g), some (.flt b), none, none, none, none, none, none, none, none, none] none (dBody (stAt 7)) (fun o => o = .ret (tri (hsvF r g b)) false) := by
  refine r_assign 3 (e_cb (by kernel_rfl) (G.nob _ (by decide +kernel)) (by kernel_rfl) (by decide +kernel) rfl (l_cons (e_var 0 rfl rfl rfl) (l_cons (e_var 1 rfl rfl rfl) (l_cons (e_var 2 rfl rfl rfl) l_nil rfl) rfl) rfl) b_max3 rfl (fun _ => ⟨_, _, rfl, rfl⟩) rfl) ⟨rfl, .inl (by kernel_rfl)⟩ (.tail (.tail (.tail .head))) rfl ?_
  refine r_assign 4 (e_cb (by kernel_rfl) (G.nob _ (by decide +kernel)) (by kernel_rfl) (by decide +kernel) rfl (l_cons (e_var 0 rfl rfl rfl) (l_cons (e_var 1 rfl rfl rfl) (l_cons (e_var 2 rfl rfl rfl) l_nil rfl) rfl) rfl) b_min3 rfl (fun _ => ⟨_, _, rfl, rfl⟩) rfl) ⟨rfl, .inl (by kernel_rfl)⟩ (.tail (.tail (.tail (.tail .head)))) rfl ?_
  refine r_assign 5 (e_bin (e_var 3 rfl rfl rfl) (e_var 4 rfl rfl rfl) o_sub_ff) ⟨rfl, .inl (by kernel_rfl)⟩ (.tail (.tail (.tail (.tail (.tail .head))))) rfl ?_
  refine r_assign 6 (e_var 3 rfl rfl rfl) ⟨rfl, .inl (by kernel_rfl)⟩ (.tail (.tail (.tail (.tail (.tail (.tail .head)))))) rfl ?_
  refine r_if (t_cmp (e_var 4 rfl rfl rfl) (e_var 3 rfl rfl rfl) o_eq_ff rfl) (fun h51 => ?_) (fun h51 => ?_)
  · skip
    exact r_ret (e_tup (l_cons e_flt (l_cons e_flt (l_cons (e_var 6 rfl rfl rfl) l_nil rfl) rfl) rfl) (Nat.le_of_ble_eq_true rfl)) (by show Out.ret _ _ = Out.ret _ _; unfold tri hsvF; simp only [*, if_true, if_false, Bool.false_eq_true])
  · skip
    simp only [hsvOk, h51, Bool.false_or, Bool.and_eq_true, beq_iff_eq] at ok; have hz := ok.1; have hz2 := ok.2
    refine r_nil ?_
    show Runs _ _ _ _ _ _ _
    refine r_assign 7 (e_bin (e_var 5 rfl rfl rfl) (e_var 3 rfl rfl rfl) (o_div_ff (by first | assumption | decide +kernel | lia))) ⟨rfl, .inl (by kernel_rfl)⟩ (.tail (.tail (.tail (.tail (.tail (.tail (.tail .head))))))) rfl ?_
    refine r_assign 8 (e_bin (e_bin (e_var 3 rfl rfl rfl) (e_var 0 rfl rfl rfl) o_sub_ff) (e_var 5 rfl rfl rfl) (o_div_ff (by first | assumption | decide +kernel | lia))) ⟨rfl, .inl (by kernel_rfl)⟩ (.tail (.tail (.tail (.tail (.tail (.tail (.tail (.tail .head)))))))) rfl ?_
    refine r_assign 9 (e_bin (e_bin (e_var 3 rfl rfl rfl) (e_var 1 rfl rfl rfl) o_sub_ff) (e_var 5 rfl rfl rfl) (o_div_ff (by first | assumption | decide +kernel | lia))) ⟨rfl, .inl (by kernel_rfl)⟩ (.tail (.tail (.tail (.tail (.tail (.tail (.tail (.tail (.tail .head))))))))) rfl ?_
    refine r_assign 10 (e_bin (e_bin (e_var 3 rfl rfl rfl) (e_var 2 rfl rfl rfl) o_sub_ff) (e_var 5 rfl rfl rfl) (o_div_ff (by first | assumption | decide +kernel | lia))) ⟨rfl, .inl (by kernel_rfl)⟩ (.tail (.tail (.tail (.tail (.tail (.tail (.tail (.tail (.tail (.tail .head)))))))))) rfl ?_
    refine r_if_setF3 11 (t_cmp (e_var 0 rfl rfl rfl) (e_var 3 rfl rfl rfl) o_eq_ff rfl) (t_cmp (e_var 1 rfl rfl rfl) (e_var 3 rfl rfl rfl) o_eq_ff rfl) (fun h57 => (e_bin (e_var 10 rfl rfl rfl) (e_var 9 rfl rfl rfl) o_sub_ff)) (fun _ => (e_bin (e_bin e_flt (e_var 8 rfl rfl rfl) o_add_ff) (e_var 10 rfl rfl rfl) o_sub_ff)) (fun _ => (e_bin (e_bin e_flt (e_var 9 rfl rfl rfl) o_add_ff) (e_var 8 rfl rfl rfl) o_sub_ff)) ⟨rfl, .inl (by kernel_rfl)⟩ (.tail (.tail (.tail (.tail (.tail (.tail (.tail (.tail (.tail (.tail (.tail .head))))))))))) rfl rfl rfl ?_
    refine r_assign 11 (e_bin (e_bin (e_var 11 rfl rfl rfl) e_flt (o_div_ff (by first | assumption | decide +kernel | lia))) e_flt (o_mod_ff (by first | assumption | decide +kernel | lia))) ⟨rfl, .inl (by kernel_rfl)⟩ (.tail (.tail (.tail (.tail (.tail (.tail (.tail (.tail (.tail (.tail (.tail .head))))))))))) rfl ?_
    exact r_ret (e_tup (l_cons (e_var 11 rfl rfl rfl) (l_cons (e_var 7 rfl rfl rfl) (l_cons (e_var 6 rfl rfl rfl) l_nil rfl) rfl) rfl) (Nat.le_of_ble_eq_true rfl)) (by show Out.ret _ _ = Out.ret _ _; unfold tri hsvF; simp only [*, if_true, if_false, Bool.false_eq_true])
theorem run_unhls {h l s : UInt64} {fv : Addr} (Nv : FnName c "_v" fv) (V : ∀ m1 m2 hue, Fn c k fv [.flt m1, .flt m2, .flt hue] (.flt (vF m1 m2 hue))) :
    Runs c k (fnFrm (mkFd 5 fx dflt) f L hE ["h", "l", "s", "m2", "m1"] X0) [some (.flt h), some (.flt l), some (.flt s), none, none] none (dBody (stAt 5)) (fun o => o = .ret (tri (unhlsF h l s)) false) := by
  refine r_if (t_cmp (e_var 2 rfl rfl rfl) e_flt o_eq_ff rfl) (fun h29 => ?_) (fun h29 => ?_)
  · skip
    exact r_ret (e_tup (l_cons (e_var 1 rfl rfl rfl) (l_cons (e_var 1 rfl rfl rfl) (l_cons (e_var 1 rfl rfl rfl) l_nil rfl) rfl) rfl) (Nat.le_of_ble_eq_true rfl)) (by show Out.ret _ _ = Out.ret _ _; unfold tri unhlsF; simp only [*, if_true, if_false, Bool.false_eq_true])
  · skip
    refine r_nil ?_
    show Runs _ _ _ _ _ _ _
    refine r_if_setF 3 (t_cmp (e_var 1 rfl rfl rfl) e_flt o_le_ff rfl) (fun h31 => by exact (e_bin (e_var 1 rfl rfl rfl) (e_bin e_flt (e_var 2 rfl rfl rfl) o_add_ff) o_mul_ff)) (fun h31 => by exact (e_bin (e_bin (e_var 1 rfl rfl rfl) (e_var 2 rfl rfl rfl) o_add_ff) (e_bin (e_var 1 rfl rfl rfl) (e_var 2 rfl rfl rfl) o_mul_ff) o_sub_ff)) ⟨rfl, .inl (by kernel_rfl)⟩ (.tail (.tail (.tail .head))) rfl rfl ?_
    refine r_assign 4 (e_bin (e_bin e_flt (e_var 1 rfl rfl rfl) o_mul_ff) (e_var 3 rfl rfl rfl) o_sub_ff) ⟨rfl, .inl (by kernel_rfl)⟩ (.tail (.tail (.tail (.tail .head)))) rfl ?_
    exact r_ret (e_tup (l_cons (e_cf Nv (by kernel_rfl) rfl (l_cons (e_var 4 rfl rfl rfl) (l_cons (e_var 3 rfl rfl rfl) (l_cons (e_bin (e_var 0 rfl rfl rfl) (e_globP (by kernel_rfl) G.third rfl) o_add_fg) l_nil rfl) rfl) rfl) (V _ _ _) rfl (fun _ => ⟨_, _, rfl, rfl⟩) rfl) (l_cons (e_cf Nv (by kernel_rfl) rfl (l_cons (e_var 4 rfl rfl rfl) (l_cons (e_var 3 rfl rfl rfl) (l_cons (e_var 0 rfl rfl rfl) l_nil rfl) rfl) rfl) (V _ _ _) rfl (fun _ => ⟨_, _, rfl, rfl⟩) rfl) (l_cons (e_cf Nv (by kernel_rfl) rfl (l_cons (e_var 4 rfl rfl rfl) (l_cons (e_var 3 rfl rfl rfl) (l_cons (e_bin (e_var 0 rfl rfl rfl) (e_globP (by kernel_rfl) G.third rfl) o_sub_fg) l_nil rfl) rfl) rfl) (V _ _ _) rfl (fun _ => ⟨_, _, rfl, rfl⟩) rfl) l_nil rfl) rfl) rfl) (Nat.le_of_ble_eq_true rfl)) (by show Out.ret _ _ = Out.ret _ _; unfold tri unhlsF; simp only [*, if_true, if_false, Bool.false_eq_true])
theorem run_unhsv {h s v : UInt64} (ok : unhsvOk h s = true) :
    Runs c k (fnFrm (mkFd 8 fx dflt) f L hE ["h", "s", "v", "i", "f", "p", "q", "t"] X0) [some (.flt h), some (.flt s), some (.flt v), none, none, none, none, none] none (dBody (stAt 8)) (fun o => o = .ret (tri (unhsvF h s v)) false) := by
  refine r_if (t_cmp (e_var 1 rfl rfl rfl) e_flt o_eq_ff rfl) (fun h66 => ?_) (fun h66 => ?_)
  · skip
    exact r_ret (e_tup (l_cons (e_var 2 rfl rfl rfl) (l_cons (e_var 2 rfl rfl rfl) (l_cons (e_var 2 rfl rfl rfl) l_nil rfl) rfl) rfl) (Nat.le_of_ble_eq_true rfl)) (by show Out.ret _ _ = Out.ret _ _; unfold tri unhsvF; simp only [*, if_true, if_false, Bool.false_eq_true])
  · skip
    simp only [unhsvOk, h66, Bool.false_or, Bool.and_eq_true, beq_iff_eq] at ok; obtain ⟨sg, m, e, hd, ht⟩ := dec_fin ok.1; have hz2 := ok.2; rw [ht] at hz2
    refine r_nil ?_
    show Runs _ _ _ _ _ _ _
    refine r_assign 3 (e_ct (by kernel_rfl) (G.nob _ (by decide +kernel)) (by kernel_rfl) (by decide +kernel) rfl (l_cons (e_bin (e_var 0 rfl rfl rfl) e_flt o_mul_ff) l_nil rfl) (b_int_flt (by first | assumption | decide +kernel | lia)) rfl (fun _ => ⟨_, _, rfl, rfl⟩) rfl) ⟨rfl, .inl (by kernel_rfl)⟩ (.tail (.tail (.tail .head))) rfl ?_
    refine r_assign 4 (e_bin (e_bin (e_var 0 rfl rfl rfl) e_flt o_mul_ff) (e_var 3 rfl rfl rfl) (o_sub_fi (by first | assumption | decide +kernel | lia))) ⟨rfl, .inl (by kernel_rfl)⟩ (.tail (.tail (.tail (.tail .head)))) rfl ?_
    refine r_assign 5 (e_bin (e_var 2 rfl rfl rfl) (e_bin e_flt (e_var 1 rfl rfl rfl) o_sub_ff) o_mul_ff) ⟨rfl, .inl (by kernel_rfl)⟩ (.tail (.tail (.tail (.tail (.tail .head))))) rfl ?_
    refine r_assign 6 (e_bin (e_var 2 rfl rfl rfl) (e_bin e_flt (e_bin (e_var 1 rfl rfl rfl) (e_var 4 rfl rfl rfl) o_mul_ff) o_sub_ff) o_mul_ff) ⟨rfl, .inl (by kernel_rfl)⟩ (.tail (.tail (.tail (.tail (.tail (.tail .head)))))) rfl ?_
    refine r_assign 7 (e_bin (e_var 2 rfl rfl rfl) (e_bin e_flt (e_bin (e_var 1 rfl rfl rfl) (e_bin e_flt (e_var 4 rfl rfl rfl) o_sub_ff) o_mul_ff) o_sub_ff) o_mul_ff) ⟨rfl, .inl (by kernel_rfl)⟩ (.tail (.tail (.tail (.tail (.tail (.tail (.tail .head))))))) rfl ?_
    refine r_assign 3 (e_bin (e_var 3 rfl rfl rfl) e_int (o_mod_ii (by first | assumption | decide +kernel | lia))) ⟨rfl, .inl (by kernel_rfl)⟩ (.tail (.tail (.tail .head))) rfl ?_
    refine r_if (t_cmp (e_var 3 rfl rfl rfl) e_int o_eq_ii rfl) (fun h74 => ?_) (fun h74 => ?_)
    · skip
      exact r_ret (e_tup (l_cons (e_var 2 rfl rfl rfl) (l_cons (e_var 7 rfl rfl rfl) (l_cons (e_var 5 rfl rfl rfl) l_nil rfl) rfl) rfl) (Nat.le_of_ble_eq_true rfl)) (by show Out.ret _ _ = Out.ret _ _; unfold tri unhsvF; simp only [*, if_true, if_false, Bool.false_eq_true])
    · skip
      refine r_nil ?_
      show Runs _ _ _ _ _ _ _
      refine r_if (t_cmp (e_var 3 rfl rfl rfl) e_int o_eq_ii rfl) (fun h76 => ?_) (fun h76 => ?_)
      · skip
        exact r_ret (e_tup (l_cons (e_var 6 rfl rfl rfl) (l_cons (e_var 2 rfl rfl rfl) (l_cons (e_var 5 rfl rfl rfl) l_nil rfl) rfl) rfl) (Nat.le_of_ble_eq_true rfl)) (by show Out.ret _ _ = Out.ret _ _; unfold tri unhsvF; simp only [*, if_true, if_false, Bool.false_eq_true])
      · skip
        refine r_nil ?_
        show Runs _ _ _ _ _ _ _
        refine r_if (t_cmp (e_var 3 rfl rfl rfl) e_int o_eq_ii rfl) (fun h78 => ?_) (fun h78 => ?_)
        · skip
          exact r_ret (e_tup (l_cons (e_var 5 rfl rfl rfl) (l_cons (e_var 2 rfl rfl rfl) (l_cons (e_var 7 rfl rfl rfl) l_nil rfl) rfl) rfl) (Nat.le_of_ble_eq_true rfl)) (by show Out.ret _ _ = Out.ret _ _; unfold tri unhsvF; simp only [*, if_true, if_false, Bool.false_eq_true])
        · skip
          refine r_nil ?_
          show Runs _ _ _ _ _ _ _
          refine r_if (t_cmp (e_var 3 rfl rfl rfl) e_int o_eq_ii rfl) (fun h80 => ?_) (fun h80 => ?_)
          · skip
            exact r_ret (e_tup (l_cons (e_var 5 rfl rfl rfl) (l_cons (e_var 6 rfl rfl rfl) (l_cons (e_var 2 rfl rfl rfl) l_nil rfl) rfl) rfl) (Nat.le_of_ble_eq_true rfl)) (by show Out.ret _ _ = Out.ret _ _; unfold tri unhsvF; simp only [*, if_true, if_false, Bool.false_eq_true])
          · skip
            refine r_nil ?_
            show Runs _ _ _ _ _ _ _
            refine r_if (t_cmp (e_var 3 rfl rfl rfl) e_int o_eq_ii rfl) (fun h82 => ?_) (fun h82 => ?_)
            · skip
              exact r_ret (e_tup (l_cons (e_var 7 rfl rfl rfl) (l_cons (e_var 5 rfl rfl rfl) (l_cons (e_var 2 rfl rfl rfl) l_nil rfl) rfl) rfl) (Nat.le_of_ble_eq_true rfl)) (by show Out.ret _ _ = Out.ret _ _; unfold tri unhsvF; simp only [*, if_true, if_false, Bool.false_eq_true])
            · skip
              refine r_nil ?_
              show Runs _ _ _ _ _ _ _
              refine r_if (t_cmp (e_var 3 rfl rfl rfl) e_int o_eq_ii rfl) (fun h84 => ?_) (fun h84 => ?_)
              · skip
                exact r_ret (e_tup (l_cons (e_var 2 rfl rfl rfl) (l_cons (e_var 5 rfl rfl rfl) (l_cons (e_var 6 rfl rfl rfl) l_nil rfl) rfl) rfl) (Nat.le_of_ble_eq_true rfl)) (by show Out.ret _ _ = Out.ret _ _; unfold tri unhsvF; simp only [*, if_true, if_false, Bool.false_eq_true])
              · skip
                refine r_nil ?_
                show Runs _ _ _ _ _ _ _
                exfalso; rcases fmod6 (Float64.truncOf sg m e) with q | q | q | q | q | q <;> simp [q] at *
end

section
variable {c : Cx} {k : Nat} (G : Glob c) {f : Addr}
include G
theorem fn_v {m1 m2 hue : UInt64} (D : DefAt c 6 f) : Fn c (k + 1) f [.flt m1, .flt m2, .flt hue] (.flt (vF m1 m2 hue)) := by
  obtain ⟨fx, FA⟩ := D
  refine fn_of (ps := ["m1", "m2", "hue"]) (ls := []) (dargs := []) (fr := false) FA rfl (HBind.plain fun vals hl => ?_) rfl (by decide +kernel) ?_ (fun L hE X0 => ?_) (by kernel_rfl) (by kernel_rfl) (by kernel_rfl)
  · obtain ⟨a0, a1, a2, rfl⟩ := len3 hl
    unfold bindArgs; kernel_rfl
  · show ∀ x ∈ (["m1", "m2", "hue"] : List Str), (dScope (stAt 6)).names.lookup x = some .local ∨ ((dScope (stAt 6)).names.lookup x = some .cell ∧ ((cellsFrom 0 (dScope (stAt 6)).names []).lookup x).isSome = true)
    decide +kernel
  · exact run_v G
theorem fn_hls {r g b : UInt64} (ok : hlsOk r g b = true) (D : DefAt c 4 f) : Fn c (k + 1) f [.flt r, .flt g, .flt b] (tri (hlsF r g b)) := by
  obtain ⟨fx, FA⟩ := D
  refine fn_of (ps := ["r", "g", "b"]) (ls := ["maxc", "minc", "sumc", "rangec", "l", "s", "rc", "gc", "bc", "h"]) (dargs := []) (fr := false) FA rfl (HBind.plain fun vals hl => ?_) rfl (by decide +kernel) ?_ (fun L hE X0 => ?_) (by kernel_rfl) (by kernel_rfl) (by kernel_rfl)
  · obtain ⟨a0, a1, a2, rfl⟩ := len3 hl
    unfold bindArgs; kernel_rfl
  · show ∀ x ∈ (["r", "g", "b"] : List Str), (dScope (stAt 4)).names.lookup x = some .local ∨ ((dScope (stAt 4)).names.lookup x = some .cell ∧ ((cellsFrom 0 (dScope (stAt 4)).names []).lookup x).isSome = true)
    decide +kernel
  · exact run_hls G ok
theorem fn_hsv {r g b : UInt64} (ok : hsvOk r g b = true) (D : DefAt c 7 f) : Fn c (k + 1) f [.flt r, .flt g, .flt b] (tri (hsvF r g b)) := by
  obtain ⟨fx, FA⟩ := D
  refine fn_of (ps := ["r", "g", "b"]) (ls := ["maxc", "minc", "rangec", "v", "s", "rc", "gc", "bc", "h"]) (dargs := []) (fr := false) FA rfl (HBind.plain fun vals hl => ?_) rfl (by decide +kernel) ?_ (fun L hE X0 => ?_) (by kernel_rfl) (by kernel_rfl) (by kernel_rfl)
  · obtain ⟨a0, a1, a2, rfl⟩ := len3 hl
    unfold bindArgs; kernel_rfl
  · show ∀ x ∈ (["r", "g", "b"] : List Str), (dScope (stAt 7)).names.lookup x = some .local ∨ ((dScope (stAt 7)).names.lookup x = some .cell ∧ ((cellsFrom 0 (dScope (stAt 7)).names []).lookup x).isSome = true)
    decide +kernel
  · exact run_hsv G ok
theorem fn_unhls {h l s : UInt64} {fv : Addr} (Nv : FnName c "_v" fv) (V : ∀ m1 m2 hue, Fn c k fv [.flt m1, .flt m2, .flt hue] (.flt (vF m1 m2 hue))) (D : DefAt c 5 f) : Fn c (k + 1) f [.flt h, .flt l, .flt s] (tri (unhlsF h l s)) := by
  obtain ⟨fx, FA⟩ := D
  refine fn_of (ps := ["h", "l", "s"]) (ls := ["m2", "m1"]) (dargs := []) (fr := false) FA rfl (HBind.plain fun vals hl => ?_) rfl (by decide +kernel) ?_ (fun L hE X0 => ?_) (by kernel_rfl) (by kernel_rfl) (by kernel_rfl)
  · obtain ⟨a0, a1, a2, rfl⟩ := len3 hl
    unfold bindArgs; kernel_rfl
  · show ∀ x ∈ (["h", "l", "s"] : List Str), (dScope (stAt 5)).names.lookup x = some .local ∨ ((dScope (stAt 5)).names.lookup x = some .cell ∧ ((cellsFrom 0 (dScope (stAt 5)).names []).lookup x).isSome = true)
    decide +kernel
  · exact run_unhls G Nv V
theorem fn_unhsv {h s v : UInt64} (ok : unhsvOk h s = true) (D : DefAt c 8 f) : Fn c (k + 1) f [.flt h, .flt s, .flt v] (tri (unhsvF h s v)) := by
  obtain ⟨fx, FA⟩ := D
  refine fn_of (ps := ["h", "s", "v"]) (ls := ["i", "f", "p", "q", "t"]) (dargs := []) (fr := false) FA rfl (HBind.plain fun vals hl => ?_) rfl (by decide +kernel) ?_ (fun L hE X0 => ?_) (by kernel_rfl) (by kernel_rfl) (by kernel_rfl)
  · obtain ⟨a0, a1, a2, rfl⟩ := len3 hl
    unfold bindArgs; kernel_rfl
  · show ∀ x ∈ (["h", "s", "v"] : List Str), (dScope (stAt 8)).names.lookup x = some .local ∨ ((dScope (stAt 8)).names.lookup x = some .cell ∧ ((cellsFrom 0 (dScope (stAt 8)).names []).lookup x).isSome = true)
    decide +kernel
  · exact run_unhsv G ok
end
end Mine
namespace Mine
open PySem PySem.W PyProof.Rows

/-- r spelled by = and two hexadecimal digits -/
noncomputable def eqHex (r : Nat) : Str := ⟨#[61, hexUp (r / 16), hexUp (r % 16)]⟩
noncomputable def qmapL : List PV := (List.range 256).map fun r => .str (eqHex r)
theorem qmap_get {n : Nat} (h : n < 256) : qmapL[((n : Nat) : Int).toNat]? = some (.str (eqHex n)) := by
  simp [qmapL, h]
theorem slice_hex (r : Nat) : sliceS (eqHex r) (some 1) (some 3) = ⟨#[hexUp (r / 16), hexUp (r % 16)]⟩ := rfl

/-- what parse229 looks at -/
structure P229 (resp : Str) (mark : Nat) (l r : Int) (parts : List Str) (n : Int) : Prop where
  size : resp.length ≤ 1000
  head : (sliceS resp none (some 3) != Str.ofString "229") = false
  left : Txt.find resp "(" = l
  left0 : decide (l < 0) = false
  right : Txt.find3 resp ")" (l + 1) = r
  right0 : decide (r < 0) = false
  rl : (decide (l + 1 < -(2 ^ 63 : Int)) || decide (l + 1 ≥ 2 ^ 63)) = false
  rr : (decide (r - 1 < -(2 ^ 63 : Int)) || decide (r - 1 ≥ 2 ^ 63)) = false
  atl : (seqIndex? (l + 1) resp.length).bind (resp.cps[·]?) = some mark
  atr : (seqIndex? (r - 1) resp.length).bind (resp.cps[·]?) = some mark
  cut : splitS (sliceS resp (some (l + 1)) (some r)) ⟨#[mark]⟩ = parts
  cutsz : (sliceS resp (some (l + 1)) (some r)).length ≤ sizeLine
  len : parts.length = 5
  num : ∃ x, parts[3]? = some x ∧ PySem.intText? x = some n ∧ x.length ≤ 640

section
variable {c : Cx} {k : Nat} (G : Glob c) {f L : Addr} {hE : Heap} {X0 : List Addr} {fx : FX} {dflt : Value}
include G
theorem run_unquote {r : Nat} (h : r < 256) :
    Runs c k (fnFrm (mkFd 23 fx dflt) f L hE ["s"] X0) [some (.str (eqHex r))] none (dBody (stAt 23)) (fun o => o = .ret (.str ⟨#[r]⟩) false) := by
  have hs := slice_hex r
  exact r_ret (e_cb (by kernel_rfl) (G.nob _ (by decide +kernel)) (by kernel_rfl) (by decide +kernel) rfl (l_cons (e_ct (by kernel_rfl) (G.nob _ (by decide +kernel)) (by kernel_rfl) (by decide +kernel) rfl (l_cons (Evals.eq (e_slice_str (e_var 0 rfl rfl rfl) (p_some e_int) (p_some e_int) (Nat.le_of_ble_eq_true rfl)) (congrArg PV.str hs)) (l_cons e_int l_nil rfl) rfl) (b_int16 h) rfl (fun _ => ⟨_, _, rfl, rfl⟩) rfl) l_nil rfl) (b_chr (by simp; lia)) rfl (fun _ => ⟨_, _, rfl, rfl⟩) rfl) rfl
theorem run_quote (Q : GConst c "_QUOPRI_MAP" (.lst qmapL)) {n : Nat} (h : n < 256) :
    Runs c k (fnFrm (mkFd 24 fx dflt) f L hE ["c"] X0) [some (.str ⟨#[n]⟩)] none (dBody (stAt 24)) (fun o => o = .ret (.str (eqHex n)) false) := by
  exact r_ret (e_sub (e_globP (by kernel_rfl) Q rfl) (e_cb (by kernel_rfl) (G.nob _ (by decide +kernel)) (by kernel_rfl) (by decide +kernel) rfl (l_cons (e_var 0 rfl rfl rfl) l_nil rfl) b_ord rfl (fun _ => ⟨_, _, rfl, rfl⟩) rfl) (o_item_list (by lia) (by lia) (qmap_get h) (fun _ _ => rfl))) rfl
theorem run_p229 {resp host : Str} {q : PV} {mark : Nat} {l r n : Int} {parts : List Str} (H : P229 resp mark l r parts n) :
    Runs c k (fnFrm (mkFd 39 fx dflt) f L hE ["resp", "peer", "left", "right", "parts", "host", "port"] X0) [some (.str resp), some (.tup [.str host, q]), none, none, none, none, none] none (dBody (stAt 39)) (fun o => o = .ret (.tup [.str host, .int n]) false) := by
  have sz : resp.length ≤ sizeLine := Nat.le_trans H.size (Nat.le_of_ble_eq_true rfl)
  obtain ⟨px, hp3, hpn, hpl⟩ := H.num
  have hparts : (txts parts)[((3 : Int)).toNat]? = some (.str px) := by
    show (parts.map PV.str)[3]? = _
    rw [List.getElem?_map, hp3]; rfl
  refine r_if_f (Tests.eq (t_cmp (e_slice_str (e_var 0 rfl rfl rfl) p_none (p_some e_int) sz) e_str o_ne_ss rfl) H.head) (r_nil ?_)
  show Runs _ _ _ _ _ _ _
  refine r_assign 2 (Evals.eq (e_smeth PySem.F.slot_str_find PySem.F.type_str_find (e_var 0 rfl rfl rfl) (l_cons e_str l_nil rfl) m_find rfl rfl rfl (fun _ => ⟨_, _, rfl, rfl⟩) rfl) (congrArg PV.int H.left)) ⟨rfl, .inl (by kernel_rfl)⟩ (.tail (.tail .head)) rfl ?_
  refine r_if_f (Tests.eq (t_cmp (e_var 2 rfl rfl rfl) e_int o_lt_ii rfl) H.left0) (r_nil ?_)
  show Runs _ _ _ _ _ _ _
  refine r_assign 3 (Evals.eq (e_smeth PySem.F.slot_str_find PySem.F.type_str_find (e_var 0 rfl rfl rfl) (l_cons e_str (l_cons (e_bin (e_var 2 rfl rfl rfl) e_int o_add_ii) l_nil rfl) rfl) m_find3 rfl rfl rfl (fun _ => ⟨_, _, rfl, rfl⟩) rfl) (congrArg PV.int H.right)) ⟨rfl, .inl (by kernel_rfl)⟩ (.tail (.tail (.tail .head))) rfl ?_
  refine r_if_f (Tests.eq (t_cmp (e_var 3 rfl rfl rfl) e_int o_lt_ii rfl) H.right0) (r_nil ?_)
  show Runs _ _ _ _ _ _ _
  refine r_if_f (Tests.eq (t_cmp (e_sub (e_var 0 rfl rfl rfl) (e_bin (e_var 2 rfl rfl rfl) e_int o_add_ii) (o_item_str H.rl H.atl (fun _ _ => rfl))) (e_sub (e_var 0 rfl rfl rfl) (e_bin (e_var 3 rfl rfl rfl) e_int o_sub_ii) (o_item_str H.rr H.atr (fun _ _ => rfl))) o_ne_ss rfl) (by simp)) (r_nil ?_)
  show Runs _ _ _ _ _ _ _
  refine r_assign 4 (Evals.eq (e_smeth PySem.F.slot_str_split PySem.F.type_str_split (e_slice_str (e_var 0 rfl rfl rfl) (p_some (e_bin (e_var 2 rfl rfl rfl) e_int o_add_ii)) (p_some (e_var 3 rfl rfl rfl)) sz) (l_cons (e_sub (e_var 0 rfl rfl rfl) (e_bin (e_var 2 rfl rfl rfl) e_int o_add_ii) (o_item_str H.rl H.atl (fun _ _ => rfl))) l_nil rfl) (m_split rfl H.cutsz (by rw [H.cut, H.len]; exact Nat.le_of_ble_eq_true rfl)) rfl rfl rfl (fun _ => ⟨_, _, rfl, rfl⟩) rfl) (by rw [H.cut])) ⟨rfl, .inl (by kernel_rfl)⟩ (.tail (.tail (.tail (.tail .head)))) rfl ?_
  refine r_if_f (Tests.eq (t_cmp (e_cb (by kernel_rfl) (G.nob _ (by decide +kernel)) (by kernel_rfl) (by decide +kernel) rfl (l_cons (e_var 4 rfl rfl rfl) l_nil rfl) (b_len_lst (by simp [txts, H.len])) rfl (fun _ => ⟨_, _, rfl, rfl⟩) rfl) e_int o_ne_ii rfl) (by simp [txts, H.len])) (r_nil ?_)
  show Runs _ _ _ _ _ _ _
  refine r_assign 5 (e_sub (e_var 1 rfl rfl rfl) e_int (o_item_tup (n := 0) (by lia) (by lia) rfl rfl (fun _ _ => rfl))) ⟨rfl, .inl (by kernel_rfl)⟩ (.tail (.tail (.tail (.tail (.tail .head))))) rfl ?_
  refine r_assign 6 (e_ct (by kernel_rfl) (G.nob _ (by decide +kernel)) (by kernel_rfl) (by decide +kernel) rfl (l_cons (e_sub (e_var 4 rfl rfl rfl) e_int (o_item_list (by lia) (by lia) hparts (fun _ _ => rfl))) l_nil rfl) (b_int_str hpn hpl) rfl (fun _ => ⟨_, _, rfl, rfl⟩) rfl) ⟨rfl, .inl (by kernel_rfl)⟩ (.tail (.tail (.tail (.tail (.tail (.tail .head)))))) rfl ?_
  exact r_ret (e_tup (l_cons (e_var 5 rfl rfl rfl) (l_cons (e_var 6 rfl rfl rfl) l_nil rfl) rfl) (Nat.le_of_ble_eq_true rfl)) rfl
end

section
variable {c : Cx} {k : Nat} (G : Glob c) {f : Addr}
include G
theorem fn_unquote {r : Nat} (h : r < 256) (D : DefAt c 23 f) : Fn c (k + 1) f [.str (eqHex r)] (.str ⟨#[r]⟩) := by
  obtain ⟨fx, FA⟩ := D
  refine fn_of (ps := ["s"]) (ls := []) (dargs := []) (fr := false) FA rfl (HBind.plain fun vals hl => ?_) rfl (by decide +kernel) ?_ (fun L hE X0 => ?_) (by kernel_rfl) (by kernel_rfl) (by kernel_rfl)
  · obtain ⟨a0, rfl⟩ := len1 hl
    unfold bindArgs; kernel_rfl
  · show ∀ x ∈ (["s"] : List Str), (dScope (stAt 23)).names.lookup x = some .local ∨ ((dScope (stAt 23)).names.lookup x = some .cell ∧ ((cellsFrom 0 (dScope (stAt 23)).names []).lookup x).isSome = true)
    decide +kernel
  · exact run_unquote G h
theorem fn_quote (Q : GConst c "_QUOPRI_MAP" (.lst qmapL)) {n : Nat} (h : n < 256) (D : DefAt c 24 f) : Fn c (k + 1) f [.str ⟨#[n]⟩] (.str (eqHex n)) := by
  obtain ⟨fx, FA⟩ := D
  refine fn_of (ps := ["c"]) (ls := []) (dargs := []) (fr := false) FA rfl (HBind.plain fun vals hl => ?_) rfl (by decide +kernel) ?_ (fun L hE X0 => ?_) (by kernel_rfl) (by kernel_rfl) (by kernel_rfl)
  · obtain ⟨a0, rfl⟩ := len1 hl
    unfold bindArgs; kernel_rfl
  · show ∀ x ∈ (["c"] : List Str), (dScope (stAt 24)).names.lookup x = some .local ∨ ((dScope (stAt 24)).names.lookup x = some .cell ∧ ((cellsFrom 0 (dScope (stAt 24)).names []).lookup x).isSome = true)
    decide +kernel
  · exact run_quote G Q h
theorem fn_p229 {resp host : Str} {q : PV} {mark : Nat} {l r n : Int} {parts : List Str} (H : P229 resp mark l r parts n) (D : DefAt c 39 f) : Fn c (k + 1) f [.str resp, .tup [.str host, q]] (.tup [.str host, .int n]) := by
  obtain ⟨fx, FA⟩ := D
  refine fn_of (ps := ["resp", "peer"]) (ls := ["left", "right", "parts", "host", "port"]) (dargs := []) (fr := false) FA rfl (HBind.plain fun vals hl => ?_) rfl (by decide +kernel) ?_ (fun L hE X0 => ?_) (by kernel_rfl) (by kernel_rfl) (by kernel_rfl)
  · obtain ⟨a0, a1, rfl⟩ := len2 hl
    unfold bindArgs; kernel_rfl
  · show ∀ x ∈ (["resp", "peer"] : List Str), (dScope (stAt 39)).names.lookup x = some .local ∨ ((dScope (stAt 39)).names.lookup x = some .cell ∧ ((cellsFrom 0 (dScope (stAt 39)).names []).lookup x).isSome = true)
    decide +kernel
  · exact run_p229 G H
end
end Mine
namespace Mine
open PySem PySem.W PyProof.Rows

section
variable {c : Cx} {k : Nat} {F : Frm}

/-- a for loop by an invariant over the items that are left -/
theorem forRuns_inv {tgt : Expr} {body : List Stmt} {P₁ : Out → Prop} (I : List PV → List (Option PV) → Ow → Prop)
    (step : ∀ x xs ρ w, I (x :: xs) ρ w → ∃ ρ', Asg c k F tgt x ρ ρ' ∧ Runs c k F ρ' w body (fun o => (∃ r w', (o = .next r w' ∨ o = .cont r w') ∧ Xw F.X0 w' = Xw F.X0 w ∧ I xs r w') ∨ (∃ r w', o = .brk r w' ∧ P₁ (.next r w')) ∨ (∃ p f, o = .ret p f ∧ P₁ (.ret p f))))
    (done : ∀ ρ w, I [] ρ w → P₁ (.next ρ w)) : ∀ (xs : List PV) (ρ : List (Option PV)) (w : Ow), I xs ρ w → ForRuns c k F tgt body P₁ xs ρ w
  | [], ρ, w, h => done ρ w h
  | x :: xs, ρ, w, h => by
    obtain ⟨ρ', ha, hr⟩ := step x xs ρ w h
    refine ⟨ρ', ha, hr.mono fun o ho => ?_⟩
    rcases ho with ⟨r, w', rfl | rfl, hx, hi⟩ | ⟨r, w', rfl, hp⟩ | ⟨p, f, rfl, hp⟩
    · exact ⟨hx, forRuns_inv I step done xs r w' hi⟩
    · exact ⟨hx, forRuns_inv I step done xs r w' hi⟩
    · exact hp
    · exact hp

/-- a while loop by an invariant and a measure -/
theorem whileRuns_inv {test : Expr} {body : List Stmt} {P₁ : Out → Prop} (I : Nat → List (Option PV) → Ow → Prop)
    (step : ∀ n ρ w, I n ρ w → (Tests c k (F.at ρ w) test false ∧ P₁ (.next ρ w)) ∨
      (Tests c k (F.at ρ w) test true ∧ Runs c k F ρ w body (fun o => (∃ m r w', m < n ∧ (o = .next r w' ∨ o = .cont r w') ∧ I m r w') ∨ (∃ r w', o = .brk r w' ∧ P₁ (.next r w')) ∨ (∃ p f, o = .ret p f ∧ P₁ (.ret p f))))) :
    ∀ (n : Nat) (ρ : List (Option PV)) (w : Ow), I n ρ w → WhileRuns c k F test body P₁ ρ w := by
  intro n
  induction n using Nat.strongRecOn with
  | _ n ih =>
    intro ρ w h
    rcases step n ρ w h with ⟨ht, hp⟩ | ⟨ht, hr⟩
    · exact .done ht hp
    · refine .turn _ ht hr (fun r w' ho => ?_) (fun r w' ho => ?_) (fun r w' ho => ?_) fun p f ho => ?_
      · rcases ho with ⟨m, r', w'', hm, e | e, hi⟩ | ⟨_, _, e, _⟩ | ⟨_, _, e, _⟩
        · cases e; exact ih m hm r w' hi
        · cases e
        · cases e
        · cases e
      · rcases ho with ⟨m, r', w'', hm, e | e, hi⟩ | ⟨_, _, e, _⟩ | ⟨_, _, e, _⟩
        · cases e
        · cases e; exact ih m hm r w' hi
        · cases e
        · cases e
      · rcases ho with ⟨m, r', w'', hm, e | e, hi⟩ | ⟨_, _, e, h⟩ | ⟨_, _, e, _⟩
        · cases e
        · cases e
        · cases e; exact h
        · cases e
      · rcases ho with ⟨m, r', w'', hm, e | e, hi⟩ | ⟨_, _, e, _⟩ | ⟨_, _, e, h⟩
        · cases e
        · cases e
        · cases e
        · cases e; exact h
end
end Mine
namespace Mine
open PySem PySem.W PyProof.Rows

/-- how many of two colours have the i-th lamp -/
noncomputable def pairC (one two : Nat) : List Int := (List.range 3).map fun (i : Nat) => Builtin.bitAnd ((one : Int).fdiv (2 ^ i)) 1 + Builtin.bitAnd ((two : Int).fdiv (2 ^ i)) 1
noncomputable def natsL (l : List Nat) : List PV := l.map fun (n : Nat) => PV.int ((n : Nat) : Int)
theorem natsL_cons {n : Nat} {l : List Nat} : natsL (n :: l) = .int (n : Int) :: natsL l := rfl
/-- the mixes of two colours each -/
noncomputable def mixesOf (lt : Nat → Nat → PV) (cs : List Nat) : List PV := cs.flatMap fun (one : Nat) => (cs.filter fun (two : Nat) => decide ((one : Int) < (two : Int))).map (lt one)

theorem mem_range {n : Int} {p : PV} (h : p ∈ rangeL n) : ∃ i : Nat, i < n.toNat ∧ p = .int (i : Int) := by
  unfold rangeL at h
  obtain ⟨i, hi, rfl⟩ := List.mem_map.mp h
  exact ⟨i, List.mem_range.mp hi, rfl⟩
/-- a function of ints, over values -/
noncomputable def onInt (f : Nat → PV) : PV → PV
  | .int i => f i.toNat
  | p => p
theorem map_rangeL (f : Nat → PV) (n : Nat) : ((rangeL (n : Int)).filter fun _ => true).map (onInt f) = (List.range n).map f := by
  unfold rangeL
  rw [List.filter_eq_self.mpr (fun _ _ => rfl), List.map_map]
  rfl

/-- what holds of the loop -/
inductive MixA (cs : List Nat) (high sys : Int) (lt : Nat → Nat → PV) (D : Addr) (xs : List PV) (ρ : List (Option PV)) (w : Ow) : Prop
  | it (rest : List Nat) (x4 : Option PV) (x5 : Option PV) (x6 : Option PV) (l : List PV) (h0 : xs = natsL rest) (h1 : (∀ n ∈ rest, n ∈ cs)) (h2 : ρ = [some (.lst (natsL cs)), some (.int high), some (.int sys), some (.val (.ref D)), x4, x5, x6]) (h3 : w = some (D, l)) (h4 : l ++ (rest.flatMap fun (one : Nat) => (cs.filter fun (two : Nat) => decide ((one : Int) < (two : Int))).map (lt one)) = mixesOf lt cs) : MixA cs high sys lt D xs ρ w
/-- what holds of the loop -/
inductive MixB (cs : List Nat) (high sys : Int) (lt : Nat → Nat → PV) (D : Addr) (one : Nat) (l : List PV) (xs : List PV) (ρ : List (Option PV)) (w : Ow) : Prop
  | it (rs : List Nat) (x5 : Option PV) (x6 : Option PV) (l' : List PV) (h0 : xs = natsL rs) (h1 : (∀ n ∈ rs, n ∈ cs)) (h2 : ρ = [some (.lst (natsL cs)), some (.int high), some (.int sys), some (.val (.ref D)), some (.int (one : Int)), x5, x6]) (h3 : w = some (D, l')) (h4 : l' ++ (rs.filter fun (two : Nat) => decide ((one : Int) < (two : Int))).map (lt one) = l ++ (cs.filter fun (two : Nat) => decide ((one : Int) < (two : Int))).map (lt one)) : MixB cs high sys lt D one l xs ρ w
section
variable {c : Cx} {k : Nat} (G : Glob c) {f L : Addr} {hE : Heap} {X0 : List Addr} {fx : FX} {dflt : Value}
include G

set_option maxHeartbeats 1000000 in
theorem run_mixes {cs : List Nat} {high sys : Int} {fl : Addr} {lt : Nat → Nat → PV} (Nl : FnName c "_law_light" fl) (LT : ∀ one ∈ cs, ∀ two ∈ cs, one < two → Fn c k fl [.lst (intsL (pairC one two)), .int high, .int sys] (lt one two)) (hsz : (mixesOf lt cs).length ≤ sizeLine) :
    Runs c k (fnFrm (mkFd 43 fx dflt) f L hE ["colours", "high", "by_lightness", "lights", "one", "two", "counts"] X0)
      [some (.lst (natsL cs)), some (.int high), some (.int sys), none, none, none, none] none (dBody (stAt 43)) (fun o => o = .ret (.lst (mixesOf lt cs)) true) := by
  refine r_new 3 ⟨rfl, .inl (by kernel_rfl)⟩ rfl fun D => ?_
  refine r_for (ie_list (e_var 0 rfl rfl rfl)) (forRuns_inv (fun xs ρ w => MixA cs high sys lt D xs ρ w) ?_ ?_ _ _ _ ⟨cs, none, none, none, [], rfl, fun _ h => h, rfl, rfl, rfl⟩) (fun _ => rfl)
  · rintro x xs ρ w ⟨rest, x4, x5, x6, l, e, hsub, rfl, rfl, htot⟩
    cases rest with
    | nil => cases e
    | cons one rest =>
      rw [natsL_cons] at e
      injection e with e1 e2
      subst e1; subst e2
      refine ⟨_, asg_name 4 ⟨rfl, .inr ⟨by kernel_rfl, by kernel_rfl⟩⟩ (.tail (.tail (.tail (.tail .head)))), ?_⟩
      have hone := hsub one List.mem_cons_self
      refine r_for (ie_list (e_var 0 rfl rfl rfl)) (forRuns_inv (fun xs ρ w => MixB cs high sys lt D one l xs ρ w) ?_ ?_ _ _ _ ⟨cs, x5, x6, l, rfl, fun _ h => h, rfl, rfl, rfl⟩) (fun _ => rfl)
      · rintro x xs' ρ w ⟨rs, x5, x6, l', e, hsub', rfl, rfl, htot'⟩
        cases rs with
        | nil => cases e
        | cons two rs =>
          rw [natsL_cons] at e
          injection e with e1 e2
          subst e1; subst e2
          refine ⟨_, asg_name 5 ⟨rfl, .inr ⟨by kernel_rfl, by kernel_rfl⟩⟩ (.tail (.tail (.tail (.tail (.tail .head))))), ?_⟩
          have htwo := hsub' two List.mem_cons_self
          refine r_if (t_cmp (e_var 4 rfl rfl rfl) (e_var 5 rfl rfl rfl) o_lt_ii rfl) (fun hb => ?_) (fun hb => ?_)
          · refine r_assign_comp 6 (x := "i") (oc := false) (fvs := ["one", "two"]) (vals := [some (.int (one : Int)), some (.int (two : Int))])
              ⟨by kernel_rfl, by kernel_rfl, by kernel_rfl, fun n acc => by kernel_rfl, fun h => by kernel_rfl, by kernel_rfl, by kernel_rfl, by decide +kernel, by kernel_rfl⟩
              (.cons 4 rfl rfl (.cons 5 rfl rfl .nil))
              (ie_range (e_bui (by kernel_rfl) (G.nob _ (by decide +kernel)) (by kernel_rfl) (by decide +kernel) rfl) e_int (by decide) (by decide) rfl rfl)
              (fun _ => true) (onInt fun i => .int (Builtin.bitAnd ((one : Int).fdiv (2 ^ i)) 1 + Builtin.bitAnd ((two : Int).fdiv (2 ^ i)) 1)) (Nat.le_of_ble_eq_true rfl) (fun p hp L hE w' => ?_) (fun _ => rfl)
              (l := intsL (pairC one two)) ?_ rfl ⟨rfl, .inl (by kernel_rfl)⟩ (.tail (.tail (.tail (.tail (.tail (.tail .head)))))) ?_
            · obtain ⟨i, hi, rfl⟩ := mem_range hp
              exact ⟨ta_nil, fun _ => e_bin (e_bin (e_bin (e_var 1 rfl rfl rfl) (e_var 0 rfl rfl rfl) (o_shr_ii (by lia))) e_int o_and_ii) (e_bin (e_bin (e_var 2 rfl rfl rfl) (e_var 0 rfl rfl rfl) (o_shr_ii (by lia))) e_int o_and_ii) o_add_ii⟩
            · rfl
            · refine r_append 3 rfl rfl rfl (e_cf Nl (by kernel_rfl) rfl (l_cons (e_var 6 rfl rfl rfl) (l_cons (e_var 1 rfl rfl rfl) (l_cons (e_var 2 rfl rfl rfl) l_nil rfl) rfl) rfl) (LT one hone two htwo (by have := of_decide_eq_true hb; lia)) rfl (fun _ => ⟨_, _, rfl, rfl⟩) rfl) ?_ rfl rfl rfl rfl rfl ?_
              · have h1 := congrArg List.length htot'
                have h2 := congrArg List.length htot
                simp only [List.length_append, List.flatMap_cons] at h1 h2
                lia
              · refine r_nil ?_
                show Runs _ _ _ _ _ _ _
                refine r_nil (.inl ⟨_, _, .inl rfl, rfl, rs, _, _, _, rfl, fun n hn => hsub' n (List.mem_cons_of_mem _ hn), rfl, rfl, ?_⟩)
                rw [← htot', List.filter_cons, hb]
                simp
          · refine r_nil ?_
            show Runs _ _ _ _ _ _ _
            refine r_nil (.inl ⟨_, _, .inl rfl, rfl, rs, _, _, _, rfl, fun n hn => hsub' n (List.mem_cons_of_mem _ hn), rfl, rfl, ?_⟩)
            rw [← htot', List.filter_cons, hb]
            simp
      · rintro ρ w ⟨rs, x5, x6, l', e, _, rfl, rfl, htot'⟩
        cases rs with
        | cons _ _ => cases e
        | nil =>
          show Runs _ _ _ _ _ _ _
          refine r_nil (.inl ⟨_, _, .inl rfl, rfl, rest, _, _, _, _, rfl, fun n hn => hsub n (List.mem_cons_of_mem _ hn), rfl, rfl, ?_⟩)
          rw [← htot]
          simp only [List.filter_nil, List.map_nil, List.append_nil] at htot'
          rw [htot', List.flatMap_cons, List.append_assoc]
  · rintro ρ w ⟨rest, x4, x5, x6, l, e, _, rfl, rfl, htot⟩
    cases rest with
    | cons _ _ => cases e
    | nil =>
      have e : l = mixesOf lt cs := by simpa using htot
      subst e
      show Runs _ _ _ _ _ _ _
      exact r_ret_own 3 rfl rfl rfl rfl
end
end Mine
namespace Mine
open PySem PySem.W PyProof.Rows

noncomputable def stepOf (i : Nat) : Int := 1 + 16 * Builtin.bitAnd (i : Int) 1 + 256 * Builtin.bitAnd ((i : Int).fdiv 2) 1 + 4096 * (i : Int).fdiv 4
noncomputable def stepsL : List Int := (List.range 8).map stepOf
noncomputable def twinCodes : List Int := stepsL.foldl (fun cs s => cs ++ cs.map (· + s)) [0]
theorem twin_len : twinCodes.length = 256 := by decide +kernel
noncomputable def twinsOf (due : Int) : List Int := ((List.range 256).filter fun r => twinCodes.getD r 0 == due).map fun (r : Nat) => ((r : Nat) : Int)

theorem intsL_cons {n : Int} {l : List Int} : intsL (n :: l) = .int n :: intsL l := rfl
theorem intsL_app {l m : List Int} : intsL l ++ intsL m = intsL (l ++ m) := by simp [intsL]
theorem intsL_len {l : List Int} : (intsL l).length = l.length := by simp [intsL]
theorem mem_intsL {l : List Int} {p : PV} (h : p ∈ intsL l) : ∃ n ∈ l, p = .int n := by
  obtain ⟨n, hn, rfl⟩ := List.mem_map.mp h
  exact ⟨n, hn, rfl⟩
noncomputable def onI (f : Int → PV) : PV → PV
  | .int i => f i
  | p => p
theorem map_intsL (f : Int → PV) (l : List Int) : ((intsL l).filter fun _ => true).map (onI f) = l.map f := by
  unfold intsL
  rw [List.filter_eq_self.mpr (fun _ _ => rfl), List.map_map]
  rfl
theorem fold_len (l : List Int) : ∀ cur : List Int, (l.foldl (fun cs s => cs ++ cs.map (· + s)) cur).length = cur.length * 2 ^ l.length := by
  induction l with
  | nil => intro cur; simp
  | cons s l ih => intro cur; rw [List.foldl_cons, ih]; simp [Nat.pow_succ]; rw [← Nat.mul_two, Nat.mul_assoc, Nat.mul_comm 2]

noncomputable def isIntP (f : Int → Bool) : PV → Bool
  | .int i => f i
  | _ => false

/-- what holds of the loop -/
inductive TwinA (count a b d : Int) (xs : List PV) (ρ : List (Option PV)) (w : Ow) : Prop
  | it (rest : List Int) (cur : List Int) (x3 : Option PV) (h0 : xs = intsL rest) (h1 : ρ = [some (.int count), some (.lst (intsL [a, b, d])), some (.lst (intsL cur)), x3, none]) (h2 : w = none) (h3 : rest.foldl (fun cs s => cs ++ cs.map (· + s)) cur = twinCodes) : TwinA count a b d xs ρ w
section
variable {c : Cx} {k : Nat} (G : Glob c) {f L : Addr} {hE : Heap} {X0 : List Addr} {fx : FX} {dflt : Value}
include G

set_option maxHeartbeats 1000000 in
theorem run_twins {count a b d : Int} : 
    Runs c k (fnFrm (mkFd 44 fx dflt) f L hE ["count", "counts", "codes", "step", "due"] X0)
      [some (.int count), some (.lst (intsL [a, b, d])), none, none, none] none (dBody (stAt 44)) (fun o => o = .ret (.lst (intsL (twinsOf (count + 16 * a + 256 * b + 4096 * d)))) false) := by
  refine r_assign 2 (e_lst (l_cons e_int l_nil rfl) (Nat.le_of_ble_eq_true rfl)) ⟨rfl, .inr ⟨by kernel_rfl, by kernel_rfl⟩⟩ (.tail (.tail .head)) rfl ?_
  refine r_for (xs := intsL stepsL) (ie_list (e_comp (x := "k") (oc := false) (fvs := []) (vals := [])
      ⟨by kernel_rfl, by kernel_rfl, by kernel_rfl, fun n acc => by kernel_rfl, fun h => by kernel_rfl, by kernel_rfl, by kernel_rfl, by decide +kernel, by kernel_rfl⟩ .nil
      (ie_range (e_bui (by kernel_rfl) (G.nob _ (by decide +kernel)) (by kernel_rfl) (by decide +kernel) rfl) e_int (by decide) (by decide) rfl rfl)
      (fun _ => true) (onInt fun i => .int (stepOf i)) (Nat.le_of_ble_eq_true rfl) (fun p hp L hE w' => ?_) (fun _ => rfl) ((map_rangeL _ 8).trans (by unfold stepsL intsL; rw [List.map_map]; rfl))))
    (forRuns_inv (fun xs ρ w => TwinA count a b d xs ρ w) ?_ ?_ _ _ _ ⟨stepsL, [0], none, rfl, rfl, rfl, rfl⟩) (fun _ => rfl)
  · obtain ⟨i, hi, rfl⟩ := mem_range hp
    exact ⟨ta_nil, fun _ => e_bin (e_bin (e_bin e_int (e_bin e_int (e_bin (e_var 0 rfl rfl rfl) e_int o_and_ii) (o_mul_ii (by decide))) o_add_ii) (e_bin e_int (e_bin (e_bin (e_var 0 rfl rfl rfl) e_int (o_shr_ii (by decide))) e_int o_and_ii) (o_mul_ii (by decide))) o_add_ii) (e_bin e_int (e_bin (e_var 0 rfl rfl rfl) e_int (o_shr_ii (by decide))) (o_mul_ii (by decide))) o_add_ii⟩
  · rintro x xs ρ w ⟨rest, cur, x3, e, rfl, rfl, htot⟩
    cases rest with
    | nil => cases e
    | cons st rest =>
      rw [intsL_cons] at e
      injection e with e1 e2
      subst e1; subst e2
      have hl : (cur ++ cur.map (· + st)).length ≤ 256 := by
        have := congrArg List.length htot
        rw [List.foldl_cons, fold_len, twin_len] at this
        have hp : 0 < 2 ^ rest.length := Nat.pow_pos (by decide)
        have := Nat.le_mul_of_pos_right (cur ++ cur.map (· + st)).length hp
        lia
      refine ⟨_, asg_name 3 ⟨rfl, .inr ⟨by kernel_rfl, by kernel_rfl⟩⟩ (.tail (.tail (.tail .head))), ?_⟩
      refine r_assign 2 (Evals.eq (e_bin (e_var 2 rfl rfl rfl) (e_comp (x := "code") (oc := false) (fvs := ["step"]) (vals := [some (.int st)])
          ⟨by kernel_rfl, by kernel_rfl, by kernel_rfl, fun n acc => by kernel_rfl, fun h => by kernel_rfl, by kernel_rfl, by kernel_rfl, by decide +kernel, by kernel_rfl⟩ (.cons 3 rfl rfl .nil)
          (ie_list (e_var 2 rfl rfl rfl)) (fun _ => true) (onI fun n => .int (n + st)) (by rw [intsL_len]; simp at hl; exact Nat.le_trans (by lia) (show 256 ≤ sizeLine from Nat.le_of_ble_eq_true rfl)) (fun p hp L hE w' => ?_) (fun _ => rfl) (l := intsL (cur.map (· + st))) ?_)
          (o_add_ll (by rw [intsL_len, intsL_len]; simp at hl ⊢; exact Nat.le_trans hl (show 256 ≤ sizeLine from Nat.le_of_ble_eq_true rfl)))) (congrArg PV.lst intsL_app)) ⟨rfl, .inr ⟨by kernel_rfl, by kernel_rfl⟩⟩ (.tail (.tail .head)) rfl ?_
      · obtain ⟨n, hn, rfl⟩ := mem_intsL hp
        exact ⟨ta_nil, fun _ => e_bin (e_var 0 rfl rfl rfl) (e_var 1 rfl rfl rfl) o_add_ii⟩
      · rw [map_intsL]; unfold intsL; rw [List.map_map]; rfl
      · exact r_nil (.inl ⟨_, _, .inl rfl, rfl, rest, _, _, rfl, rfl, rfl, htot⟩)
  · rintro ρ w ⟨rest, cur, x3, e, rfl, rfl, htot⟩
    cases rest with
    | cons _ _ => cases e
    | nil =>
      have e : cur = twinCodes := htot
      subst e
      show Runs _ _ _ _ _ _ _
      refine r_assign 4 (e_bin (e_bin (e_bin (e_var 0 rfl rfl rfl) (e_bin e_int (e_sub (e_var 1 rfl rfl rfl) e_int (o_item_list (p := .int a) (by decide) (by decide) rfl (fun _ _ => rfl))) (o_mul_ii (by decide))) o_add_ii)
        (e_bin e_int (e_sub (e_var 1 rfl rfl rfl) e_int (o_item_list (p := .int b) (by decide) (by decide) rfl (fun _ _ => rfl))) (o_mul_ii (by decide))) o_add_ii)
        (e_bin e_int (e_sub (e_var 1 rfl rfl rfl) e_int (o_item_list (p := .int d) (by decide) (by decide) rfl (fun _ _ => rfl))) (o_mul_ii (by decide))) o_add_ii) ⟨rfl, .inr ⟨by kernel_rfl, by kernel_rfl⟩⟩ (.tail (.tail (.tail (.tail .head)))) rfl ?_
      refine r_ret (e_comp (x := "rule") (oc := false) (fvs := ["codes", "due"]) (vals := [some (.lst (intsL twinCodes)), some (.int (count + 16 * a + 256 * b + 4096 * d))])
          ⟨by kernel_rfl, by kernel_rfl, by kernel_rfl, fun n acc => by kernel_rfl, fun h => by kernel_rfl, by kernel_rfl, by kernel_rfl, by decide +kernel, by kernel_rfl⟩ (.cons 2 rfl rfl (.cons 4 rfl rfl .nil))
          (ie_range (e_bui (by kernel_rfl) (G.nob _ (by decide +kernel)) (by kernel_rfl) (by decide +kernel) rfl) e_int (by decide) (by decide) rfl rfl)
          (isIntP fun i => twinCodes.getD i.toNat 0 == count + 16 * a + 256 * b + 4096 * d) (fun p => p) (by unfold rangeL; rw [List.length_map, List.length_range]; exact Nat.le_of_ble_eq_true rfl) (fun p hp L hE w' => ?_) (fun _ => rfl) ?_) rfl
      · obtain ⟨i, hi, rfl⟩ := mem_range hp
        have hi : i < 256 := hi
        have hget : (intsL twinCodes)[((i : Nat) : Int).toNat]? = some (.int (twinCodes.getD i 0)) := by
          have hlt : i < twinCodes.length := by rw [twin_len]; exact hi
          show (twinCodes.map PV.int)[i]? = _
          rw [List.getElem?_map, List.getD_eq_getElem?_getD]
          simp [hlt]
        exact ⟨ta_one (t_cmp (e_sub (e_var 1 rfl rfl rfl) (e_var 0 rfl rfl rfl) (o_item_list (by lia) (by lia) hget (fun _ _ => rfl))) (e_var 2 rfl rfl rfl) o_eq_ii rfl), fun _ => e_var 0 rfl rfl rfl⟩
      · unfold rangeL twinsOf intsL
        rw [List.filter_map, List.map_map, List.map_map]
        rfl
end
end Mine
namespace Mine
open PySem PySem.W PyProof.Rows

/-- a quotient of two ints, as a float -/
noncomputable def qF (a b : Int) : UInt64 := Float64.ofFrac (decide (a < 0) != decide (b < 0)) a.natAbs b.natAbs
noncomputable def min2 (a b : Int) : Int := if b < a then b else a
noncomputable def max2 (a b : Int) : Int := if a < b then b else a
noncomputable def finF (x : UInt64) : Bool := match Float64.decode x with | .fin _ _ _ => true | _ => false
theorem fin_of {x : UInt64} (h : finF x = true) : ∃ sg m e, Float64.decode x = .fin sg m e ∧ truncF x = Float64.truncOf sg m e := dec_fin h
noncomputable def wayOf (place apart ring : Int) (i : Nat) : Int := min2 ((place - 2 * (i : Int) * apart).fmod ring) ((2 * (i : Int) * apart - place).fmod ring)
noncomputable def wheelOf (bottom apart way : Int) : Int := bottom + min2 apart (max2 0 (2 * apart - way))
noncomputable def toldOf (x : UInt64) : Int := (truncF (Float64.mul x (Float64.ofInt 512)) + 1).fdiv 2

/-- what _law_light looks at, the colour model's answer aside -/
structure LitTail (na nb nd : Int) (hue share level due : UInt64) (space : Int) (back : UInt64 × UInt64 × UInt64) : Prop where
  lvl : (Float64.cmp level due != some .eq) = false
  apart0 : maxL [na, nb, nd] - minL [na, nb, nd] ≠ 0 → (space == 0) = false ∧ Float64.isInf (qF (maxL [na, nb, nd] - minL [na, nb, nd]) space) = false ∧ (Float64.cmp share (qF (maxL [na, nb, nd] - minL [na, nb, nd]) space) != some .eq) = false
  grey : maxL [na, nb, nd] - minL [na, nb, nd] = 0 → (Float64.cmpInt share 0 != some .eq) = false ∧ (Float64.cmpInt hue 0 != some .eq) = false
  inf12 : Float64.isInf (Float64.ofInt 12) = false
  infA : Float64.isInf (Float64.ofInt (maxL [na, nb, nd] - minL [na, nb, nd])) = false
  inf512 : Float64.isInf (Float64.ofInt 512) = false
  finP : finF (Float64.mul (Float64.mul hue (Float64.ofInt 12)) (Float64.ofInt (maxL [na, nb, nd] - minL [na, nb, nd]))) = true
  apartB : -(2 ^ 62) < maxL [na, nb, nd] - minL [na, nb, nd] ∧ maxL [na, nb, nd] - minL [na, nb, nd] < 2 ^ 62
  finB : finF (Float64.mul back.1 (Float64.ofInt 512)) = true ∧ finF (Float64.mul back.2.1 (Float64.ofInt 512)) = true ∧ finF (Float64.mul back.2.2 (Float64.ofInt 512)) = true
  wheel : (List.range 3).map (fun i => wheelOf (minL [na, nb, nd]) (maxL [na, nb, nd] - minL [na, nb, nd])
      (wayOf ((truncF (Float64.mul (Float64.mul hue (Float64.ofInt 12)) (Float64.ofInt (maxL [na, nb, nd] - minL [na, nb, nd]))) + 1).fdiv 2) (maxL [na, nb, nd] - minL [na, nb, nd]) (if maxL [na, nb, nd] - minL [na, nb, nd] != 0 then 6 * (maxL [na, nb, nd] - minL [na, nb, nd]) else 1) i)) = [na, nb, nd]
  told : [toldOf back.1, toldOf back.2.1, toldOf back.2.2] = [na, nb, nd]

theorem pvEq_ints : ∀ l m : List Int, pvEqs (intsL l) (intsL m) = (l == m)
  | [], [] => rfl
  | [], b :: m => rfl
  | a :: l, [] => rfl
  | a :: l, b :: m => by
    show ((a == b) && pvEqs (intsL l) (intsL m)) = _
    rw [pvEq_ints l m]; rfl
theorem eqOk_ints : ∀ l m : List Int, eqOks (intsL l) (intsL m) = true
  | [], [] => rfl
  | [], b :: m => rfl
  | a :: l, [] => rfl
  | a :: l, b :: m => by
    show (true && eqOks (intsL l) (intsL m)) = _
    rw [eqOk_ints l m]; rfl
theorem dep_ints : ∀ l : List Int, pvDeps (intsL l) = 0
  | [] => rfl
  | a :: l => by
    show max 0 (pvDeps (intsL l)) = 0
    rw [dep_ints l]; rfl

noncomputable abbrev LN : List Str := ["counts", "high", "by_lightness", "numbers", "top", "bottom", "apart", "red", "green", "blue", "hue", "level", "share", "back", "due", "space", "place", "ring", "ways", "wheel", "told"]

section
variable {c : Cx} {k : Nat} (G : Glob c) {f L : Addr} {hE : Heap} {X0 : List Addr} {fx : FX} {dflt : Value}
include G

/-- the last five statements -/
theorem run_light_tail {cs : PV} {high sys red green blue na nb nd : Int} {hue share level due : UInt64} {space : Int} {back : UInt64 × UInt64 × UInt64} {x7 x8 x9 : Option PV} (H : LitTail na nb nd hue share level due space back) :
    Runs c k (fnFrm (mkFd 42 fx dflt) f L hE LN X0)
      [some cs, some (.int high), some (.int sys), some (.lst (intsL [na, nb, nd])), some (.int (maxL [na, nb, nd])), some (.int (minL [na, nb, nd])), some (.int (maxL [na, nb, nd] - minL [na, nb, nd])), x7, x8, x9,
        some (.flt hue), some (.flt level), some (.flt share), some (tri back), some (.flt due), some (.int space), none, none, none, none, none] none ((dBody (stAt 42)).drop 4) (fun o => o = .ret (.tup [.flt hue, .flt share, .flt level]) false) := by
  obtain ⟨hlvl, hap0, hgrey, h12, hinfA, h512, hfinP, hB, hfinB, hwheel, htold⟩ := H
  generalize hap : maxL [na, nb, nd] - minL [na, nb, nd] = apart at *
  generalize hbot : minL [na, nb, nd] = bottom at *
  obtain ⟨sg, m, e, hd, hp⟩ := fin_of hfinP
  rw [hp] at hwheel
  generalize hpl : (Float64.truncOf sg m e + 1).fdiv 2 = place at *
  generalize hrg : (if (apart != 0) = true then 6 * apart else 1) = ring at *
  have hring0 : ring ≠ 0 := by
    rw [← hrg]
    by_cases ha : apart = 0
    · simp [ha]
    · simp [ha]
  refine r_if_f ?_ (r_nil ?_)
  · by_cases ha : apart = 0
    · have hA : (apart != 0) = false := by simp [ha]
      obtain ⟨g1, g2⟩ := hgrey ha
      exact Tests.eq (t_or (t_cmp (e_var 11 rfl rfl rfl) (e_var 14 rfl rfl rfl) o_ne_ff rfl) fun _ => (t_or (t_cmp (e_var 12 rfl rfl rfl) (e_ite (t_plain (e_var 6 rfl rfl rfl) tr_int (fun _ => rfl)) (fun h => absurd (hA.symm.trans h) (by decide)) (fun _ => e_int)) o_ne_fi rfl) fun _ => (t_or (t_and (t_cmp (e_var 6 rfl rfl rfl) e_int o_eq_ii rfl) fun _ => (t_and (t_cmp (e_var 10 rfl rfl rfl) e_int o_ne_fi rfl) fun _ => t_and_nil)) fun _ => t_or_nil))) (by rw [hlvl, g1, g2]; simp)
    · have hA : (apart != 0) = true := by simp [ha]
      obtain ⟨hs1, hs2, hs3⟩ := hap0 ha
      have hA0 : (apart == 0) = false := by simp [ha]
      have hs3' : (Float64.cmp share (Float64.ofFrac (decide (apart < 0) != decide (space < 0)) apart.natAbs space.natAbs) != some .eq) = false := hs3
      exact Tests.eq (t_or (t_cmp (e_var 11 rfl rfl rfl) (e_var 14 rfl rfl rfl) o_ne_ff rfl) fun _ => (t_or (t_cmp (e_var 12 rfl rfl rfl) (e_ite (t_plain (e_var 6 rfl rfl rfl) tr_int (fun _ => rfl)) (fun _ => e_bin (e_var 6 rfl rfl rfl) (e_var 15 rfl rfl rfl) (o_div_ii hs1 hs2)) (fun h => absurd (hA.symm.trans h) (by decide))) o_ne_ff rfl) fun _ => (t_or (t_and (t_cmp (e_var 6 rfl rfl rfl) e_int o_eq_ii rfl) fun _ => (t_and (t_cmp (e_var 10 rfl rfl rfl) e_int o_ne_fi rfl) fun _ => t_and_nil)) fun _ => t_or_nil))) (by rw [hlvl, hs3', hA0]; simp)
  show Runs _ _ _ _ _ _ _
  refine r_unpack (p := .tup [.int place, .int ring]) (e_tup (l_cons (Evals.eq (e_bin (e_bin (e_ct (by kernel_rfl) (G.nob _ (by decide +kernel)) (by kernel_rfl) (by decide +kernel) rfl (l_cons (e_bin (e_bin (e_var 10 rfl rfl rfl) e_int (o_mul_fi h12)) (e_var 6 rfl rfl rfl) (o_mul_fi hinfA)) l_nil rfl) (b_int_flt hd) rfl (fun _ => ⟨_, _, rfl, rfl⟩) rfl) e_int o_add_ii) e_int (o_fdiv_ii (by decide) (by decide))) (congrArg PV.int hpl)) (l_cons ?_ l_nil rfl) rfl) (Nat.le_of_ble_eq_true rfl))
    (asg_tup Pack.tup (.cons (asg_name 16 ⟨rfl, .inr ⟨by kernel_rfl, by kernel_rfl⟩⟩ (.tail (.tail (.tail (.tail (.tail (.tail (.tail (.tail (.tail (.tail (.tail (.tail (.tail (.tail (.tail (.tail .head))))))))))))))))) rfl (.cons (asg_name 17 ⟨rfl, .inr ⟨by kernel_rfl, by kernel_rfl⟩⟩ (.tail (.tail (.tail (.tail (.tail (.tail (.tail (.tail (.tail (.tail (.tail (.tail (.tail (.tail (.tail (.tail (.tail .head)))))))))))))))))) rfl .nil))) rfl (by kernel_rfl) ?_
  · by_cases ha : apart = 0
    · have hA : (apart != 0) = false := by simp [ha]
      refine e_ite (t_plain (e_var 6 rfl rfl rfl) tr_int (fun _ => rfl)) (fun h => absurd (hA.symm.trans h) (by decide)) (fun _ => Evals.eq e_int ?_)
      rw [← hrg, hA]; rfl
    · have hA : (apart != 0) = true := by simp [ha]
      refine e_ite (t_plain (e_var 6 rfl rfl rfl) tr_int (fun _ => rfl)) (fun _ => Evals.eq (e_bin e_int (e_var 6 rfl rfl rfl) (o_mul_ii (by decide))) ?_) (fun h => absurd (hA.symm.trans h) (by decide))
      rw [← hrg, hA]; rfl
  refine r_assign_comp 18 (x := "i") (oc := false) (fvs := ["place", "apart", "ring"]) (vals := [some (.int place), some (.int apart), some (.int ring)])
    ⟨by kernel_rfl, by kernel_rfl, by kernel_rfl, fun n acc => by kernel_rfl, fun h => by kernel_rfl, by kernel_rfl, by kernel_rfl, by decide +kernel, by kernel_rfl⟩ (.cons 16 rfl rfl (.cons 6 rfl rfl (.cons 17 rfl rfl .nil)))
    (ie_range (e_bui (by kernel_rfl) (G.nob _ (by decide +kernel)) (by kernel_rfl) (by decide +kernel) rfl) e_int (by decide) (by decide) rfl rfl)
    (fun _ => true) (onInt fun i => .int (wayOf place apart ring i)) (Nat.le_of_ble_eq_true rfl) (fun p hp L hE w' => ?_) (fun _ => rfl)
    (l := intsL ((List.range 3).map (wayOf place apart ring))) rfl rfl ⟨rfl, .inl (by kernel_rfl)⟩ (.tail (.tail (.tail (.tail (.tail (.tail (.tail (.tail (.tail (.tail (.tail (.tail (.tail (.tail (.tail (.tail (.tail (.tail .head)))))))))))))))))) ?_
  · obtain ⟨i, hi, rfl⟩ := mem_range hp
    have hi : i < 3 := hi
    exact ⟨ta_nil, fun _ => (e_cb (by kernel_rfl) (G.nob _ (by decide +kernel)) (by kernel_rfl) (by decide +kernel) rfl (l_cons (e_bin (e_bin (e_var 1 rfl rfl rfl) (e_bin (e_bin e_int (e_var 0 rfl rfl rfl) (o_mul_ii (by decide))) (e_var 2 rfl rfl rfl) (o_mul_ii (by lia))) o_sub_ii) (e_var 3 rfl rfl rfl) (o_mod_ii hring0)) (l_cons (e_bin (e_bin (e_bin (e_bin e_int (e_var 0 rfl rfl rfl) (o_mul_ii (by decide))) (e_var 2 rfl rfl rfl) (o_mul_ii (by lia))) (e_var 1 rfl rfl rfl) o_sub_ii) (e_var 3 rfl rfl rfl) (o_mod_ii hring0)) l_nil rfl) rfl) b_min2 rfl (fun _ => ⟨_, _, rfl, rfl⟩) rfl)⟩
  refine r_assign_comp 19 (x := "way") (oc := false) (fvs := ["bottom", "apart"]) (vals := [some (.int bottom), some (.int apart)])
    ⟨by kernel_rfl, by kernel_rfl, by kernel_rfl, fun n acc => by kernel_rfl, fun h => by kernel_rfl, by kernel_rfl, by kernel_rfl, by decide +kernel, by kernel_rfl⟩ (.cons 5 rfl rfl (.cons 6 rfl rfl .nil))
    (ie_list (e_var 18 rfl rfl rfl)) (fun _ => true) (onI fun way => .int (wheelOf bottom apart way)) (Nat.le_of_ble_eq_true rfl) (fun p hp L hE w' => ?_) (fun _ => rfl)
    (l := intsL [na, nb, nd]) ?_ rfl ⟨rfl, .inl (by kernel_rfl)⟩ (.tail (.tail (.tail (.tail (.tail (.tail (.tail (.tail (.tail (.tail (.tail (.tail (.tail (.tail (.tail (.tail (.tail (.tail (.tail .head))))))))))))))))))) ?_
  · obtain ⟨way, hw, rfl⟩ := mem_intsL hp
    exact ⟨ta_nil, fun _ => e_bin (e_var 1 rfl rfl rfl) (e_cb (by kernel_rfl) (G.nob _ (by decide +kernel)) (by kernel_rfl) (by decide +kernel) rfl (l_cons (e_var 2 rfl rfl rfl) (l_cons (e_cb (by kernel_rfl) (G.nob _ (by decide +kernel)) (by kernel_rfl) (by decide +kernel) rfl (l_cons e_int (l_cons (e_bin (e_bin e_int (e_var 2 rfl rfl rfl) (o_mul_ii (by decide))) (e_var 0 rfl rfl rfl) o_sub_ii) l_nil rfl) rfl) b_max2 rfl (fun _ => ⟨_, _, rfl, rfl⟩) rfl) l_nil rfl) rfl) b_min2 rfl (fun _ => ⟨_, _, rfl, rfl⟩) rfl) o_add_ii⟩
  · rw [map_intsL, ← hwheel]
    rfl
  refine r_assign_comp 20 (x := "part") (oc := false) (fvs := []) (vals := []) ⟨by kernel_rfl, by kernel_rfl, by kernel_rfl, fun n acc => by kernel_rfl, fun h => by kernel_rfl, by kernel_rfl, by kernel_rfl, by decide +kernel, by kernel_rfl⟩ .nil
    (ie_tup (e_var 13 rfl rfl rfl)) (fun _ => true) (fun p => match p with | .flt x => .int (toldOf x) | p => p) (Nat.le_of_ble_eq_true rfl) (fun p hp L hE w' => ?_) (fun _ => rfl)
    (l := intsL [na, nb, nd]) ?_ rfl ⟨rfl, .inl (by kernel_rfl)⟩ (.tail (.tail (.tail (.tail (.tail (.tail (.tail (.tail (.tail (.tail (.tail (.tail (.tail (.tail (.tail (.tail (.tail (.tail (.tail (.tail .head)))))))))))))))))))) ?_
  · have hx : ∃ x, finF (Float64.mul x (Float64.ofInt 512)) = true ∧ p = .flt x := by
      rcases List.mem_cons.mp hp with rfl | hp
      · exact ⟨_, hfinB.1, rfl⟩
      rcases List.mem_cons.mp hp with rfl | hp
      · exact ⟨_, hfinB.2.1, rfl⟩
      rcases List.mem_cons.mp hp with rfl | hp
      · exact ⟨_, hfinB.2.2, rfl⟩
      cases hp
    obtain ⟨x, hx, rfl⟩ := hx
    obtain ⟨sg', m', e', hd', hp'⟩ := fin_of hx
    exact ⟨ta_nil, fun _ => Evals.eq (e_bin (e_bin (e_ct (by kernel_rfl) (G.nob _ (by decide +kernel)) (by kernel_rfl) (by decide +kernel) rfl (l_cons (e_bin (e_var 0 rfl rfl rfl) e_int (o_mul_fi h512)) l_nil rfl) (b_int_flt hd') rfl (fun _ => ⟨_, _, rfl, rfl⟩) rfl) e_int o_add_ii) e_int (o_fdiv_ii (by decide) (by decide))) (by show PV.int _ = PV.int (toldOf x); unfold toldOf; rw [hp'])⟩
  · rw [← htold]; rfl
  refine r_ret (e_ite (Tests.eq (t_and (t_cmp (e_var 19 rfl rfl rfl) (e_var 3 rfl rfl rfl) (o_eq_seq (.inl ⟨_, _, rfl, rfl⟩) (eqOk_ints _ _) (by rw [pvDep, dep_ints]; decide)) rfl) fun _ => (t_and (t_cmp (e_var 20 rfl rfl rfl) (e_var 3 rfl rfl rfl) (o_eq_seq (.inl ⟨_, _, rfl, rfl⟩) (eqOk_ints _ _) (by rw [pvDep, dep_ints]; decide)) rfl) fun _ => t_and_nil)) (b := true) ?_)
    (fun _ => e_tup (l_cons (e_var 10 rfl rfl rfl) (l_cons (e_var 12 rfl rfl rfl) (l_cons (e_var 11 rfl rfl rfl) l_nil rfl) rfl) rfl) (Nat.le_of_ble_eq_true rfl)) (fun h => by cases h)) rfl
  show (pvEqs _ _ && (pvEqs _ _ && true)) = true
  rw [pvEq_ints]; simp
end
end Mine
namespace Mine
open PySem PySem.W PyProof.Rows

section
variable {c : Cx} {k : Nat} (G : Glob c) {f L : Addr} {hE : Heap} {X0 : List Addr} {fx : FX} {dflt : Value}
include G
theorem run_light1 {a b d high : Int} {hue level share : UInt64} {back : UInt64 × UInt64 × UInt64} {fh fu : Addr} (Nh : FnName c "rgb_to_hls" fh) (Nu : FnName c "hls_to_rgb" fu)
    (hhls : hlsF (qF (a * high) 256) (qF (b * high) 256) (qF (d * high) 256) = (hue, level, share)) (Hh : Fn c k fh [.flt (qF (a * high) 256), .flt (qF (b * high) 256), .flt (qF (d * high) 256)] (tri (hlsF (qF (a * high) 256) (qF (b * high) 256) (qF (d * high) 256))))
    (Hu : Fn c k fu [.flt hue, .flt level, .flt share] (tri back)) (hdinf : Float64.isInf (qF (maxL [a * high, b * high, d * high] + minL [a * high, b * high, d * high]) 512) = false)
    (H : LitTail (a * high) (b * high) (d * high) hue share level (qF (maxL [a * high, b * high, d * high] + minL [a * high, b * high, d * high]) 512) (min2 (maxL [a * high, b * high, d * high] + minL [a * high, b * high, d * high]) (512 - maxL [a * high, b * high, d * high] - minL [a * high, b * high, d * high])) back)
    (hsm : ∀ n ∈ [a, b, d], -(2 ^ 64) < n ∧ n < 2 ^ 64) (hinf : ∀ n ∈ [a * high, b * high, d * high], Float64.isInf (qF n 256) = false) :
    Runs c k (fnFrm (mkFd 42 fx dflt) f L hE LN X0)
      [some (.lst (intsL [a, b, d])), some (.int high), some (.int 1), none, none, none, none, none, none, none, none, none, none, none, none, none, none, none, none, none, none] none (dBody (stAt 42)) (fun o => o = .ret (.tup [.flt hue, .flt share, .flt level]) false) := by
  refine r_assign_comp 3 (x := "count") (oc := false) (fvs := ["high"]) (vals := [some (.int high)]) ⟨by kernel_rfl, by kernel_rfl, by kernel_rfl, fun n acc => by kernel_rfl, fun h => by kernel_rfl, by kernel_rfl, by kernel_rfl, by decide +kernel, by kernel_rfl⟩ (.cons 1 rfl rfl .nil)
    (ie_list (e_var 0 rfl rfl rfl)) (fun _ => true) (onI fun n => .int (n * high)) (Nat.le_of_ble_eq_true rfl) (fun p hp L hE w' => ?_) (fun _ => rfl)
    (l := intsL [a * high, b * high, d * high]) rfl rfl ⟨rfl, .inl (by kernel_rfl)⟩ (.tail (.tail (.tail .head))) ?_
  · obtain ⟨n, hn, rfl⟩ := mem_intsL hp
    exact ⟨ta_nil, fun _ => e_bin (e_var 0 rfl rfl rfl) (e_var 1 rfl rfl rfl) (o_mul_ii (hsm n hn))⟩
  refine r_unpack (p := .tup [.int (maxL [a * high, b * high, d * high]), .int (minL [a * high, b * high, d * high]), .int (maxL [a * high, b * high, d * high] - minL [a * high, b * high, d * high])])
    (e_tup (l_cons (e_cb (by kernel_rfl) (G.nob _ (by decide +kernel)) (by kernel_rfl) (by decide +kernel) rfl (l_cons (e_var 3 rfl rfl rfl) l_nil rfl) (b_maxL (by simp)) rfl (fun _ => ⟨_, _, rfl, rfl⟩) rfl) (l_cons (e_cb (by kernel_rfl) (G.nob _ (by decide +kernel)) (by kernel_rfl) (by decide +kernel) rfl (l_cons (e_var 3 rfl rfl rfl) l_nil rfl) (b_minL (by simp)) rfl (fun _ => ⟨_, _, rfl, rfl⟩) rfl) (l_cons (e_bin (e_cb (by kernel_rfl) (G.nob _ (by decide +kernel)) (by kernel_rfl) (by decide +kernel) rfl (l_cons (e_var 3 rfl rfl rfl) l_nil rfl) (b_maxL (by simp)) rfl (fun _ => ⟨_, _, rfl, rfl⟩) rfl) (e_cb (by kernel_rfl) (G.nob _ (by decide +kernel)) (by kernel_rfl) (by decide +kernel) rfl (l_cons (e_var 3 rfl rfl rfl) l_nil rfl) (b_minL (by simp)) rfl (fun _ => ⟨_, _, rfl, rfl⟩) rfl) o_sub_ii) l_nil rfl) rfl) rfl) (Nat.le_of_ble_eq_true rfl))
    (asg_tup Pack.tup (.cons (asg_name 4 ⟨rfl, .inl (by kernel_rfl)⟩ (.tail (.tail (.tail (.tail .head))))) rfl (.cons (asg_name 5 ⟨rfl, .inr ⟨by kernel_rfl, by kernel_rfl⟩⟩ (.tail (.tail (.tail (.tail (.tail .head)))))) rfl (.cons (asg_name 6 ⟨rfl, .inr ⟨by kernel_rfl, by kernel_rfl⟩⟩ (.tail (.tail (.tail (.tail (.tail (.tail .head))))))) rfl .nil)))) rfl (by kernel_rfl) ?_
  refine r_unpack (p := .lst [.flt (qF (a * high) 256), .flt (qF (b * high) 256), .flt (qF (d * high) 256)]) (e_comp (x := "number") (oc := false) (fvs := []) (vals := []) ⟨by kernel_rfl, by kernel_rfl, by kernel_rfl, fun n acc => by kernel_rfl, fun h => by kernel_rfl, by kernel_rfl, by kernel_rfl, by decide +kernel, by kernel_rfl⟩ .nil
    (ie_list (e_var 3 rfl rfl rfl)) (fun _ => true) (onI fun n => .flt (qF n 256)) (Nat.le_of_ble_eq_true rfl) (fun p hp L hE w' => ?_) (fun _ => rfl) rfl)
    (asg_tup Pack.lst (.cons (asg_name 7 ⟨rfl, .inl (by kernel_rfl)⟩ (.tail (.tail (.tail (.tail (.tail (.tail (.tail .head)))))))) rfl (.cons (asg_name 8 ⟨rfl, .inl (by kernel_rfl)⟩ (.tail (.tail (.tail (.tail (.tail (.tail (.tail (.tail .head))))))))) rfl (.cons (asg_name 9 ⟨rfl, .inl (by kernel_rfl)⟩ (.tail (.tail (.tail (.tail (.tail (.tail (.tail (.tail (.tail .head)))))))))) rfl .nil)))) rfl (by kernel_rfl) ?_
  · obtain ⟨n, hn, rfl⟩ := mem_intsL hp
    exact ⟨ta_nil, fun _ => e_bin (e_var 0 rfl rfl rfl) e_int (o_div_ii (by decide) (hinf n hn))⟩
  refine r_if_t (Tests.eq (t_plain (e_var 2 rfl rfl rfl) tr_int (fun _ => rfl)) rfl) ?_
  refine r_unpack (p := .tup [.flt hue, .flt level, .flt share]) (Evals.eq (e_cf Nh (by kernel_rfl) rfl (l_cons (e_var 7 rfl rfl rfl) (l_cons (e_var 8 rfl rfl rfl) (l_cons (e_var 9 rfl rfl rfl) l_nil rfl) rfl) rfl) Hh rfl (fun _ => ⟨_, _, rfl, rfl⟩) rfl) (by unfold tri; rw [hhls])) (asg_tup Pack.tup (.cons (asg_name 10 ⟨rfl, .inl (by kernel_rfl)⟩ (.tail (.tail (.tail (.tail (.tail (.tail (.tail (.tail (.tail (.tail .head))))))))))) rfl (.cons (asg_name 11 ⟨rfl, .inl (by kernel_rfl)⟩ (.tail (.tail (.tail (.tail (.tail (.tail (.tail (.tail (.tail (.tail (.tail .head)))))))))))) rfl (.cons (asg_name 12 ⟨rfl, .inl (by kernel_rfl)⟩ (.tail (.tail (.tail (.tail (.tail (.tail (.tail (.tail (.tail (.tail (.tail (.tail .head))))))))))))) rfl .nil)))) rfl (by kernel_rfl) ?_
  refine r_unpack_swapped (ps := [tri back, .flt (qF (maxL [a * high, b * high, d * high] + minL [a * high, b * high, d * high]) 512)]) (names := ["back", "due"]) (e_tup (l_cons (e_cf Nu (by kernel_rfl) rfl (l_cons (e_var 10 rfl rfl rfl) (l_cons (e_var 11 rfl rfl rfl) (l_cons (e_var 12 rfl rfl rfl) l_nil rfl) rfl) rfl) Hu rfl (fun _ => ⟨_, _, rfl, rfl⟩) rfl) (l_cons (e_bin (e_bin (e_var 4 rfl rfl rfl) (e_var 5 rfl rfl rfl) o_add_ii) e_int (o_div_ii (by decide) hdinf)) l_nil rfl) rfl) (Nat.le_of_ble_eq_true rfl)) (.cons 14 ⟨rfl, .inl (by kernel_rfl)⟩ (.tail (.tail (.tail (.tail (.tail (.tail (.tail (.tail (.tail (.tail (.tail (.tail (.tail (.tail .head)))))))))))))) (.cons 13 ⟨rfl, .inl (by kernel_rfl)⟩ (.tail (.tail (.tail (.tail (.tail (.tail (.tail (.tail (.tail (.tail (.tail (.tail (.tail .head))))))))))))) .nil)) rfl rfl (by kernel_rfl) ?_
  refine r_assign 15 (p := .int (min2 (maxL [a * high, b * high, d * high] + minL [a * high, b * high, d * high]) (512 - maxL [a * high, b * high, d * high] - minL [a * high, b * high, d * high]))) (e_cb (by kernel_rfl) (G.nob _ (by decide +kernel)) (by kernel_rfl) (by decide +kernel) rfl (l_cons (e_bin (e_var 4 rfl rfl rfl) (e_var 5 rfl rfl rfl) o_add_ii) (l_cons (e_bin (e_bin e_int (e_var 4 rfl rfl rfl) o_sub_ii) (e_var 5 rfl rfl rfl) o_sub_ii) l_nil rfl) rfl) b_min2 rfl (fun _ => ⟨_, _, rfl, rfl⟩) rfl) ⟨rfl, .inl (by kernel_rfl)⟩ (.tail (.tail (.tail (.tail (.tail (.tail (.tail (.tail (.tail (.tail (.tail (.tail (.tail (.tail (.tail .head))))))))))))))) rfl (r_nil ?_)
  exact run_light_tail (red := 0) (green := 0) (blue := 0) G H
theorem run_light0 {a b d high : Int} {hue level share : UInt64} {back : UInt64 × UInt64 × UInt64} {fh fu : Addr} (Nh : FnName c "rgb_to_hsv" fh) (Nu : FnName c "hsv_to_rgb" fu)
    (hhsv : hsvF (qF (a * high) 256) (qF (b * high) 256) (qF (d * high) 256) = (hue, share, level)) (Hh : Fn c k fh [.flt (qF (a * high) 256), .flt (qF (b * high) 256), .flt (qF (d * high) 256)] (tri (hsvF (qF (a * high) 256) (qF (b * high) 256) (qF (d * high) 256))))
    (Hu : Fn c k fu [.flt hue, .flt share, .flt level] (tri back)) (hdinf : Float64.isInf (qF (maxL [a * high, b * high, d * high]) 256) = false)
    (H : LitTail (a * high) (b * high) (d * high) hue share level (qF (maxL [a * high, b * high, d * high]) 256) (maxL [a * high, b * high, d * high]) back)
    (hsm : ∀ n ∈ [a, b, d], -(2 ^ 64) < n ∧ n < 2 ^ 64) (hinf : ∀ n ∈ [a * high, b * high, d * high], Float64.isInf (qF n 256) = false) :
    Runs c k (fnFrm (mkFd 42 fx dflt) f L hE LN X0)
      [some (.lst (intsL [a, b, d])), some (.int high), some (.int 0), none, none, none, none, none, none, none, none, none, none, none, none, none, none, none, none, none, none] none (dBody (stAt 42)) (fun o => o = .ret (.tup [.flt hue, .flt share, .flt level]) false) := by
  refine r_assign_comp 3 (x := "count") (oc := false) (fvs := ["high"]) (vals := [some (.int high)]) ⟨by kernel_rfl, by kernel_rfl, by kernel_rfl, fun n acc => by kernel_rfl, fun h => by kernel_rfl, by kernel_rfl, by kernel_rfl, by decide +kernel, by kernel_rfl⟩ (.cons 1 rfl rfl .nil)
    (ie_list (e_var 0 rfl rfl rfl)) (fun _ => true) (onI fun n => .int (n * high)) (Nat.le_of_ble_eq_true rfl) (fun p hp L hE w' => ?_) (fun _ => rfl)
    (l := intsL [a * high, b * high, d * high]) rfl rfl ⟨rfl, .inl (by kernel_rfl)⟩ (.tail (.tail (.tail .head))) ?_
  · obtain ⟨n, hn, rfl⟩ := mem_intsL hp
    exact ⟨ta_nil, fun _ => e_bin (e_var 0 rfl rfl rfl) (e_var 1 rfl rfl rfl) (o_mul_ii (hsm n hn))⟩
  refine r_unpack (p := .tup [.int (maxL [a * high, b * high, d * high]), .int (minL [a * high, b * high, d * high]), .int (maxL [a * high, b * high, d * high] - minL [a * high, b * high, d * high])])
    (e_tup (l_cons (e_cb (by kernel_rfl) (G.nob _ (by decide +kernel)) (by kernel_rfl) (by decide +kernel) rfl (l_cons (e_var 3 rfl rfl rfl) l_nil rfl) (b_maxL (by simp)) rfl (fun _ => ⟨_, _, rfl, rfl⟩) rfl) (l_cons (e_cb (by kernel_rfl) (G.nob _ (by decide +kernel)) (by kernel_rfl) (by decide +kernel) rfl (l_cons (e_var 3 rfl rfl rfl) l_nil rfl) (b_minL (by simp)) rfl (fun _ => ⟨_, _, rfl, rfl⟩) rfl) (l_cons (e_bin (e_cb (by kernel_rfl) (G.nob _ (by decide +kernel)) (by kernel_rfl) (by decide +kernel) rfl (l_cons (e_var 3 rfl rfl rfl) l_nil rfl) (b_maxL (by simp)) rfl (fun _ => ⟨_, _, rfl, rfl⟩) rfl) (e_cb (by kernel_rfl) (G.nob _ (by decide +kernel)) (by kernel_rfl) (by decide +kernel) rfl (l_cons (e_var 3 rfl rfl rfl) l_nil rfl) (b_minL (by simp)) rfl (fun _ => ⟨_, _, rfl, rfl⟩) rfl) o_sub_ii) l_nil rfl) rfl) rfl) (Nat.le_of_ble_eq_true rfl))
    (asg_tup Pack.tup (.cons (asg_name 4 ⟨rfl, .inl (by kernel_rfl)⟩ (.tail (.tail (.tail (.tail .head))))) rfl (.cons (asg_name 5 ⟨rfl, .inr ⟨by kernel_rfl, by kernel_rfl⟩⟩ (.tail (.tail (.tail (.tail (.tail .head)))))) rfl (.cons (asg_name 6 ⟨rfl, .inr ⟨by kernel_rfl, by kernel_rfl⟩⟩ (.tail (.tail (.tail (.tail (.tail (.tail .head))))))) rfl .nil)))) rfl (by kernel_rfl) ?_
  refine r_unpack (p := .lst [.flt (qF (a * high) 256), .flt (qF (b * high) 256), .flt (qF (d * high) 256)]) (e_comp (x := "number") (oc := false) (fvs := []) (vals := []) ⟨by kernel_rfl, by kernel_rfl, by kernel_rfl, fun n acc => by kernel_rfl, fun h => by kernel_rfl, by kernel_rfl, by kernel_rfl, by decide +kernel, by kernel_rfl⟩ .nil
    (ie_list (e_var 3 rfl rfl rfl)) (fun _ => true) (onI fun n => .flt (qF n 256)) (Nat.le_of_ble_eq_true rfl) (fun p hp L hE w' => ?_) (fun _ => rfl) rfl)
    (asg_tup Pack.lst (.cons (asg_name 7 ⟨rfl, .inl (by kernel_rfl)⟩ (.tail (.tail (.tail (.tail (.tail (.tail (.tail .head)))))))) rfl (.cons (asg_name 8 ⟨rfl, .inl (by kernel_rfl)⟩ (.tail (.tail (.tail (.tail (.tail (.tail (.tail (.tail .head))))))))) rfl (.cons (asg_name 9 ⟨rfl, .inl (by kernel_rfl)⟩ (.tail (.tail (.tail (.tail (.tail (.tail (.tail (.tail (.tail .head)))))))))) rfl .nil)))) rfl (by kernel_rfl) ?_
  · obtain ⟨n, hn, rfl⟩ := mem_intsL hp
    exact ⟨ta_nil, fun _ => e_bin (e_var 0 rfl rfl rfl) e_int (o_div_ii (by decide) (hinf n hn))⟩
  refine r_if_f (Tests.eq (t_plain (e_var 2 rfl rfl rfl) tr_int (fun _ => rfl)) rfl) ?_
  refine r_unpack (p := .tup [.flt hue, .flt share, .flt level]) (Evals.eq (e_cf Nh (by kernel_rfl) rfl (l_cons (e_var 7 rfl rfl rfl) (l_cons (e_var 8 rfl rfl rfl) (l_cons (e_var 9 rfl rfl rfl) l_nil rfl) rfl) rfl) Hh rfl (fun _ => ⟨_, _, rfl, rfl⟩) rfl) (by unfold tri; rw [hhsv])) (asg_tup Pack.tup (.cons (asg_name 10 ⟨rfl, .inl (by kernel_rfl)⟩ (.tail (.tail (.tail (.tail (.tail (.tail (.tail (.tail (.tail (.tail .head))))))))))) rfl (.cons (asg_name 12 ⟨rfl, .inl (by kernel_rfl)⟩ (.tail (.tail (.tail (.tail (.tail (.tail (.tail (.tail (.tail (.tail (.tail (.tail .head))))))))))))) rfl (.cons (asg_name 11 ⟨rfl, .inl (by kernel_rfl)⟩ (.tail (.tail (.tail (.tail (.tail (.tail (.tail (.tail (.tail (.tail (.tail .head)))))))))))) rfl .nil)))) rfl (by kernel_rfl) ?_
  refine r_unpack_swapped (ps := [tri back, .flt (qF (maxL [a * high, b * high, d * high]) 256), .int (maxL [a * high, b * high, d * high])]) (names := ["back", "due", "space"]) (e_tup (l_cons (e_cf Nu (by kernel_rfl) rfl (l_cons (e_var 10 rfl rfl rfl) (l_cons (e_var 12 rfl rfl rfl) (l_cons (e_var 11 rfl rfl rfl) l_nil rfl) rfl) rfl) Hu rfl (fun _ => ⟨_, _, rfl, rfl⟩) rfl) (l_cons (e_bin (e_var 4 rfl rfl rfl) e_int (o_div_ii (by decide) hdinf)) (l_cons (e_var 4 rfl rfl rfl) l_nil rfl) rfl) rfl) (Nat.le_of_ble_eq_true rfl)) (.cons 15 ⟨rfl, .inl (by kernel_rfl)⟩ (.tail (.tail (.tail (.tail (.tail (.tail (.tail (.tail (.tail (.tail (.tail (.tail (.tail (.tail (.tail .head))))))))))))))) (.cons 14 ⟨rfl, .inl (by kernel_rfl)⟩ (.tail (.tail (.tail (.tail (.tail (.tail (.tail (.tail (.tail (.tail (.tail (.tail (.tail (.tail .head)))))))))))))) (.cons 13 ⟨rfl, .inl (by kernel_rfl)⟩ (.tail (.tail (.tail (.tail (.tail (.tail (.tail (.tail (.tail (.tail (.tail (.tail (.tail .head))))))))))))) .nil))) rfl rfl (by kernel_rfl) (r_nil ?_)
  exact run_light_tail (red := 0) (green := 0) (blue := 0) G H
end
end Mine
namespace Mine
open PySem PySem.W PyProof.Rows

/-- quotes doubled -/
noncomputable def escQ (l : List Nat) : List Nat := l.flatMap fun n => if n = 34 then [34, 34] else [n]
theorem escQ_app (l m : List Nat) : escQ (l ++ m) = escQ l ++ escQ m := by simp [escQ]
theorem escQ_cons (n : Nat) (m : List Nat) : escQ (n :: m) = (if n = 34 then [34, 34] else [n]) ++ escQ m := by simp [escQ]
theorem escQ_le (l : List Nat) : l.length ≤ (escQ l).length := by
  induction l with
  | nil => simp [escQ]
  | cons n l ih => rw [escQ_cons]; split <;> simp <;> lia
theorem seq_at (pre post : List Nat) (n : Nat) : (seqIndex? ((pre.length : Nat) : Int) (⟨(pre ++ n :: post).toArray⟩ : Str).length).bind ((⟨(pre ++ n :: post).toArray⟩ : Str).cps[·]?) = some n := by
  have h : seqIndex? ((pre.length : Nat) : Int) (⟨(pre ++ n :: post).toArray⟩ : Str).length = some pre.length := by
    unfold seqIndex?
    have h1 : ¬ ((pre.length : Nat) : Int) < 0 := by lia
    have h2 : ((pre.length : Nat) : Int) < ((⟨(pre ++ n :: post).toArray⟩ : Str).length : Nat) := by
      show _ < (((pre ++ n :: post).toArray.size : Nat) : Int)
      simp
      lia
    simp [h1, h2]
  rw [h]
  simp
theorem sliceS_run (x : Str) (a b : Nat) (hab : a ≤ b) (hb : b ≤ x.length) : sliceS x (some (a : Int)) (some (b : Int)) = ⟨((x.cps.toList.drop a).take (b - a)).toArray⟩ := by
  have e : Builtin.Str.strSliceIndices (some (a : Int)) (some (b : Int)) 1 x.length = (List.range (b - a)).map (a + ·) := by
    rw [← sliceRange_one]
    unfold Builtin.Str.strSliceIndices
    have h1 : ¬ ((a : Int) < 0) := by lia
    have h2 : ¬ ((b : Int) < 0) := by lia
    simp only [h1, h2, if_false, show (1 : Int) > 0 by decide, if_true]
    congr 1 <;> lia
  unfold sliceS
  rw [e]
  have ep : picks x.cps.toList ((List.range (b - a)).map (a + ·)) = (x.cps.toList.drop a).take (b - a) := by
    have := pick_run x.cps a (b - a)
    unfold picks
    simpa using this
  rw [ep]
  split
  · rename_i h
    have hl : b - a = x.length := by simpa using h
    have h0 : a = 0 := by lia
    subst h0
    have hl' : b = x.length := by lia
    subst hl'
    have : (x.cps.toList.drop 0).take (x.length - 0) = x.cps.toList := by
      rw [List.drop_zero, Nat.sub_zero]
      exact List.take_of_length_le (by show x.cps.toList.length ≤ x.cps.size; simp)
    rw [this]
  · rfl
theorem sliceS_to (x : Str) (b : Nat) (hb : b ≤ x.length) : sliceS x none (some (b : Int)) = ⟨(x.cps.toList.take b).toArray⟩ := by
  have h := sliceS_run x 0 b (Nat.zero_le _) hb
  rw [List.drop_zero, Nat.sub_zero] at h
  rw [← h]
  rfl
noncomputable def resp257 (l : List Nat) : Str := ⟨([50, 53, 55, 32, 34] ++ escQ l ++ [34]).toArray⟩

/-- what holds of the loop -/
inductive P257A (l : List Nat) (m : Nat) (ρ : List (Option PV)) (w : Ow) : Prop
  | it (done : List Nat) (rest : List Nat) (x4 : Option PV) (h0 : m = rest.length + 1) (h1 : l = done ++ rest) (h2 : ρ = [some (.str (resp257 l)), some (.str ⟨done.toArray⟩), some (.int ((([50, 53, 55, 32, 34] ++ escQ done).length : Nat) : Int)), some (.int ((resp257 l).length : Nat)), x4]) (h3 : w = none) : P257A l m ρ w
section
variable {c : Cx} {k : Nat} (G : Glob c) {f L : Addr} {hE : Heap} {X0 : List Addr} {fx : FX} {dflt : Value}
include G

theorem run_p257 {l : List Nat} (hsz : (escQ l).length ≤ 100000) :
    Runs c k (fnFrm (mkFd 40 fx dflt) f L hE ["resp", "dirname", "i", "n", "c"] X0) [some (.str (resp257 l)), none, none, none, none] none (dBody (stAt 40)) (fun o => o = .ret (.str ⟨l.toArray⟩) false) := by
  have hN : (resp257 l).length = 6 + (escQ l).length := by
    show ([50, 53, 55, 32, 34] ++ escQ l ++ [34]).toArray.size = _
    simp; lia
  have hle := escQ_le l
  have sz : (resp257 l).length ≤ sizeLine := by rw [hN]; exact Nat.le_trans (show _ ≤ 200000 by lia) (Nat.le_of_ble_eq_true rfl)
  have hr : ∀ i : Int, 0 ≤ i ∧ i < 1000000 → (decide (i < -(2 ^ 63 : Int)) || decide (i ≥ 2 ^ 63)) = false := fun i h => by simp; lia
  have s3 : sliceS (resp257 l) none (some 3) = Str.ofString "257" := (sliceS_to (resp257 l) 3 (by lia)).trans rfl
  have s5 : sliceS (resp257 l) (some 3) (some 5) = Str.ofString " \"" := (sliceS_run (resp257 l) 3 5 (by lia) (by lia)).trans rfl
  refine r_if_f (Tests.eq (t_cmp (e_slice_str (e_var 0 rfl rfl rfl) p_none (p_some e_int) sz) e_str o_ne_ss rfl) (by rw [s3]; simp)) (r_nil ?_)
  show Runs _ _ _ _ _ _ _
  refine r_if_f (Tests.eq (t_cmp (e_slice_str (e_var 0 rfl rfl rfl) (p_some e_int) (p_some e_int) sz) e_str o_ne_ss rfl) (by rw [s5]; simp)) (r_nil ?_)
  show Runs _ _ _ _ _ _ _
  refine r_assign 1 e_str ⟨rfl, .inl (by kernel_rfl)⟩ (.tail .head) rfl ?_
  refine r_assign 2 e_int ⟨rfl, .inl (by kernel_rfl)⟩ (.tail (.tail .head)) rfl ?_
  refine r_assign 3 (e_cb (by kernel_rfl) (G.nob _ (by decide +kernel)) (by kernel_rfl) (by decide +kernel) rfl (l_cons (e_var 0 rfl rfl rfl) l_nil rfl) (b_len_str (by rw [hN]; lia)) rfl (fun _ => ⟨_, _, rfl, rfl⟩) rfl) ⟨rfl, .inl (by kernel_rfl)⟩ (.tail (.tail (.tail .head))) rfl ?_
  refine r_while (whileRuns_inv (fun m ρ w => P257A l m ρ w) ?_ (l.length + 1) _ _ ⟨[], l, none, rfl, rfl, rfl, rfl⟩)
  rintro m ρ w ⟨done, rest, x4, rfl, hl, rfl, rfl⟩
  right
  have hlen : (escQ l).length = (escQ done).length + (escQ rest).length := by rw [hl, escQ_app, List.length_append]
  have hd := escQ_le done
  have hi : ([50, 53, 55, 32, 34] ++ escQ done).length = 5 + (escQ done).length := by simp; lia
  refine ⟨Tests.eq (t_cmp (e_var 2 rfl rfl rfl) (e_var 3 rfl rfl rfl) o_lt_ii rfl) (by rw [hi, hN]; simp; lia), ?_⟩
  cases rest with
  | nil =>
    have hc : (seqIndex? ((([50, 53, 55, 32, 34] ++ escQ done).length : Nat) : Int) (resp257 l).length).bind ((resp257 l).cps[·]?) = some 34 := by
      unfold resp257
      rw [hl, List.append_nil]
      exact seq_at _ [] 34
    refine r_assign 4 (e_sub (e_var 0 rfl rfl rfl) (e_var 2 rfl rfl rfl) (o_item_str (hr _ (by lia)) hc (fun _ _ => rfl))) ⟨rfl, .inl (by kernel_rfl)⟩ (.tail (.tail (.tail (.tail .head)))) rfl ?_
    refine r_assign 2 (e_bin (e_var 2 rfl rfl rfl) e_int o_add_ii) ⟨rfl, .inl (by kernel_rfl)⟩ (.tail (.tail .head)) rfl ?_
    refine r_if_t (Tests.eq (t_cmp (e_var 4 rfl rfl rfl) e_str o_eq_ss rfl) rfl) ?_
    have hge : decide (((resp257 l).length : Int) ≤ ((([50, 53, 55, 32, 34] ++ escQ done).length : Nat) : Int) + 1) = true := by
      rw [hi, hN, hlen]; simp [escQ]; lia
    refine r_if_t (Tests.eq (t_or (b := false) (t_cmp (e_var 2 rfl rfl rfl) (e_var 3 rfl rfl rfl) o_ge_ii rfl) fun h => absurd (hge.symm.trans h) (by decide)) (by rw [hge]; rfl)) (r_brk ?_)
    refine .inr (.inl ⟨_, _, rfl, ?_⟩)
    show Runs _ _ _ _ _ _ _
    have e : l = done := by rw [hl, List.append_nil]
    exact r_ret (e_var 1 rfl rfl rfl) (by rw [e])
  | cons ch rest =>
    have hch : escQ (ch :: rest) = (if ch = 34 then [34, 34] else [ch]) ++ escQ rest := escQ_cons ch rest
    have hdsz : done.length + 1 ≤ sizeLine := Nat.le_trans (show _ ≤ 200000 by rw [hch] at hlen; simp only [List.length_append] at hlen; lia) (Nat.le_of_ble_eq_true rfl)
    have happ : (⟨done.toArray⟩ ++ ⟨#[ch]⟩ : Str) = ⟨(done ++ [ch]).toArray⟩ := by
      show (⟨done.toArray ++ #[ch]⟩ : Str) = _
      congr 1; simp
    by_cases hq : ch = 34
    · subst hq
      have e1 : resp257 l = ⟨(([50, 53, 55, 32, 34] ++ escQ done) ++ 34 :: (34 :: escQ rest ++ [34])).toArray⟩ := by
        unfold resp257; rw [hl, escQ_app, hch]; simp
      have e2 : resp257 l = ⟨(([50, 53, 55, 32, 34] ++ escQ done ++ [34]) ++ 34 :: (escQ rest ++ [34])).toArray⟩ := by
        unfold resp257; rw [hl, escQ_app, hch]; simp
      have hc : (seqIndex? ((([50, 53, 55, 32, 34] ++ escQ done).length : Nat) : Int) (resp257 l).length).bind ((resp257 l).cps[·]?) = some 34 := by
        rw [e1]; exact seq_at _ _ 34
      have hc2 : (seqIndex? ((([50, 53, 55, 32, 34] ++ escQ done).length : Nat) + 1 : Int) (resp257 l).length).bind ((resp257 l).cps[·]?) = some 34 := by
        have := seq_at ([50, 53, 55, 32, 34] ++ escQ done ++ [34]) (escQ rest ++ [34]) 34
        rw [← e2] at this
        have e3 : ((([50, 53, 55, 32, 34] ++ escQ done ++ [34]).length : Nat) : Int) = ((([50, 53, 55, 32, 34] ++ escQ done).length : Nat) : Int) + 1 := by
          rw [List.length_append]; rfl
        rw [e3] at this
        exact this
      rw [hch] at hlen
      simp only [if_true, List.length_append, List.length_cons, List.length_nil] at hlen
      refine r_assign 4 (e_sub (e_var 0 rfl rfl rfl) (e_var 2 rfl rfl rfl) (o_item_str (hr _ (by lia)) hc (fun _ _ => rfl))) ⟨rfl, .inl (by kernel_rfl)⟩ (.tail (.tail (.tail (.tail .head)))) rfl ?_
      refine r_assign 2 (e_bin (e_var 2 rfl rfl rfl) e_int o_add_ii) ⟨rfl, .inl (by kernel_rfl)⟩ (.tail (.tail .head)) rfl ?_
      refine r_if_t (Tests.eq (t_cmp (e_var 4 rfl rfl rfl) e_str o_eq_ss rfl) rfl) ?_
      have hge : decide (((resp257 l).length : Int) ≤ ((([50, 53, 55, 32, 34] ++ escQ done).length : Nat) : Int) + 1) = false := by
        rw [hi, hN]; simp; lia
      refine r_if_f (Tests.eq (t_or (t_cmp (e_var 2 rfl rfl rfl) (e_var 3 rfl rfl rfl) o_ge_ii rfl) fun _ => (t_or (t_cmp (e_sub (e_var 0 rfl rfl rfl) (e_var 2 rfl rfl rfl) (o_item_str (hr _ (by lia)) hc2 (fun _ _ => rfl))) e_str o_ne_ss rfl) fun _ => t_or_nil)) (by rw [hge]; rfl)) (r_nil ?_)
      show Runs _ _ _ _ _ _ _
      refine r_assign 2 (e_bin (e_var 2 rfl rfl rfl) e_int o_add_ii) ⟨rfl, .inl (by kernel_rfl)⟩ (.tail (.tail .head)) rfl (r_nil ?_)
      show Runs _ _ _ _ _ _ _
      refine r_assign 1 (Evals.eq (e_bin (e_var 1 rfl rfl rfl) (e_var 4 rfl rfl rfl) (o_add_ss hdsz)) (congrArg PV.str happ)) ⟨rfl, .inl (by kernel_rfl)⟩ (.tail .head) rfl (r_nil ?_)
      refine .inl ⟨rest.length + 1, _, _, by simp, .inl rfl, done ++ [34], rest, some (.str ⟨#[34]⟩), rfl, by rw [hl]; simp, ?_, rfl⟩
      have e4 : ((([50, 53, 55, 32, 34] ++ escQ (done ++ [34])).length : Nat) : Int) = ((([50, 53, 55, 32, 34] ++ escQ done).length : Nat) : Int) + 1 + 1 := by
        rw [escQ_app, List.length_append, List.length_append, List.length_append]; simp [escQ]; lia
      rw [e4]
    · have e1 : resp257 l = ⟨(([50, 53, 55, 32, 34] ++ escQ done) ++ ch :: (escQ rest ++ [34])).toArray⟩ := by
        unfold resp257; rw [hl, escQ_app, hch, if_neg hq]; simp
      have hc : (seqIndex? ((([50, 53, 55, 32, 34] ++ escQ done).length : Nat) : Int) (resp257 l).length).bind ((resp257 l).cps[·]?) = some ch := by
        rw [e1]; exact seq_at _ _ ch
      refine r_assign 4 (e_sub (e_var 0 rfl rfl rfl) (e_var 2 rfl rfl rfl) (o_item_str (hr _ (by lia)) hc (fun _ _ => rfl))) ⟨rfl, .inl (by kernel_rfl)⟩ (.tail (.tail (.tail (.tail .head)))) rfl ?_
      refine r_assign 2 (e_bin (e_var 2 rfl rfl rfl) e_int o_add_ii) ⟨rfl, .inl (by kernel_rfl)⟩ (.tail (.tail .head)) rfl ?_
      refine r_if_f (Tests.eq (t_cmp (e_var 4 rfl rfl rfl) e_str o_eq_ss rfl) ?_) (r_nil ?_)
      · refine beq_eq_false_iff_ne.mpr fun h => hq ?_
        have h : (⟨#[ch]⟩ : Str) = ⟨#[34]⟩ := h
        simpa using h
      show Runs _ _ _ _ _ _ _
      refine r_assign 1 (Evals.eq (e_bin (e_var 1 rfl rfl rfl) (e_var 4 rfl rfl rfl) (o_add_ss hdsz)) (congrArg PV.str happ)) ⟨rfl, .inl (by kernel_rfl)⟩ (.tail .head) rfl (r_nil ?_)
      refine .inl ⟨rest.length + 1, _, _, by simp, .inl rfl, done ++ [ch], rest, some (.str ⟨#[ch]⟩), rfl, by rw [hl]; simp, ?_, rfl⟩
      have e4 : ((([50, 53, 55, 32, 34] ++ escQ (done ++ [ch])).length : Nat) : Int) = ((([50, 53, 55, 32, 34] ++ escQ done).length : Nat) : Int) + 1 := by
        rw [escQ_app, List.length_append, List.length_append, List.length_append]; simp [escQ, hq]; lia
      rw [e4]
end
end Mine
namespace Mine
open PySem PySem.W PyProof.Rows

noncomputable abbrev mk (l : List Nat) : Str := ⟨l.toArray⟩
theorem mk_len (l : List Nat) : (mk l).length = l.length := by show l.toArray.size = _; simp
theorem item_nat {l : List Nat} {i : Int} {n ch : Nat} (hi : i = (n : Int)) (h : l[n]? = some ch) : (seqIndex? i (mk l).length).bind ((mk l).cps[·]?) = some ch := by
  have hlt : n < l.length := (List.getElem?_eq_some_iff.mp h).1
  have e : seqIndex? i (mk l).length = some n := by
    unfold seqIndex?
    rw [mk_len]
    have h1 : ¬ i < 0 := by lia
    have h2 : i < (l.length : Int) := by lia
    have h3 : 0 ≤ i := by lia
    simp only [h1, if_false]
    simp [h2, h3]
    lia
  rw [e]
  simpa using h
theorem slice_nat {l : List Nat} {a b : Int} {na nb : Nat} (ha : a = (na : Int)) (hb : b = (nb : Int)) (hab : na ≤ nb) (hbl : nb ≤ l.length) : sliceS (mk l) (some a) (some b) = mk ((l.drop na).take (nb - na)) := by
  subst ha; subst hb
  rw [sliceS_run _ _ _ hab (by rw [mk_len]; exact hbl)]
theorem slice_from {l : List Nat} {a : Int} {na : Nat} (ha : a = (na : Int)) (h : na ≤ l.length) : sliceS (mk l) (some a) none = mk (l.drop na) := by
  have e : sliceS (mk l) (some a) none = sliceS (mk l) (some a) (some ((l.length : Nat) : Int)) := by
    have e2 : Builtin.Str.strSliceIndices (some a) none 1 (mk l).length = Builtin.Str.strSliceIndices (some a) (some ((l.length : Nat) : Int)) 1 (mk l).length := by
      unfold Builtin.Str.strSliceIndices
      rw [mk_len]
      have h2 : ¬ ((l.length : Int) < 0) := by lia
      simp only [h2, if_false, show (1 : Int) > 0 by decide, if_true]
      congr 1
      lia
    unfold sliceS
    rw [e2]
  rw [e, slice_nat ha rfl h (Nat.le_refl _)]
  have : (l.drop na).take (l.length - na) = l.drop na := List.take_of_length_le (by simp)
  rw [this]
theorem mk_snoc (l : List Nat) (n : Nat) : (mk l ++ ⟨#[n]⟩ : Str) = mk (l ++ [n]) := by
  show (⟨l.toArray ++ #[n]⟩ : Str) = _
  congr 1; simp
theorem eq_one {ch n : Nat} : ((⟨#[ch]⟩ : Str) == ⟨#[n]⟩) = decide (ch = n) := by
  by_cases h : ch = n
  · subst h; simp
  · rw [decide_eq_false h]
    exact beq_eq_false_iff_ne.mpr fun e => h (by simpa using e)
theorem seq_ok {i : Int} (h : -1000000 < i ∧ i < 1000000) : (decide (i < -(2 ^ 63 : Int)) || decide (i ≥ 2 ^ 63)) = false := by simp; lia
/-- one line, laid in pieces of at most w signs -/
noncomputable def encGo (l : List Nat) (w : Nat) : Nat → Nat → List (List Nat)
  | 0, start => [l.drop start]
  | fuel + 1, start =>
    if start + w + 1 ≤ l.length then
      if l[start + w - 3]? = some 61 then (l.drop start).take (w - 2) :: encGo l w fuel (start + w - 3)
      else if l[start + w - 2]? = some 61 then (l.drop start).take (w - 1) :: encGo l w fuel (start + w - 2)
      else ((l.drop start).take (w - 1) ++ [61]) :: encGo l w fuel (start + w - 1)
    else [l.drop start]
theorem encGo_fuel (l : List Nat) (w : Nat) (hw : 4 ≤ w) : ∀ (f1 f2 start : Nat), l.length - start ≤ f1 → l.length - start ≤ f2 → encGo l w f1 start = encGo l w f2 start
  | 0, 0, start, _, _ => rfl
  | 0, f2 + 1, start, h, _ => by unfold encGo; rw [if_neg (by lia)]
  | f1 + 1, 0, start, _, h => by unfold encGo; rw [if_neg (by lia)]
  | f1 + 1, f2 + 1, start, h1, h2 => by
    unfold encGo
    by_cases hg : start + w + 1 ≤ l.length
    · rw [if_pos hg, if_pos hg, encGo_fuel l w hw f1 f2 (start + w - 3) (by lia) (by lia), encGo_fuel l w hw f1 f2 (start + w - 2) (by lia) (by lia), encGo_fuel l w hw f1 f2 (start + w - 1) (by lia) (by lia)]
    · rw [if_neg hg, if_neg hg]
noncomputable def encLine (l : List Nat) (w : Nat) : List (List Nat) := encGo l w l.length 0
noncomputable def strsOf (ls : List (List Nat)) : List PV := txts (ls.map mk)
theorem strsOf_snoc (acc : List (List Nat)) (x : List Nat) : strsOf acc ++ [.str (mk x)] = strsOf (acc ++ [x]) := by simp [strsOf, txts]

noncomputable def encAll (ls : List (List Nat)) (w z : Nat) : List Str := ((ls.flatMap fun x => encLine x w) ++ (if z = 13 ∨ z = 10 then [([] : List Nat)] else [])).map mk

structure EncOk (body tr eol : Str) (w : Nat) (ls : List (List Nat)) (qm : Nat → Str) (l : List PV) (z : Nat) : Prop where
  width : 4 ≤ w ∧ w ≤ 1000
  chars : ∀ n ∈ body.cps.toList, n < 128 ∧ l[n]? = some (.str (qm n))
  ne : body.length ≠ 0
  sz : body.length ≤ 10000
  eolsz : eol.length ≤ 10
  trs : transS qm body = tr
  trsz : tr.length ≤ 100000
  cuts : (lineCuts tr).length ≤ 100000
  lines : linesS tr = ls.map mk
  linesz : ∀ x ∈ ls, x.length ≤ 10000
  ends : ∀ x ∈ ls, ∀ n, x.getLast? = some n → (!(Builtin.Str.occurrences (Str.ofString " \t") ⟨#[n]⟩ 0 (Str.ofString " \t").length 1).isEmpty) = false
  last : (seqIndex? (-1) tr.length).bind (tr.cps[·]?) = some z
  crlf : (!(Builtin.Str.occurrences (Str.ofString "\r\n") ⟨#[z]⟩ 0 (Str.ofString "\r\n").length 1).isEmpty) = decide (z = 13 ∨ z = 10)
  total : (ls.flatMap fun x => encLine x w).length + 1 ≤ 100000
  join : Builtin.Str.tooLong ((encAll ls w z).toArray.foldl (· + ·.length + eol.length) 0) = false
  joinsz : (Builtin.Str.glued eol (encAll ls w z)).length ≤ sizeLine

/-- what holds of the loop -/
inductive EncA (tr eol : Str) (w : Nat) (ls : List (List Nat)) (D : Addr) (xs : List PV) (ρ : List (Option PV)) (ww : Ow) : Prop
  | it (rest : List (List Nat)) (x7 : Option PV) (x8 : Option PV) (x9 : Option PV) (x10 : Option PV) (x11 : Option PV) (x12 : Option PV) (acc : List (List Nat)) (h0 : xs = strsOf rest) (h1 : (∀ x ∈ rest, x ∈ ls)) (h2 : ρ = [some (.str tr), some (.int (w : Int)), some (.str eol), some (.str (Str.ofString "=" ++ eol)), some (.int ((w : Int) - 1)), some (.val (.ref D)), some (.app D), x7, x8, x9, x10, x11, x12]) (h3 : ww = some (D, strsOf acc)) (h4 : acc ++ (rest.flatMap fun x => encLine x w) = ls.flatMap fun x => encLine x w) : EncA tr eol w ls D xs ρ ww
/-- what holds of the loop -/
inductive EncB (tr eol : Str) (w : Nat) (ln : List Nat) (acc : List (List Nat)) (D : Addr) (x11 x12 : Option PV) (m : Nat) (ρ : List (Option PV)) (ww : Ow) : Prop
  | it (start : Nat) (acc' : List (List Nat)) (x10 : Option PV) (h0 : m = ln.length - start) (h1 : ρ = [some (.str tr), some (.int (w : Int)), some (.str eol), some (.str (Str.ofString "=" ++ eol)), some (.int ((w : Int) - 1)), some (.val (.ref D)), some (.app D), some (.str (mk ln)), some (.int ((start : Nat) : Int)), some (.int (((mk ln).length : Int) - 1 - (w : Int))), x10, x11, x12]) (h2 : ww = some (D, strsOf acc')) (h3 : start ≤ ln.length) (h4 : acc' ++ encGo ln w (ln.length - start) start = acc ++ encLine ln w) : EncB tr eol w ln acc D x11 x12 m ρ ww
section
variable {c : Cx} {k : Nat} (G : Glob c) {f L : Addr} {hE : Heap} {X0 : List Addr} {fx : FX} {dflt : Value}
include G

theorem run_enc {body tr eol : Str} {w : Nat} {ls : List (List Nat)} {qm : Nat → Str} {l : List PV} {z : Nat} (M : GConst c "_QUOPRI_BODY_ENCODE_MAP" (.lst l)) (CR : GConst c "CRLF" (.str "\r\n")) (H : EncOk body tr eol w ls qm l z) :
    Runs c k (fnFrm (mkFd 28 fx dflt) f L hE ["body", "maxlinelen", "eol", "soft_break", "maxlinelen1", "encoded_body", "append", "line", "start", "laststart", "stop", "room", "q"] X0) [some (.str body), some (.int (w : Int)), some (.str eol), none, none, none, none, none, none, none, none, none, none] none (dBody (stAt 28))
      (fun o => o = .ret (.str (Builtin.Str.glued eol (encAll ls w z))) false) := by
  have big : ∀ n : Nat, n ≤ 200000 → n ≤ sizeLine := fun n h => Nat.le_trans h (Nat.le_of_ble_eq_true rfl)
  obtain ⟨hw1, hw2⟩ := H.width
  refine r_if_f (Tests.eq (t_cmp (e_var 1 rfl rfl rfl) e_int o_lt_ii rfl) (by simp; lia)) (r_nil ?_)
  show Runs _ _ _ _ _ _ _
  refine r_if_f (Tests.eq (t_not (t_plain (e_var 0 rfl rfl rfl) (tr_str (by have := H.sz; lia)) (fun _ => rfl))) (by have := H.ne; simp; lia)) (r_nil ?_)
  show Runs _ _ _ _ _ _ _
  refine r_assign 0 (Evals.eq (e_smeth PySem.F.slot_str_translate PySem.F.type_str_translate (e_var 0 rfl rfl rfl) (l_cons (e_globP (by kernel_rfl) M rfl) l_nil rfl) (m_translate H.chars H.ne (by rw [H.trs]; exact big _ (by have := H.trsz; lia))) rfl rfl rfl (fun _ => ⟨_, _, rfl, rfl⟩) rfl) (congrArg PV.str H.trs)) ⟨rfl, .inl (by kernel_rfl)⟩ .head rfl ?_
  refine r_assign 3 (e_bin e_str (e_var 2 rfl rfl rfl) (o_add_ss (big _ (by have := H.eolsz; show 1 + _ ≤ _; lia)))) ⟨rfl, .inl (by kernel_rfl)⟩ (.tail (.tail (.tail .head))) rfl ?_
  refine r_assign 4 (e_bin (e_var 1 rfl rfl rfl) e_int o_sub_ii) ⟨rfl, .inl (by kernel_rfl)⟩ (.tail (.tail (.tail (.tail .head)))) rfl ?_
  refine r_new 5 ⟨rfl, .inl (by kernel_rfl)⟩ rfl fun D => ?_
  refine r_bind 5 6 rfl rfl rfl ⟨rfl, .inl (by kernel_rfl)⟩ rfl rfl ?_
  refine r_for (xs := strsOf ls) (ie_list (Evals.eq (e_smeth PySem.F.slot_str_splitlines PySem.F.type_str_splitlines (e_var 0 rfl rfl rfl) l_nil (m_splitlines (big _ (by have := H.trsz; lia)) (big _ (by have := H.cuts; lia))) rfl rfl rfl (fun h => absurd rfl h) rfl) (by rw [H.lines]; rfl)))
    (forRuns_inv (fun xs ρ ww => EncA tr eol w ls D xs ρ ww) ?_ ?_ _ _ _ ⟨ls, none, none, none, none, none, none, [], rfl, fun _ h => h, rfl, rfl, rfl⟩) (fun _ => rfl)
  · rintro x xs ρ ww ⟨rest, x7, x8, x9, x10, x11, x12, acc, e, hsub, rfl, rfl, htot⟩
    cases rest with
    | nil => cases e
    | cons ln rest =>
      have e : x :: xs = .str (mk ln) :: strsOf rest := e
      injection e with e1 e2
      subst e1; subst e2
      have hmem := hsub ln List.mem_cons_self
      have hln := H.linesz ln hmem
      have hlen : (mk ln).length = ln.length := by show ln.toArray.size = _; simp
      have htl : acc.length + (encLine ln w).length ≤ 100000 := by
        have h1 := congrArg List.length htot
        simp only [List.length_append, List.flatMap_cons] at h1
        have := H.total
        lia
      refine ⟨_, asg_name 7 ⟨rfl, .inl (by kernel_rfl)⟩ (.tail (.tail (.tail (.tail (.tail (.tail (.tail .head))))))), ?_⟩
      refine r_assign 8 e_int ⟨rfl, .inl (by kernel_rfl)⟩ (.tail (.tail (.tail (.tail (.tail (.tail (.tail (.tail .head)))))))) rfl ?_
      refine r_assign 9 (e_bin (e_bin (e_cb (by kernel_rfl) (G.nob _ (by decide +kernel)) (by kernel_rfl) (by decide +kernel) rfl (l_cons (e_var 7 rfl rfl rfl) l_nil rfl) (b_len_str (by rw [hlen]; lia)) rfl (fun _ => ⟨_, _, rfl, rfl⟩) rfl) e_int o_sub_ii) (e_var 1 rfl rfl rfl) o_sub_ii) ⟨rfl, .inl (by kernel_rfl)⟩ (.tail (.tail (.tail (.tail (.tail (.tail (.tail (.tail (.tail .head))))))))) rfl ?_
      refine r_while (whileRuns_inv (fun m ρ ww => EncB tr eol w ln acc D x11 x12 m ρ ww) ?_ ln.length _ _ ⟨0, acc, x10, by simp, rfl, rfl, Nat.zero_le _, by rw [Nat.sub_zero]; rfl⟩)
      rintro m ρ ww ⟨start, acc', x10, rfl, rfl, rfl, hst, hacc⟩
      rw [hlen] at *
      have hacl : acc'.length + (encGo ln w (ln.length - start) start).length ≤ 100000 := by
        have := congrArg List.length hacc
        simp only [List.length_append] at this
        lia
      by_cases hgo : start + w + 1 ≤ ln.length
      · right
        refine ⟨Tests.eq (t_cmp (e_var 8 rfl rfl rfl) (e_var 9 rfl rfl rfl) o_le_ii rfl) (by simp; lia), ?_⟩
        obtain ⟨fu, hfu⟩ : ∃ fu, ln.length - start = fu + 1 := ⟨ln.length - start - 1, by lia⟩
        rw [hfu] at hacc hacl
        unfold encGo at hacc hacl
        rw [if_pos hgo] at hacc hacl
        refine r_assign 10 (e_bin (e_var 8 rfl rfl rfl) (e_var 4 rfl rfl rfl) o_add_ii) ⟨rfl, .inl (by kernel_rfl)⟩ (.tail (.tail (.tail (.tail (.tail (.tail (.tail (.tail (.tail (.tail .head)))))))))) rfl ?_
        have g1 : start + w - 3 < ln.length := by lia
        have g2 : start + w - 2 < ln.length := by lia
        have hc1 : (seqIndex? (((start : Nat) : Int) + ((w : Int) - 1) - 2) (mk ln).length).bind ((mk ln).cps[·]?) = some ln[start + w - 3] := item_nat (n := start + w - 3) (by lia) (by simp [g1])
        have hc2 : (seqIndex? (((start : Nat) : Int) + ((w : Int) - 1) - 1) (mk ln).length).bind ((mk ln).cps[·]?) = some ln[start + w - 2] := item_nat (n := start + w - 2) (by lia) (by simp [g2])
        have t1 := @eq_one ln[start + w - 3] 61
        have t2 := @eq_one ln[start + w - 2] 61
        have q1 : ln[start + w - 3]? = some ln[start + w - 3] := by simp [g1]
        have q2 : ln[start + w - 2]? = some ln[start + w - 2] := by simp [g2]
        rw [q1, q2] at hacc hacl
        refine r_if (t_cmp (e_sub (e_var 7 rfl rfl rfl) (e_bin (e_var 10 rfl rfl rfl) e_int o_sub_ii) (o_item_str (seq_ok (by lia)) hc1 (fun _ _ => rfl))) e_str o_eq_ss rfl) (fun h1 => ?_) (fun h1 => ?_)
        · have h1 : ln[start + w - 3] = 61 := of_decide_eq_true (t1.symm.trans h1)
          rw [if_pos (by rw [h1])] at hacc hacl
          rw [List.length_cons] at hacl
          refine r_append2 6 rfl rfl rfl (Evals.eq (e_slice_str (e_var 7 rfl rfl rfl) (p_some (e_var 8 rfl rfl rfl)) (p_some (e_bin (e_var 10 rfl rfl rfl) e_int o_sub_ii)) (by rw [mk_len]; exact big _ (by lia))) (congrArg PV.str ((slice_nat (nb := start + w - 2) rfl (by lia) (by lia) (by lia)).trans (congrArg mk (by rw [show start + w - 2 - start = w - 2 by lia]))))) (by unfold strsOf txts; simp only [List.length_map]; exact big _ (by lia)) rfl rfl rfl ?_
          refine r_assign 8 (p := .int ((start + w - 3 : Nat) : Int)) (Evals.eq (e_bin (e_var 10 rfl rfl rfl) e_int o_sub_ii) (congrArg PV.int (by lia))) ⟨rfl, .inl (by kernel_rfl)⟩ (.tail (.tail (.tail (.tail (.tail (.tail (.tail (.tail .head)))))))) rfl (r_nil ?_)
          show Runs _ _ _ _ _ _ _
          refine r_nil (.inl ⟨ln.length - (start + w - 3), _, _, by lia, .inl rfl, start + w - 3, acc' ++ [(ln.drop start).take (w - 2)], _, rfl, rfl, by rw [strsOf_snoc], by lia, ?_⟩)
          rw [← hacc, List.append_assoc, encGo_fuel ln w hw1 (ln.length - (start + w - 3)) fu (start + w - 3) (Nat.le_refl _) (by lia)]
          rfl
        · have h1 : ¬ ln[start + w - 3] = 61 := of_decide_eq_false (t1.symm.trans h1)
          rw [if_neg (by simpa using h1)] at hacc hacl
          refine r_if (t_cmp (e_sub (e_var 7 rfl rfl rfl) (e_bin (e_var 10 rfl rfl rfl) e_int o_sub_ii) (o_item_str (seq_ok (by lia)) hc2 (fun _ _ => rfl))) e_str o_eq_ss rfl) (fun h2 => ?_) (fun h2 => ?_)
          · have h2 : ln[start + w - 2] = 61 := of_decide_eq_true (t2.symm.trans h2)
            rw [if_pos (by rw [h2])] at hacc hacl
            rw [List.length_cons] at hacl
            refine r_append2 6 rfl rfl rfl (Evals.eq (e_slice_str (e_var 7 rfl rfl rfl) (p_some (e_var 8 rfl rfl rfl)) (p_some (e_var 10 rfl rfl rfl)) (by rw [mk_len]; exact big _ (by lia))) (congrArg PV.str ((slice_nat (nb := start + w - 1) rfl (by lia) (by lia) (by lia)).trans (congrArg mk (by rw [show start + w - 1 - start = w - 1 by lia]))))) (by unfold strsOf txts; simp only [List.length_map]; exact big _ (by lia)) rfl rfl rfl ?_
            refine r_assign 8 (p := .int ((start + w - 2 : Nat) : Int)) (Evals.eq (e_bin (e_var 10 rfl rfl rfl) e_int o_sub_ii) (congrArg PV.int (by lia))) ⟨rfl, .inl (by kernel_rfl)⟩ (.tail (.tail (.tail (.tail (.tail (.tail (.tail (.tail .head)))))))) rfl (r_nil ?_)
            show Runs _ _ _ _ _ _ _
            refine r_nil ?_
            show Runs _ _ _ _ _ _ _
            refine r_nil (.inl ⟨ln.length - (start + w - 2), _, _, by lia, .inl rfl, start + w - 2, acc' ++ [(ln.drop start).take (w - 1)], _, rfl, rfl, by rw [strsOf_snoc], by lia, ?_⟩)
            rw [← hacc, List.append_assoc, encGo_fuel ln w hw1 (ln.length - (start + w - 2)) fu (start + w - 2) (Nat.le_refl _) (by lia)]
            rfl
          · have h2 : ¬ ln[start + w - 2] = 61 := of_decide_eq_false (t2.symm.trans h2)
            rw [if_neg (by simpa using h2)] at hacc hacl
            rw [List.length_cons] at hacl
            refine r_append2 6 rfl rfl rfl (Evals.eq (e_bin (Evals.eq (e_slice_str (e_var 7 rfl rfl rfl) (p_some (e_var 8 rfl rfl rfl)) (p_some (e_var 10 rfl rfl rfl)) (by rw [mk_len]; exact big _ (by lia))) (congrArg PV.str ((slice_nat (nb := start + w - 1) rfl (by lia) (by lia) (by lia)).trans (congrArg mk (by rw [show start + w - 1 - start = w - 1 by lia]))))) e_str (o_add_ss (by rw [mk_len]; have h1 : (Str.ofString "=").length = 1 := rfl; rw [h1]; exact big _ (by simp; lia)))) (congrArg PV.str (mk_snoc _ 61))) (by unfold strsOf txts; simp only [List.length_map]; exact big _ (by lia)) rfl rfl rfl ?_
            refine r_assign 8 (p := .int ((start + w - 1 : Nat) : Int)) (Evals.eq (e_var 10 rfl rfl rfl) (congrArg PV.int (by lia))) ⟨rfl, .inl (by kernel_rfl)⟩ (.tail (.tail (.tail (.tail (.tail (.tail (.tail (.tail .head)))))))) rfl (r_nil ?_)
            show Runs _ _ _ _ _ _ _
            refine r_nil ?_
            show Runs _ _ _ _ _ _ _
            refine r_nil (.inl ⟨ln.length - (start + w - 1), _, _, by lia, .inl rfl, start + w - 1, acc' ++ [(ln.drop start).take (w - 1) ++ [61]], _, rfl, rfl, by rw [strsOf_snoc], by lia, ?_⟩)
            rw [← hacc, List.append_assoc, encGo_fuel ln w hw1 (ln.length - (start + w - 1)) fu (start + w - 1) (Nat.le_refl _) (by lia)]
            rfl
      · left
        refine ⟨Tests.eq (t_cmp (e_var 8 rfl rfl rfl) (e_var 9 rfl rfl rfl) o_le_ii rfl) (by simp; lia), ?_⟩
        have hfin : encGo ln w (ln.length - start) start = [ln.drop start] := by
          cases hq : ln.length - start with
          | zero => rfl
          | succ n => unfold encGo; rw [if_neg hgo]
        rw [hfin] at hacc hacl
        show Runs _ _ _ _ _ _ _
        have tail : ∀ (t : Expr) (b1 b2 : List Stmt) (pp : Pos) (e2 : Expr) (sts : List Stmt), True := fun _ _ _ _ _ _ => trivial
        refine r_if_f ?_ ?_
        · rcases List.eq_nil_or_concat ln with he | ⟨pre, x, he⟩
          · subst he
            exact Tests.eq (t_and (b := false) (t_plain (e_var 7 rfl rfl rfl) (tr_str (by rw [mk_len]; lia)) (fun _ => rfl)) fun h => absurd h (by decide)) rfl
          · have hlast : ln.getLast? = some x := by rw [he]; simp
            have hc : (seqIndex? (-1) (mk ln).length).bind ((mk ln).cps[·]?) = some x := by
              rw [mk_len, seqIndex?_neg_one (by rw [he]; simp)]
              rw [he]; simp
            have he2 := H.ends ln hmem x hlast
            exact Tests.eq (t_and (t_plain (e_var 7 rfl rfl rfl) (tr_str (by rw [mk_len]; lia)) (fun _ => rfl)) fun _ => (t_and (t_cmp (e_sub (e_var 7 rfl rfl rfl) (e_neg e_int) (o_item_str rfl hc (fun _ _ => rfl))) e_str o_in_ss rfl) fun _ => t_and_nil)) (by rw [he2]; simp)
        · refine r_append2 6 rfl rfl rfl (Evals.eq (e_slice_str (e_var 7 rfl rfl rfl) (p_some (e_var 8 rfl rfl rfl)) p_none (by rw [mk_len]; exact big _ (by lia))) (congrArg PV.str (slice_from (na := start) rfl hst))) (by unfold strsOf txts; simp only [List.length_map]; exact big _ (by simp at hacl; lia)) rfl rfl rfl (r_nil ?_)
          show Runs _ _ _ _ _ _ _
          refine r_nil (.inl ⟨_, _, .inl rfl, rfl, rest, _, _, _, _, _, _, acc' ++ [ln.drop start], rfl, fun y hy => hsub y (List.mem_cons_of_mem _ hy), rfl, by rw [strsOf_snoc], ?_⟩)
          rw [hacc, ← htot, List.flatMap_cons, List.append_assoc]
  · rintro ρ ww ⟨rest, x7, x8, x9, x10, x11, x12, acc, e, _, rfl, rfl, htot⟩
    cases rest with
    | cons _ _ => cases e
    | nil =>
      show Runs _ _ _ _ _ _ _
      have ha : acc = ls.flatMap fun x => encLine x w := by simpa using htot
      have hal : acc.length ≤ 100000 := by rw [ha]; have := H.total; lia
      have fin : ∀ acc2, acc2 = encAll ls w z → Runs c k (fnFrm (mkFd 28 fx dflt) f L hE ["body", "maxlinelen", "eol", "soft_break", "maxlinelen1", "encoded_body", "append", "line", "start", "laststart", "stop", "room", "q"] X0) [some (.str tr), some (.int (w : Int)), some (.str eol), some (.str (Str.ofString "=" ++ eol)), some (.int ((w : Int) - 1)), some (.val (.ref D)), some (.app D), x7, x8, x9, x10, x11, x12] (some (D, txts acc2)) ((dBody (stAt 28)).drop 9) (fun o => o = .ret (.str (Builtin.Str.glued eol (encAll ls w z))) false) := by
        rintro acc2 rfl
        refine r_freeze 5 rfl (.tail (.tail (.tail (.tail (.tail .head))))) ?_
        exact r_ret (e_smeth PySem.F.slot_str_join PySem.F.type_str_join (e_var 2 rfl rfl rfl) (l_cons (e_var 5 rfl rfl rfl) l_nil rfl) (m_join H.join H.joinsz) rfl rfl rfl (fun _ => ⟨_, _, rfl, rfl⟩) rfl) rfl
      refine r_if (Tests.eq (t_cmp (e_sub (e_var 0 rfl rfl rfl) (e_neg e_int) (o_item_str rfl H.last (fun _ _ => rfl))) (e_globP (by kernel_rfl) CR rfl) o_in_ss rfl) H.crlf) (fun hz => ?_) (fun hz => ?_)
      · have hz : z = 13 ∨ z = 10 := of_decide_eq_true hz
        refine r_append2 6 rfl rfl rfl e_str (by unfold strsOf txts; simp only [List.length_map]; exact big _ (by lia)) rfl rfl rfl (r_nil ?_)
        have e : strsOf acc ++ [PV.str (Str.ofString "")] = txts ((acc ++ [[]]).map mk) := strsOf_snoc acc []
        rw [e]
        exact fin ((acc ++ [[]]).map mk) (by unfold encAll; rw [if_pos hz, ha])
      · have hz : ¬ (z = 13 ∨ z = 10) := of_decide_eq_false hz
        refine r_nil ?_
        exact fin (acc.map mk) (by unfold encAll; rw [if_neg hz, List.append_nil, ha])
end
end Mine
namespace Mine
open PySem PySem.W PyProof.Rows

theorem o_iadd_ii {c : Cx} {k : Nat} {a b : Int} : Op2 c k (inplaceOp .Add) (.int a) (.int b) (.int (a + b)) := op2_ii fun A s t u _ pos Q h => by with_reducible exact iadd_int (h _ _ ExtW.toks fun _ => rdI)
theorem mk_app (a b : List Nat) : (mk a ++ mk b : Str) = mk (a ++ b) := by
  show (⟨a.toArray ++ b.toArray⟩ : Str) = _
  congr 1; simp
noncomputable abbrev hexS : Str := Str.ofString "0123456789abcdefABCDEF"
noncomputable def isHx (x : Nat) : Bool := !(Builtin.Str.occurrences hexS ⟨#[x]⟩ 0 hexS.length 1).isEmpty
/-- one line, read: the fuel is what is left; none: a case that this law never meets -/
noncomputable def decGo (l e : List Nat) : Nat → Nat → Option (List Nat)
  | 0, i => if i < l.length then none else some []
  | m + 1, i =>
    if h : i < l.length then
      let one := (decGo l e m (i + 1)).map fun r => l[i] :: ((if i + 1 = l.length then e else []) ++ r)
      if l[i] = 61 then
        if i + 1 = l.length then decGo l e m (i + 1)
        else if h2 : i + 2 < l.length then
          if isHx l[i + 1] && isHx l[i + 2] then
            if l[i + 1] = 51 ∧ l[i + 2] = 68 then (decGo l e m (i + 3)).map fun r => 61 :: ((if i + 3 = l.length then e else []) ++ r) else none
          else one
        else one
      else one
    else some []
/-- a line of the text, read -/
noncomputable def decLine (l e : List Nat) : Option (List Nat) := if l.length = 0 then some e else decGo l e l.length 0
noncomputable def decAll (e : List Nat) : List (List Nat) → Option (List Nat)
  | [] => some []
  | l :: ls => (decLine l e).bind fun a => (decAll e ls).map (a ++ ·)
noncomputable def forBody : Stmt → List Stmt
  | .For _ _ b _ _ => b
  | _ => []
noncomputable def ifElse : Stmt → List Stmt
  | .If _ _ b _ => b
  | _ => []
noncomputable def ifTest : Stmt → Expr
  | .If t _ _ _ => t
  | _ => default
noncomputable def whileBody : Stmt → List Stmt
  | .While _ b _ _ => b
  | _ => []

structure DecOk (enc : Str) (e : List Nat) (ls rs : List (List Nat)) (tot : List Nat) (z : Nat) (fin : Str) : Prop where
  ne : enc.length ≠ 0
  sz : enc.length ≤ 100000
  cuts : (lineCuts enc).length ≤ 100000
  lines : linesS enc = ls.map mk
  strip : ls.map (fun l => Txt.rstrip (mk l)) = rs.map mk
  lsz : ∀ l ∈ ls, l.length ≤ 100000
  rsz : ∀ l ∈ rs, l.length ≤ 100000
  all : decAll e rs = some tot
  totsz : tot.length ≤ 100000
  esz : e.length ≤ 10
  last : (seqIndex? (-1) enc.length).bind (enc.cps[·]?) = some z
  fin : (if (!(!(Builtin.Str.occurrences (Str.ofString "\r\n") ⟨#[z]⟩ 0 (Str.ofString "\r\n").length 1).isEmpty)) && Txt.endswith (mk tot) (mk e) then sliceS (mk tot) none (some (-((mk e).length : Int))) else mk tot) = fin

/-- what holds of the loop over the lines -/
inductive DecA (enc : Str) (e : List Nat) (ls rs : List (List Nat)) (tot : List Nat) (xs : List PV) (ρ : List (Option PV)) (ww : Ow) : Prop
  | it (rest rrest : List (List Nat)) (x3 x4 x5 x6 : Option PV) (acc r : List Nat) (h1 : xs = strsOf rest) (h2 : ∀ x ∈ rest, x ∈ ls) (h3 : ∀ x ∈ rrest, x ∈ rs) (h4 : rest.map (fun l => Txt.rstrip (mk l)) = rrest.map mk) (h5 : ρ = [some (.str enc), some (.str (mk e)), some (.str (mk acc)), x3, x4, x5, x6]) (h6 : ww = none) (h7 : decAll e rrest = some r) (h8 : acc ++ r = tot) : DecA enc e ls rs tot xs ρ ww
/-- what holds of the loop over a line's signs -/
inductive DecB (enc : Str) (e ln acc a : List Nat) (m : Nat) (ρ : List (Option PV)) (ww : Ow) : Prop
  | it (i : Nat) (y6 : Option PV) (acc' r' : List Nat) (h1 : ρ = [some (.str enc), some (.str (mk e)), some (.str (mk acc')), some (.str (mk ln)), some (.int ((i : Nat) : Int)), some (.int ((ln.length : Nat) : Int)), y6]) (h2 : ww = none) (h3 : decGo ln e m i = some r') (h4 : acc' ++ r' = acc ++ a) : DecB enc e ln acc a m ρ ww
section
variable {c : Cx} {k : Nat} (G : Glob c) {f L : Addr} {hE : Heap} {X0 : List Addr} {fx : FX} {dflt : Value}
include G

theorem run_dec {enc : Str} {e : List Nat} {ls rs : List (List Nat)} {tot : List Nat} {z : Nat} {fin : Str} {fu : Addr} (HX : GConst c "hexdigits" (.str hexS)) (Nu : FnName c "unquote" fu) (U : Fn c k fu [.str (eqHex 61)] (.str ⟨#[61]⟩)) (H : DecOk enc e ls rs tot z fin) :
    Runs c k (fnFrm (mkFd 29 fx dflt) f L hE ["encoded", "eol", "decoded", "line", "i", "n", "c"] X0) [some (.str enc), some (.str (mk e)), none, none, none, none, none] none (dBody (stAt 29)) (fun o => o = .ret (.str fin) false) := by
  have big : ∀ n : Nat, n ≤ 200000 → n ≤ sizeLine := fun n h => Nat.le_trans h (Nat.le_of_ble_eq_true rfl)
  refine r_if_f (Tests.eq (t_not (t_plain (e_var 0 rfl rfl rfl) (tr_str (by have := H.sz; lia)) (fun _ => rfl))) (by have := H.ne; simp; lia)) (r_nil ?_)
  show Runs _ _ _ _ _ _ _
  refine r_assign 2 e_str ⟨rfl, .inl (by kernel_rfl)⟩ (.tail (.tail .head)) rfl ?_
  refine r_for (xs := strsOf ls) (ie_list (Evals.eq (e_smeth PySem.F.slot_str_splitlines PySem.F.type_str_splitlines (e_var 0 rfl rfl rfl) l_nil (m_splitlines (big _ (by have := H.sz; lia)) (big _ (by have := H.cuts; lia))) rfl rfl rfl (fun h => absurd rfl h) rfl) (by rw [H.lines]; rfl)))
    (forRuns_inv (fun xs ρ ww => DecA enc e ls rs tot xs ρ ww) ?_ ?_ _ _ _ ⟨ls, rs, none, none, none, none, [], tot, rfl, fun _ h => h, fun _ h => h, H.strip, rfl, rfl, H.all, rfl⟩) (fun _ => rfl)
  · rintro x xs ρ ww ⟨rest, rrest, x3, x4, x5, x6, acc, r, e0, hsub, hrsub, hst, rfl, rfl, hall, htot⟩
    cases rest with
    | nil => cases e0
    | cons ln0 rest =>
    cases rrest with
    | nil => cases hst
    | cons ln rrest =>
      have e0 : x :: xs = .str (mk ln0) :: strsOf rest := e0
      injection e0 with e1 e2
      subst e1; subst e2
      have hst : Txt.rstrip (mk ln0) :: rest.map (fun l => Txt.rstrip (mk l)) = mk ln :: rrest.map mk := hst
      injection hst with hs1 hs2
      have hl0 := H.lsz ln0 (hsub _ List.mem_cons_self)
      have hl := H.rsz ln (hrsub _ List.mem_cons_self)
      have htsz := H.totsz
      unfold decAll at hall
      obtain ⟨a, ha, hall⟩ := Option.bind_eq_some_iff.mp hall
      obtain ⟨r2, hr2, rfl⟩ := Option.map_eq_some_iff.mp hall
      have next : ∀ (ρ' : List (Option PV)) (acc' : List Nat), (∃ y3 y4 y5 y6, ρ' = [some (.str enc), some (.str (mk e)), some (.str (mk acc')), y3, y4, y5, y6]) → acc' = acc ++ a →
          DecA enc e ls rs tot (strsOf rest) ρ' none := by
        rintro ρ' acc' ⟨y3, y4, y5, y6, rfl⟩ rfl
        exact ⟨rest, rrest, y3, y4, y5, y6, acc ++ a, r2, rfl, fun y hy => hsub y (List.mem_cons_of_mem _ hy), fun y hy => hrsub y (List.mem_cons_of_mem _ hy), hs2, rfl, rfl, hr2, by rw [List.append_assoc]; exact htot⟩
      have hasz : acc.length + a.length ≤ 100000 := by
        have := congrArg List.length htot
        simp only [List.length_append] at this
        lia
      refine ⟨_, asg_name 3 ⟨rfl, .inl (by kernel_rfl)⟩ (.tail (.tail (.tail .head))), ?_⟩
      refine r_assign 3 (Evals.eq (e_smeth PySem.F.slot_str_rstrip PySem.F.type_str_rstrip (e_var 3 rfl rfl rfl) l_nil (m_rstrip (big _ (by rw [mk_len]; lia))) rfl rfl rfl (fun h => absurd rfl h) rfl) (congrArg PV.str hs1)) ⟨rfl, .inl (by kernel_rfl)⟩ (.tail (.tail (.tail .head))) rfl ?_
      unfold decLine at ha
      refine r_if (t_not (t_plain (e_var 3 rfl rfl rfl) (tr_str (by rw [mk_len]; lia)) (fun _ => rfl))) (fun hz => ?_) (fun hz => ?_)
      · have hz : ln.length = 0 := by simpa [mk_len] using hz
        rw [if_pos hz] at ha
        cases ha
        refine r_aug 2 rfl (e_var 1 rfl rfl rfl) (o_iadd_ss (by rw [mk_len, mk_len]; exact big _ (by lia))) ⟨rfl, .inl (by kernel_rfl)⟩ (.tail (.tail .head)) ?_
        exact r_cont (.inl ⟨_, _, .inr rfl, rfl, next _ (acc ++ e) ⟨_, _, _, _, by rw [mk_app]⟩ rfl⟩)
      · have hz : ¬ ln.length = 0 := by simpa [mk_len] using hz
        rw [if_neg hz] at ha
        refine r_nil ?_
        show Runs _ _ _ _ _ _ _
        refine r_assign 4 e_int ⟨rfl, .inl (by kernel_rfl)⟩ (.tail (.tail (.tail (.tail .head)))) rfl ?_
        refine r_assign 5 (Evals.eq (e_cb (by kernel_rfl) (G.nob _ (by decide +kernel)) (by kernel_rfl) (by decide +kernel) rfl (l_cons (e_var 3 rfl rfl rfl) l_nil rfl) (b_len_str (by rw [mk_len]; lia)) rfl (fun _ => ⟨_, _, rfl, rfl⟩) rfl) (congrArg PV.int (show ((mk ln).length : Int) = ((ln.length : Nat) : Int) by rw [mk_len]))) ⟨rfl, .inl (by kernel_rfl)⟩ (.tail (.tail (.tail (.tail (.tail .head))))) rfl ?_
        refine r_while (whileRuns_inv (fun m ρ ww => DecB enc e ln acc a m ρ ww) ?_ ln.length _ _ ⟨0, x6, acc, a, rfl, rfl, ha, rfl⟩)
        rintro m ρ ww ⟨i, y6, acc', r', rfl, rfl, hgo, hacc⟩
        have hacl : acc'.length + r'.length ≤ 100000 := by
          have := congrArg List.length hacc
          simp only [List.length_append] at this
          lia
        by_cases hi : i < ln.length
        · right
          refine ⟨Tests.eq (t_cmp (e_var 4 rfl rfl rfl) (e_var 5 rfl rfl rfl) o_lt_ii rfl) (by simp; lia), ?_⟩
          cases m with
          | zero => unfold decGo at hgo; rw [if_pos hi] at hgo; cases hgo
          | succ m =>
          unfold decGo at hgo
          rw [dif_pos hi] at hgo
          have hc0 : (seqIndex? ((i : Nat) : Int) (mk ln).length).bind ((mk ln).cps[·]?) = some ln[i] := item_nat rfl (by simp [hi])
          refine r_assign 6 (e_sub (e_var 3 rfl rfl rfl) (e_var 4 rfl rfl rfl) (o_item_str (seq_ok (by lia)) hc0 (fun _ _ => rfl))) ⟨rfl, .inl (by kernel_rfl)⟩ (.tail (.tail (.tail (.tail (.tail (.tail .head)))))) rfl ?_
          have tail : ∀ (TAILP : Out → Prop) (i' : Nat) (acc2 r2 : List Nat) (hle : acc2.length + ((if i' = ln.length then e else []) ++ r2).length ≤ 100000), decGo ln e m i' = some r2 → acc2 ++ ((if i' = ln.length then e else []) ++ r2) = acc ++ a →
              Runs c k (fnFrm (mkFd 29 fx dflt) f L hE ["encoded", "eol", "decoded", "line", "i", "n", "c"] X0) [some (.str enc), some (.str (mk e)), some (.str (mk acc2)), some (.str (mk ln)), some (.int ((i' : Nat) : Int)), some (.int ((ln.length : Nat) : Int)), some (.str ⟨#[ln[i]]⟩)] none ((whileBody ((forBody ((dBody (stAt 29))[2]?.getD default))[4]?.getD default)).drop 2)
                (fun o => (∃ m' r w', m' < m + 1 ∧ (o = .next r w' ∨ o = .cont r w') ∧ DecB enc e ln acc a m' r w') ∨ (∃ r w', o = .brk r w' ∧ TAILP (.next r w')) ∨ (∃ p fr, o = .ret p fr ∧ TAILP (.ret p fr))) := by
            intro TAILP i' acc2 r2 hle hg2 he2
            refine r_if (t_cmp (e_var 4 rfl rfl rfl) (e_var 5 rfl rfl rfl) o_eq_ii rfl) (fun h => ?_) (fun h => ?_)
            · have h : i' = ln.length := by simp at h; lia
              rw [if_pos h] at he2 hle
              simp only [List.length_append] at hle
              refine r_aug 2 rfl (e_var 1 rfl rfl rfl) (o_iadd_ss (by rw [mk_len, mk_len]; exact big _ (by lia))) ⟨rfl, .inl (by kernel_rfl)⟩ (.tail (.tail .head)) (r_nil ?_)
              show Runs _ _ _ _ _ _ _
              exact r_nil (.inl ⟨m, _, _, Nat.lt_succ_self m, .inl rfl, ⟨i', _, acc2 ++ e, r2, by rw [mk_app], rfl, hg2, by rw [← he2, List.append_assoc]⟩⟩)
            · have h : ¬ i' = ln.length := by simp at h; lia
              rw [if_neg h] at he2
              refine r_nil ?_
              show Runs _ _ _ _ _ _ _
              exact r_nil (.inl ⟨m, _, _, Nat.lt_succ_self m, .inl rfl, ⟨i', _, acc2, r2, rfl, rfl, hg2, he2⟩⟩)
          -- the plain turn
          have plain : ∀ (r2 : List Nat), decGo ln e m (i + 1) = some r2 → r' = ln[i] :: ((if i + 1 = ln.length then e else []) ++ r2) → (acc' ++ [ln[i]]).length + ((if i + 1 = ln.length then e else []) ++ r2).length ≤ 100000 ∧ (acc' ++ [ln[i]]) ++ ((if i + 1 = ln.length then e else []) ++ r2) = acc ++ a := by
            rintro r2 _ rfl
            refine ⟨by simp only [List.length_append, List.length_cons, List.length_nil] at hacl ⊢; lia, by rw [← hacc]; simp⟩
          have t0 := @eq_one ln[i] 61
          refine r_if (t_cmp (e_var 6 rfl rfl rfl) e_str o_ne_ss rfl) (fun h1 => ?_) (fun h1 => ?_)
          · have h1 : ¬ ln[i] = 61 := by
              have h1 : (!((⟨#[ln[i]]⟩ : Str) == ⟨#[61]⟩)) = true := h1
              rw [t0] at h1; simpa using h1
            rw [if_neg h1] at hgo
            obtain ⟨r2, hr2, e2⟩ := Option.map_eq_some_iff.mp hgo
            obtain ⟨p1, p2⟩ := plain r2 hr2 e2.symm
            refine r_aug 2 rfl (e_var 6 rfl rfl rfl) (o_iadd_ss (by rw [mk_len]; exact big _ (by show acc'.length + 1 ≤ _; lia))) ⟨rfl, .inl (by kernel_rfl)⟩ (.tail (.tail .head)) ?_
            refine r_aug 4 rfl e_int o_iadd_ii ⟨rfl, .inl (by kernel_rfl)⟩ (.tail (.tail (.tail (.tail .head)))) (r_nil ?_)
            show Runs _ _ _ _ _ _ _
            rw [mk_snoc]
            exact tail _ (i + 1) (acc' ++ [ln[i]]) r2 p1 hr2 p2
          · have h1 : ln[i] = 61 := by
              have h1 : (!((⟨#[ln[i]]⟩ : Str) == ⟨#[61]⟩)) = false := h1
              rw [t0] at h1; simpa using h1
            rw [if_pos h1] at hgo
            refine r_if (t_cmp (e_bin (e_var 4 rfl rfl rfl) e_int o_add_ii) (e_var 5 rfl rfl rfl) o_eq_ii rfl) (fun h2 => ?_) (fun h2 => ?_)
            · have h2 : i + 1 = ln.length := by simp at h2; lia
              rw [if_pos h2] at hgo
              refine r_aug 4 rfl e_int o_iadd_ii ⟨rfl, .inl (by kernel_rfl)⟩ (.tail (.tail (.tail (.tail .head)))) ?_
              exact r_cont (.inl ⟨m, _, _, Nat.lt_succ_self m, .inr rfl, ⟨i + 1, _, acc', r', rfl, rfl, hgo, hacc⟩⟩)
            · have h2 : ¬ i + 1 = ln.length := by simp at h2; lia
              rw [if_neg h2] at hgo
              -- the third test
              have third : ∃ b3 : Bool, Tests c k ((fnFrm (mkFd 29 fx dflt) f L hE ["encoded", "eol", "decoded", "line", "i", "n", "c"] X0).at [some (.str enc), some (.str (mk e)), some (.str (mk acc')), some (.str (mk ln)), some (.int ((i : Nat) : Int)), some (.int ((ln.length : Nat) : Int)), some (.str ⟨#[ln[i]]⟩)] none) (ifTest ((ifElse ((ifElse ((whileBody ((forBody ((dBody (stAt 29))[2]?.getD default))[4]?.getD default))[1]?.getD default))[0]?.getD default))[0]?.getD default)) b3 ∧ (b3 = true → ∃ h3 : i + 2 < ln.length, (isHx ln[i + 1] && isHx ln[i + 2]) = true) ∧ (b3 = false → ∀ h3 : i + 2 < ln.length, ¬ (isHx ln[i + 1] && isHx ln[i + 2]) = true) := by
                by_cases h3 : i + 2 < ln.length
                · have hc1 : (seqIndex? (((i : Nat) : Int) + 1) (mk ln).length).bind ((mk ln).cps[·]?) = some ln[i + 1] := item_nat (n := i + 1) (by lia) (by simp [show i + 1 < ln.length by lia])
                  have hc2 : (seqIndex? (((i : Nat) : Int) + 2) (mk ln).length).bind ((mk ln).cps[·]?) = some ln[i + 2] := item_nat (n := i + 2) (by lia) (by simp [h3])
                  refine ⟨_, t_and (t_cmp (e_bin (e_var 4 rfl rfl rfl) e_int o_add_ii) (e_var 5 rfl rfl rfl) o_lt_ii rfl) fun _ => t_and (t_cmp (e_sub (e_var 3 rfl rfl rfl) (e_bin (e_var 4 rfl rfl rfl) e_int o_add_ii) (o_item_str (seq_ok (by lia)) hc1 (fun _ _ => rfl))) (e_globP (by kernel_rfl) HX rfl) o_in_ss rfl) fun _ => t_and (t_cmp (e_sub (e_var 3 rfl rfl rfl) (e_bin (e_var 4 rfl rfl rfl) e_int o_add_ii) (o_item_str (seq_ok (by lia)) hc2 (fun _ _ => rfl))) (e_globP (by kernel_rfl) HX rfl) o_in_ss rfl) fun _ => t_and_nil, fun h => ⟨h3, ?_⟩, fun h _ h' => ?_⟩
                  · have h : (decide ((i : Int) + 2 < (ln.length : Int)) && (isHx ln[i + 1] && (isHx ln[i + 2] && true))) = true := h
                    simp only [Bool.and_eq_true] at h ⊢
                    exact ⟨h.2.1, h.2.2.1⟩
                  · have h : (decide ((i : Int) + 2 < (ln.length : Int)) && (isHx ln[i + 1] && (isHx ln[i + 2] && true))) = false := h
                    simp only [Bool.and_eq_true] at h'
                    rw [h'.1, h'.2, decide_eq_true (show (i : Int) + 2 < (ln.length : Int) by lia)] at h
                    cases h
                · exact ⟨_, t_and (b := false) (t_cmp (e_bin (e_var 4 rfl rfl rfl) e_int o_add_ii) (e_var 5 rfl rfl rfl) o_lt_ii rfl) fun h => absurd (of_decide_eq_true h) (by lia), fun h => absurd h (by rw [Bool.and_false]; decide), fun _ h' => absurd h' h3⟩
              obtain ⟨b3, T3, ht3, hf3⟩ := third
              refine r_if T3 (fun h3 => ?_) (fun h3 => ?_)
              · obtain ⟨hlt, hx⟩ := ht3 h3
                rw [dif_pos hlt, if_pos hx] at hgo
                by_cases hq : ln[i + 1] = 51 ∧ ln[i + 2] = 68
                · rw [if_pos hq] at hgo
                  obtain ⟨r2, hr2, rfl⟩ := Option.map_eq_some_iff.mp hgo
                  have hsl : sliceS (mk ln) (some (i : Int)) (some ((i : Int) + 3)) = eqHex 61 := by
                    rw [slice_nat (na := i) (nb := i + 3) rfl (by lia) (by lia) (by lia)]
                    have e3 : (ln.drop i).take (i + 3 - i) = [61, 51, 68] := by
                      rw [show i + 3 - i = 3 by lia, List.drop_eq_getElem_cons hi, List.drop_eq_getElem_cons (show i + 1 < ln.length by lia), List.drop_eq_getElem_cons (show i + 1 + 1 < ln.length from hlt)]
                      simp only [List.take_succ_cons, List.take_zero]
                      rw [h1, hq.1, show ln[i + 1 + 1] = 68 from hq.2]
                    rw [e3]
                    rfl
                  refine r_aug 2 rfl (e_cf Nu (by kernel_rfl) (by kernel_rfl) (l_cons (Evals.eq (e_slice_str (e_var 3 rfl rfl rfl) (p_some (e_var 4 rfl rfl rfl)) (p_some (e_bin (e_var 4 rfl rfl rfl) e_int o_add_ii)) (by rw [mk_len]; exact big _ (by lia))) (congrArg PV.str hsl)) l_nil rfl) U rfl (fun _ => ⟨_, _, rfl, rfl⟩) rfl) (o_iadd_ss (by rw [mk_len]; simp only [List.length_cons] at hacl; exact big _ (by show acc'.length + 1 ≤ _; lia))) ⟨rfl, .inl (by kernel_rfl)⟩ (.tail (.tail .head)) ?_
                  refine r_aug 4 rfl e_int o_iadd_ii ⟨rfl, .inl (by kernel_rfl)⟩ (.tail (.tail (.tail (.tail .head)))) (r_nil ?_)
                  show Runs _ _ _ _ _ _ _
                  refine r_nil ?_
                  show Runs _ _ _ _ _ _ _
                  refine r_nil ?_
                  show Runs _ _ _ _ _ _ _
                  rw [mk_snoc]
                  exact tail _ (i + 3) (acc' ++ [61]) r2 (by simp only [List.length_append, List.length_cons, List.length_nil] at hacl ⊢; lia) hr2 (by rw [← hacc]; simp)
                · rw [if_neg hq] at hgo; cases hgo
              · have hone : (decGo ln e m (i + 1)).map (fun r => ln[i] :: ((if i + 1 = ln.length then e else []) ++ r)) = some r' := by
                  by_cases hlt : i + 2 < ln.length
                  · rw [dif_pos hlt, if_neg (hf3 h3 hlt)] at hgo; exact hgo
                  · rw [dif_neg hlt] at hgo; exact hgo
                obtain ⟨r2, hr2, e2⟩ := Option.map_eq_some_iff.mp hone
                obtain ⟨p1, p2⟩ := plain r2 hr2 e2.symm
                refine r_aug 2 rfl (e_var 6 rfl rfl rfl) (o_iadd_ss (by rw [mk_len]; exact big _ (by show acc'.length + 1 ≤ _; lia))) ⟨rfl, .inl (by kernel_rfl)⟩ (.tail (.tail .head)) ?_
                refine r_aug 4 rfl e_int o_iadd_ii ⟨rfl, .inl (by kernel_rfl)⟩ (.tail (.tail (.tail (.tail .head)))) (r_nil ?_)
                show Runs _ _ _ _ _ _ _
                refine r_nil ?_
                show Runs _ _ _ _ _ _ _
                refine r_nil ?_
                show Runs _ _ _ _ _ _ _
                rw [mk_snoc]
                exact tail _ (i + 1) (acc' ++ [ln[i]]) r2 p1 hr2 p2
        · left
          refine ⟨Tests.eq (t_cmp (e_var 4 rfl rfl rfl) (e_var 5 rfl rfl rfl) o_lt_ii rfl) (by simp; lia), ?_⟩
          have hr' : r' = [] := by
            cases m with
            | zero => unfold decGo at hgo; rw [if_neg hi] at hgo; cases hgo; rfl
            | succ m => unfold decGo at hgo; rw [dif_neg hi] at hgo; cases hgo; rfl
          subst hr'
          rw [List.append_nil] at hacc
          show Runs _ _ _ _ _ _ _
          exact r_nil (.inl ⟨_, _, .inl rfl, rfl, next _ acc' ⟨_, _, _, _, rfl⟩ hacc⟩)
  · rintro ρ ww ⟨rest, rrest, x3, x4, x5, x6, acc, r, e0, _, _, hst, rfl, rfl, hall, htot⟩
    cases rest with
    | cons _ _ => cases e0
    | nil =>
    cases rrest with
    | cons _ _ => cases hst
    | nil =>
      cases hall
      rw [List.append_nil] at htot
      subst htot
      show Runs _ _ _ _ _ _ _
      have htsz := H.totsz
      have hfin := H.fin
      have hesz := H.esz
      refine r_if (t_and (t_cmp (e_sub (e_var 0 rfl rfl rfl) (e_neg e_int) (o_item_str rfl H.last (fun _ _ => rfl))) e_str o_notin_ss rfl) fun _ => t_and (t_plain (e_smeth PySem.F.slot_str_endswith PySem.F.type_str_endswith (e_var 2 rfl rfl rfl) (l_cons (e_var 1 rfl rfl rfl) l_nil rfl) m_endswith rfl rfl rfl (fun _ => ⟨_, _, rfl, rfl⟩) rfl) tr_bool (fun _ => rfl)) fun _ => t_and_nil) (fun h => ?_) (fun h => ?_)
      · rw [Bool.and_true] at h
        rw [if_pos h] at hfin
        refine r_assign 2 (Evals.eq (e_slice_str (e_var 2 rfl rfl rfl) p_none (p_some (e_neg (e_cb (by kernel_rfl) (G.nob _ (by decide +kernel)) (by kernel_rfl) (by decide +kernel) rfl (l_cons (e_var 1 rfl rfl rfl) l_nil rfl) (b_len_str (by rw [mk_len]; lia)) rfl (fun _ => ⟨_, _, rfl, rfl⟩) rfl))) (by rw [mk_len]; exact big _ (by lia))) (congrArg PV.str hfin)) ⟨rfl, .inl (by kernel_rfl)⟩ (.tail (.tail .head)) rfl (r_nil ?_)
        show Runs _ _ _ _ _ _ _
        exact r_ret (e_var 2 rfl rfl rfl) rfl
      · rw [Bool.and_true] at h
        rw [if_neg (by rw [h]; decide)] at hfin
        refine r_nil ?_
        show Runs _ _ _ _ _ _ _
        exact r_ret (e_var 2 rfl rfl rfl) (by rw [hfin])
end
end Mine
namespace Mine
open PySem PySem.W PyProof.Rows

noncomputable def unitsOf (t : List Nat) : List (List Nat) := t.map fun n => if n = 61 then [61, 51, 68] else [n]
/-- what _law_written writes -/
noncomputable def writGo (w : Nat) (e : List Nat) : List (List Nat) → List Nat → List Nat → List Nat
  | [], body, row => body ++ row
  | u :: us, body, row => if w ≤ (row ++ u).length ∧ w < (row ++ (u :: us).flatten).length then writGo w e us (body ++ row ++ [61] ++ e) u else writGo w e us body (row ++ u)
noncomputable def writ (t : List Nat) (w : Nat) (e : List Nat) : List Nat := writGo w e (unitsOf t) [] []

theorem glued_nil (xs : List (List Nat)) : Builtin.Str.glued (Str.ofString "") (xs.map mk) = mk xs.flatten := by
  have hf : ∀ (ys : List (List Nat)) (acc : List Nat), (ys.map mk).foldl (fun (a : Array Nat) (p : Str) => a ++ (Str.ofString "").cps ++ p.cps) acc.toArray = (acc ++ ys.flatten).toArray := by
    intro ys
    induction ys with
    | nil => intro acc; simp
    | cons y ys ih =>
      intro acc
      have h0 : (Str.ofString "").cps = #[] := rfl
      rw [List.map_cons, List.foldl_cons, h0, Array.append_empty]
      have : acc.toArray ++ (mk y).cps = (acc ++ y).toArray := by show acc.toArray ++ y.toArray = _; simp
      rw [this]
      have := ih (acc ++ y)
      rw [h0] at this
      rw [this]
      simp
  cases xs with
  | nil => rfl
  | cons x xs =>
    show (⟨(xs.map mk).foldl _ x.toArray⟩ : Str) = _
    rw [hf xs x]
    rfl
theorem long_nil (xs : List (List Nat)) (h : xs.flatten.length ≤ 100000) : Builtin.Str.tooLong ((xs.map mk).toArray.foldl (· + ·.length + (Str.ofString "").length) 0) = false := by
  have hf : ∀ (ys : List (List Nat)) (a : Nat), (ys.map mk).foldl (fun (n : Nat) (p : Str) => n + p.length + (Str.ofString "").length) a = a + ys.flatten.length := by
    intro ys
    induction ys with
    | nil => intro a; rfl
    | cons y ys ih =>
      intro a
      rw [List.map_cons, List.foldl_cons, ih, mk_len]
      have h0 : (Str.ofString "").length = 0 := rfl
      rw [h0]
      simp
      lia
  have e : (xs.map mk).toArray.foldl (· + ·.length + (Str.ofString "").length) 0 = xs.flatten.length := by
    rw [List.foldl_toArray]
    rw [hf xs 0]; lia
  rw [e]
  have : ¬ xs.flatten.length > sizeLine := fun hh => absurd (Nat.lt_of_lt_of_le hh h) (Nat.not_lt.mpr (Nat.le_of_ble_eq_true rfl))
  exact decide_eq_false this
theorem sliceL_from (l : List PV) (a : Int) (na : Nat) (ha : a = (na : Int)) (h : na ≤ l.length) : sliceL l (some a) none none = l.drop na := by
  subst ha
  have e : sliceRange (sliceBounds (some (na : Int)) none none l.length).1 (sliceBounds (some (na : Int)) none none l.length).2.1 (sliceBounds (some (na : Int)) none none l.length).2.2 = (List.range (l.length - na)).map (na + ·) := by
    rw [← sliceRange_one]
    unfold sliceBounds
    have h1 : ¬ ((na : Int) < 0) := by lia
    simp only [Option.getD_none, h1, if_false, show (1 : Int) > 0 by decide, if_true]
    congr 1 <;> lia
  unfold sliceL
  rw [e]
  unfold picks
  have : ∀ n, (((List.range n).map (na + ·)).filterMap (l[·]?)) = (l.drop na).take n := by
    intro n
    induction n with
    | zero => simp
    | succ n ih =>
      rw [List.range_succ, List.map_append, List.filterMap_append, ih, List.take_add_one]
      congr 1
      rw [List.getElem?_drop]
      cases hq : l[na + n]? with
      | none => simp [hq]
      | some p => simp [hq]
  first
    | (rw [this, List.take_of_length_le (by simp)])
    | (simp only [this]; exact List.take_of_length_le (by simp))

/-- what holds of the loop -/
inductive WritA (t e : List Nat) (w : Nat) (xs : List PV) (ρ : List (Option PV)) (ww : Ow) : Prop
  | it (j : Nat) (body : List Nat) (row : List Nat) (x6 : Option PV) (h0 : j ≤ t.length) (h1 : xs = natsL ((List.range t.length).drop j)) (h2 : ρ = [some (.str (mk t)), some (.int (w : Int)), some (.str (mk e)), some (.str (mk body)), some (.str (mk row)), some (.lst (strsOf (unitsOf t))), x6]) (h3 : ww = none) (h4 : body.length + row.length ≤ 6 * j) (h5 : writGo w e ((unitsOf t).drop j) body row = writ t w e) : WritA t e w xs ρ ww
section
variable {c : Cx} {k : Nat} (G : Glob c) {f L : Addr} {hE : Heap} {X0 : List Addr} {fx : FX} {dflt : Value}
include G

set_option maxHeartbeats 4000000 in
theorem run_writ {t e : List Nat} {w : Nat} (ht : t.length ≤ 10000) (he : e.length ≤ 2) :
    Runs c k (fnFrm (mkFd 45 fx dflt) f L hE ["text", "width", "eol", "body", "row", "units", "k"] X0) [some (.str (mk t)), some (.int (w : Int)), some (.str (mk e)), none, none, none, none] none (dBody (stAt 45)) (fun o => o = .ret (.str (mk (writ t w e))) false) := by
  have big : ∀ n : Nat, n ≤ 200000 → n ≤ sizeLine := fun n h => Nat.le_trans h (Nat.le_of_ble_eq_true rfl)
  have hul : (strsOf (unitsOf t)).length = t.length := by simp [strsOf, txts, unitsOf]
  refine r_unpack_swapped (ps := [.str (mk []), .str (mk []), .lst (strsOf (unitsOf t))]) (names := ["body", "row", "units"]) (e_tup (l_cons e_str (l_cons e_str (l_cons (e_comp (x := "sign") (oc := false) (fvs := []) (vals := []) ⟨by kernel_rfl, by kernel_rfl, by kernel_rfl, fun n acc => by kernel_rfl, fun h => by kernel_rfl, by kernel_rfl, by kernel_rfl, by decide +kernel, by kernel_rfl⟩ .nil
    (ie_str (e_var 0 rfl rfl rfl)) (fun _ => true) (fun p => match p with | .str s => .str (if s == ⟨#[61]⟩ then eqHex 61 else s) | p => p) (by unfold signs; rw [List.length_map]; exact big _ (by show t.toArray.toList.length ≤ _; simp; lia)) (fun p hp L' hE' w' => ?_) (fun _ => rfl) (l := strsOf (unitsOf t)) ?_) l_nil rfl) rfl) rfl) (Nat.le_of_ble_eq_true rfl))
    (.cons 5 ⟨rfl, .inl (by kernel_rfl)⟩ (.tail (.tail (.tail (.tail (.tail .head))))) (.cons 4 ⟨rfl, .inl (by kernel_rfl)⟩ (.tail (.tail (.tail (.tail .head)))) (.cons 3 ⟨rfl, .inl (by kernel_rfl)⟩ (.tail (.tail (.tail .head))) .nil))) rfl rfl rfl ?_
  · obtain ⟨n, _, rfl⟩ := List.mem_map.mp hp
    exact ⟨ta_nil, fun _ => e_ite (t_cmp (e_var 0 rfl rfl rfl) e_str o_eq_ss rfl) (fun h => Evals.eq e_str (by have h : ((⟨#[n]⟩ : Str) == ⟨#[61]⟩) = true := h; simp only [h, if_true]; rfl)) (fun h => Evals.eq (e_var 0 rfl rfl rfl) (by have h : ((⟨#[n]⟩ : Str) == ⟨#[61]⟩) = false := h; simp only [h]; rfl))⟩
  · rw [List.filter_eq_self.mpr (fun _ _ => rfl)]
    unfold signs strsOf txts unitsOf
    rw [List.map_map, List.map_map, List.map_map]
    show t.map _ = t.map _
    refine List.map_congr_left fun n _ => ?_
    show PV.str (if ((⟨#[n]⟩ : Str) == ⟨#[61]⟩) = true then eqHex 61 else ⟨#[n]⟩) = .str (mk (if n = 61 then [61, 51, 68] else [n]))
    rw [eq_one]
    by_cases h : n = 61
    · simp only [h, decide_true, if_true]; rfl
    · simp only [h, decide_false]; rfl
  · have hun : (unitsOf t).length = t.length := by simp [unitsOf]
    have hfl : ∀ l : List Nat, (unitsOf l).flatten.length ≤ 3 * l.length := by
      intro l
      induction l with
      | nil => simp [unitsOf]
      | cons a l ih =>
        have : unitsOf (a :: l) = (if a = 61 then [61, 51, 68] else [a]) :: unitsOf l := rfl
        rw [this, List.flatten_cons, List.length_append, List.length_cons]
        have : (if a = 61 then [61, 51, 68] else [a]).length ≤ 3 := by split <;> simp
        lia
    have hdr : ∀ j, (unitsOf t).drop j = unitsOf (t.drop j) := fun j => by unfold unitsOf; rw [List.map_drop]
    refine r_for (ie_range (e_bui (by kernel_rfl) (G.nob _ (by decide +kernel)) (by kernel_rfl) (by decide +kernel) rfl) (Evals.eq (e_cb (by kernel_rfl) (G.nob _ (by decide +kernel)) (by kernel_rfl) (by decide +kernel) rfl (l_cons (e_var 5 rfl rfl rfl) l_nil rfl) (b_len_lst (by rw [hul]; lia)) rfl (fun _ => ⟨_, _, rfl, rfl⟩) rfl) (congrArg PV.int (show ((strsOf (unitsOf t)).length : Int) = ((t.length : Nat) : Int) by rw [hul]))) (by lia) (by lia) rfl rfl)
      (forRuns_inv (fun xs ρ ww => WritA t e w xs ρ ww) ?_ ?_ _ _ _ ⟨0, [], [], none, Nat.zero_le _, rfl, rfl, rfl, Nat.le_refl _, rfl⟩) (fun _ => rfl)
    · rintro x xs ρ ww ⟨j, body, row, x6, hjt, e0, rfl, rfl, hsz, hgo⟩
      have hj : j < t.length := by
        refine Nat.lt_of_not_le fun h => ?_
        rw [List.drop_eq_nil_of_le (by simpa using h)] at e0
        cases e0
      rw [List.drop_eq_getElem_cons (by simpa using hj), natsL_cons] at e0
      injection e0 with e1 e2
      rw [List.getElem_range] at e1
      subst e1
      rw [List.drop_eq_getElem_cons (by rw [hun]; exact hj)] at hgo
      have hju : j < (unitsOf t).length := by rw [hun]; exact hj
      have hu3 : (unitsOf t)[j].length ≤ 3 := by
        have : ∀ u ∈ unitsOf t, u.length ≤ 3 := by
          intro u hu
          obtain ⟨n, _, rfl⟩ := List.mem_map.mp hu
          split <;> simp
        exact this _ (List.getElem_mem hju)
      have hitem : (strsOf (unitsOf t))[((j : Nat) : Int).toNat]? = some (.str (mk (unitsOf t)[j])) := by
        show (((unitsOf t).map mk).map PV.str)[j]? = _
        simp [hju]
      have hrest : ((unitsOf t).drop j).flatten.length ≤ 30000 := by
        rw [hdr]
        have := hfl (t.drop j)
        have h2 : (t.drop j).length ≤ t.length := by simp
        lia
      have hcons : (unitsOf t)[j] :: (unitsOf t).drop (j + 1) = (unitsOf t).drop j := (List.drop_eq_getElem_cons hju).symm
      refine ⟨_, asg_name 6 ⟨rfl, .inl (by kernel_rfl)⟩ (.tail (.tail (.tail (.tail (.tail (.tail .head)))))), ?_⟩
      have tail : ∀ (TAILP : Out → Prop) (body2 row2 : List Nat), body2.length + row2.length ≤ 6 * j + 3 → writGo w e ((unitsOf t).drop (j + 1)) body2 (row2 ++ (unitsOf t)[j]) = writ t w e →
          Runs c k (fnFrm (mkFd 45 fx dflt) f L hE ["text", "width", "eol", "body", "row", "units", "k"] X0) [some (.str (mk t)), some (.int (w : Int)), some (.str (mk e)), some (.str (mk body2)), some (.str (mk row2)), some (.lst (strsOf (unitsOf t))), some (.int ((j : Nat) : Int))] none ((forBody ((dBody (stAt 45))[1]?.getD default)).drop 1)
            (fun o => (∃ r w', (o = .next r w' ∨ o = .cont r w') ∧ Xw X0 w' = Xw X0 none ∧ WritA t e w xs r w') ∨ (∃ r w', o = .brk r w' ∧ TAILP (.next r w')) ∨ (∃ p fr, o = .ret p fr ∧ TAILP (.ret p fr))) := by
        intro TAILP body2 row2 hsz2 hgo2
        refine r_assign 4 (Evals.eq (e_bin (e_var 4 rfl rfl rfl) (e_sub (e_var 5 rfl rfl rfl) (e_var 6 rfl rfl rfl) (o_item_list (by lia) (by lia) hitem (fun _ _ => rfl))) (o_add_ss (by rw [mk_len, mk_len]; exact big _ (by lia)))) (congrArg PV.str (mk_app _ _))) ⟨rfl, .inl (by kernel_rfl)⟩ (.tail (.tail (.tail (.tail .head)))) rfl (r_nil ?_)
        exact .inl ⟨_, _, .inl rfl, rfl, j + 1, body2, row2 ++ (unitsOf t)[j], _, hj, e2, rfl, rfl, by simp only [List.length_append]; lia, hgo2⟩
      unfold writGo at hgo
      rw [hcons] at hgo
      refine r_if (b := decide ((w : Int) ≤ (((row ++ (unitsOf t)[j]).length : Nat) : Int)) && (decide ((w : Int) < (((row ++ ((unitsOf t).drop j).flatten).length : Nat) : Int)) && true)) (t_and ?t1 fun _ => t_and ?t2 fun _ => t_and_nil) (fun h => ?_) (fun h => ?_)
      case t1 => exact (t_cmp (Evals.eq (e_cb (by kernel_rfl) (G.nob _ (by decide +kernel)) (by kernel_rfl) (by decide +kernel) rfl (l_cons (Evals.eq (e_bin (e_var 4 rfl rfl rfl) (e_sub (e_var 5 rfl rfl rfl) (e_var 6 rfl rfl rfl) (o_item_list (by lia) (by lia) hitem (fun _ _ => rfl))) (o_add_ss (by rw [mk_len, mk_len]; exact big _ (by lia)))) (congrArg PV.str (mk_app _ _))) l_nil rfl) (b_len_str (by rw [mk_len, List.length_append]; lia)) rfl (fun _ => ⟨_, _, rfl, rfl⟩) rfl) (congrArg PV.int (show ((mk (row ++ (unitsOf t)[j])).length : Int) = (((row ++ (unitsOf t)[j]).length : Nat) : Int) by rw [mk_len]))) (e_var 1 rfl rfl rfl) o_ge_ii rfl)
      case t2 => exact (t_cmp (Evals.eq (e_cb (by kernel_rfl) (G.nob _ (by decide +kernel)) (by kernel_rfl) (by decide +kernel) rfl (l_cons (Evals.eq (e_bin (e_var 4 rfl rfl rfl) (Evals.eq (by
        with_reducible refine e_smeth (x := "") (ps := [.lst (txts (((unitsOf t).drop j).map mk))]) PySem.F.slot_str_join PySem.F.type_str_join ?_ ?_ ?_ ?_ ?_ ?_ ?_ ?_
        · exact e_str
        · exact l_cons (Evals.eq (e_slice_list (e_var 5 rfl rfl rfl) (p_some (e_var 6 rfl rfl rfl)) p_none p_none (by decide) (by rw [hul]; exact big _ (by lia))) (congrArg PV.lst (show _ = txts (((unitsOf t).drop j).map mk) by rw [sliceL_from _ _ j rfl (by rw [hul]; lia)]; unfold strsOf txts; rw [List.map_drop, List.map_drop]))) l_nil rfl
        · exact m_join (long_nil _ (by lia)) (by rw [glued_nil, mk_len]; exact big _ (by lia))
        · rfl
        · rfl
        · rfl
        · exact fun _ => ⟨_, _, rfl, rfl⟩
        · rfl) (congrArg PV.str (glued_nil _))) (o_add_ss (by rw [mk_len, mk_len]; exact big _ (by lia)))) (congrArg PV.str (mk_app _ _))) l_nil rfl) (b_len_str (by rw [mk_len, List.length_append]; lia)) rfl (fun _ => ⟨_, _, rfl, rfl⟩) rfl) (congrArg PV.int (show ((mk (row ++ ((unitsOf t).drop j).flatten)).length : Int) = (((row ++ ((unitsOf t).drop j).flatten).length : Nat) : Int) by rw [mk_len]))) (e_var 1 rfl rfl rfl) o_gt_ii rfl)
      · rw [if_pos (by simp only [Bool.and_eq_true, decide_eq_true_eq] at h; lia)] at hgo
        refine r_unpack_swapped (ps := [.str (mk (body ++ row ++ [61] ++ e)), .str (mk [])]) (names := ["body", "row"]) (e_tup (l_cons (Evals.eq (e_bin (Evals.eq (e_bin (Evals.eq (e_bin (e_var 3 rfl rfl rfl) (e_var 4 rfl rfl rfl) (o_add_ss (by rw [mk_len, mk_len]; exact big _ (by lia)))) (congrArg PV.str (mk_app _ _))) e_str (o_add_ss (by rw [mk_len, List.length_append]; exact big _ (by show _ + 1 ≤ _; lia)))) (congrArg PV.str (mk_app _ [61]))) (e_var 2 rfl rfl rfl) (o_add_ss (by rw [mk_len, mk_len]; simp only [List.length_append, List.length_cons, List.length_nil]; exact big _ (by lia)))) (congrArg PV.str (mk_app _ _))) (l_cons e_str l_nil rfl) rfl) (Nat.le_of_ble_eq_true rfl))
          (.cons 4 ⟨rfl, .inl (by kernel_rfl)⟩ (.tail (.tail (.tail (.tail .head)))) (.cons 3 ⟨rfl, .inl (by kernel_rfl)⟩ (.tail (.tail (.tail .head))) .nil)) rfl rfl rfl (r_nil ?_)
        show Runs _ _ _ _ _ _ _
        exact tail _ (body ++ row ++ [61] ++ e) [] (by simp only [List.length_append, List.length_cons, List.length_nil]; lia) hgo
      · rw [if_neg (by simp only [Bool.and_eq_false_iff, Bool.and_true, decide_eq_false_iff_not] at h; lia)] at hgo
        refine r_nil ?_
        show Runs _ _ _ _ _ _ _
        exact tail _ body row (by lia) hgo
    · rintro ρ ww ⟨j, body, row, x6, hjt, e0, rfl, rfl, hsz, hgo⟩
      have hj : t.length ≤ j := by
        refine Nat.le_of_not_lt fun h => ?_
        rw [List.drop_eq_getElem_cons (by simpa using h)] at e0
        cases e0
      rw [List.drop_eq_nil_of_le (by rw [hun]; exact hj)] at hgo
      show Runs _ _ _ _ _ _ _
      exact r_ret (e_bin (e_var 3 rfl rfl rfl) (e_var 4 rfl rfl rfl) (o_add_ss (by rw [mk_len, mk_len]; exact big _ (by lia)))) (by rw [← hgo, mk_app]; rfl)
end
end Mine
namespace Mine
open PySem PySem.W PyProof.Rows

section
variable {c : Cx} {k : Nat} (G : Glob c) {f : Addr}
include G
theorem fn_p257 {l : List Nat} (hsz : (escQ l).length ≤ 100000) (D : DefAt c 40 f) : Fn c (k + 1) f [.str (resp257 l)] (.str ⟨l.toArray⟩) := by
  obtain ⟨fx, FA⟩ := D
  refine fn_of (ps := ["resp"]) (ls := ["dirname", "i", "n", "c"]) (dargs := []) (fr := false) FA rfl (HBind.plain fun vals hl => ?_) rfl (by decide +kernel) ?_ (fun L hE X0 => ?_) (by kernel_rfl) (by kernel_rfl) (by kernel_rfl)
  · obtain ⟨a0, rfl⟩ := len1 hl
    unfold bindArgs; kernel_rfl
  · show ∀ x ∈ (["resp"] : List Str), (dScope (stAt 40)).names.lookup x = some .local ∨ ((dScope (stAt 40)).names.lookup x = some .cell ∧ ((cellsFrom 0 (dScope (stAt 40)).names []).lookup x).isSome = true)
    decide +kernel
  · exact run_p257 G hsz
theorem fn_writ {t e : List Nat} {w : Nat} (ht : t.length ≤ 10000) (he : e.length ≤ 2) (D : DefAt c 45 f) : Fn c (k + 1) f [.str (mk t), .int (w : Int), .str (mk e)] (.str (mk (writ t w e))) := by
  obtain ⟨fx, FA⟩ := D
  refine fn_of (ps := ["text", "width", "eol"]) (ls := ["body", "row", "units", "k"]) (dargs := []) (fr := false) FA rfl (HBind.plain fun vals hl => ?_) rfl (by decide +kernel) ?_ (fun L hE X0 => ?_) (by kernel_rfl) (by kernel_rfl) (by kernel_rfl)
  · obtain ⟨a0, a1, a2, rfl⟩ := len3 hl
    unfold bindArgs; kernel_rfl
  · show ∀ x ∈ (["text", "width", "eol"] : List Str), (dScope (stAt 45)).names.lookup x = some .local ∨ ((dScope (stAt 45)).names.lookup x = some .cell ∧ ((cellsFrom 0 (dScope (stAt 45)).names []).lookup x).isSome = true)
    decide +kernel
  · exact run_writ G ht he
theorem fn_twins {count a b d : Int} (D : DefAt c 44 f) : Fn c (k + 1) f [.int count, .lst (intsL [a, b, d])] (.lst (intsL (twinsOf (count + 16 * a + 256 * b + 4096 * d)))) := by
  obtain ⟨fx, FA⟩ := D
  refine fn_of (ps := ["count", "counts"]) (ls := ["codes", "step", "due"]) (dargs := []) (fr := false) FA rfl (HBind.plain fun vals hl => ?_) rfl (by decide +kernel) ?_ (fun L hE X0 => ?_) (by kernel_rfl) (by kernel_rfl) (by kernel_rfl)
  · obtain ⟨a0, a1, rfl⟩ := len2 hl
    unfold bindArgs; kernel_rfl
  · show ∀ x ∈ (["count", "counts"] : List Str), (dScope (stAt 44)).names.lookup x = some .local ∨ ((dScope (stAt 44)).names.lookup x = some .cell ∧ ((cellsFrom 0 (dScope (stAt 44)).names []).lookup x).isSome = true)
    decide +kernel
  · exact run_twins G
theorem fn_mixes {cs : List Nat} {high sys : Int} {fl : Addr} {lt : Nat → Nat → PV} (Nl : FnName c "_law_light" fl) (LT : ∀ one ∈ cs, ∀ two ∈ cs, one < two → Fn c k fl [.lst (intsL (pairC one two)), .int high, .int sys] (lt one two)) (hsz : (mixesOf lt cs).length ≤ sizeLine) (D : DefAt c 43 f) : Fn c (k + 1) f [.lst (natsL cs), .int high, .int sys] (.lst (mixesOf lt cs)) := by
  obtain ⟨fx, FA⟩ := D
  refine fn_of (ps := ["colours", "high", "by_lightness"]) (ls := ["lights", "one", "two", "counts"]) (dargs := []) (fr := true) FA rfl (HBind.plain fun vals hl => ?_) rfl (by decide +kernel) ?_ (fun L hE X0 => ?_) (by kernel_rfl) (by kernel_rfl) (by kernel_rfl)
  · obtain ⟨a0, a1, a2, rfl⟩ := len3 hl
    unfold bindArgs; kernel_rfl
  · show ∀ x ∈ (["colours", "high", "by_lightness"] : List Str), (dScope (stAt 43)).names.lookup x = some .local ∨ ((dScope (stAt 43)).names.lookup x = some .cell ∧ ((cellsFrom 0 (dScope (stAt 43)).names []).lookup x).isSome = true)
    decide +kernel
  · exact run_mixes G Nl LT hsz
theorem fn_light1 {a b d high : Int} {hue level share : UInt64} {back : UInt64 × UInt64 × UInt64} {fh fu : Addr} (Nh : FnName c "rgb_to_hls" fh) (Nu : FnName c "hls_to_rgb" fu) (hhls : hlsF (qF (a * high) 256) (qF (b * high) 256) (qF (d * high) 256) = (hue, level, share)) (Hh : Fn c k fh [.flt (qF (a * high) 256), .flt (qF (b * high) 256), .flt (qF (d * high) 256)] (tri (hlsF (qF (a * high) 256) (qF (b * high) 256) (qF (d * high) 256)))) (Hu : Fn c k fu [.flt hue, .flt level, .flt share] (tri back)) (hdinf : Float64.isInf (qF (maxL [a * high, b * high, d * high] + minL [a * high, b * high, d * high]) 512) = false) (H : LitTail (a * high) (b * high) (d * high) hue share level (qF (maxL [a * high, b * high, d * high] + minL [a * high, b * high, d * high]) 512) (min2 (maxL [a * high, b * high, d * high] + minL [a * high, b * high, d * high]) (512 - maxL [a * high, b * high, d * high] - minL [a * high, b * high, d * high])) back) (hsm : ∀ n ∈ [a, b, d], -(2 ^ 64) < n ∧ n < 2 ^ 64) (hinf : ∀ n ∈ [a * high, b * high, d * high], Float64.isInf (qF n 256) = false) (D : DefAt c 42 f) : Fn c (k + 1) f [.lst (intsL [a, b, d]), .int high, .int 1] (.tup [.flt hue, .flt share, .flt level]) := by
  obtain ⟨fx, FA⟩ := D
  refine fn_of (ps := ["counts", "high", "by_lightness"]) (ls := ["numbers", "top", "bottom", "apart", "red", "green", "blue", "hue", "level", "share", "back", "due", "space", "place", "ring", "ways", "wheel", "told"]) (dargs := []) (fr := false) FA rfl (HBind.plain fun vals hl => ?_) rfl (by decide +kernel) ?_ (fun L hE X0 => ?_) (by kernel_rfl) (by kernel_rfl) (by kernel_rfl)
  · obtain ⟨a0, a1, a2, rfl⟩ := len3 hl
    unfold bindArgs; kernel_rfl
  · show ∀ x ∈ (["counts", "high", "by_lightness"] : List Str), (dScope (stAt 42)).names.lookup x = some .local ∨ ((dScope (stAt 42)).names.lookup x = some .cell ∧ ((cellsFrom 0 (dScope (stAt 42)).names []).lookup x).isSome = true)
    decide +kernel
  · exact run_light1 G Nh Nu hhls Hh Hu hdinf H hsm hinf
theorem fn_light0 {a b d high : Int} {hue level share : UInt64} {back : UInt64 × UInt64 × UInt64} {fh fu : Addr} (Nh : FnName c "rgb_to_hsv" fh) (Nu : FnName c "hsv_to_rgb" fu) (hhsv : hsvF (qF (a * high) 256) (qF (b * high) 256) (qF (d * high) 256) = (hue, share, level)) (Hh : Fn c k fh [.flt (qF (a * high) 256), .flt (qF (b * high) 256), .flt (qF (d * high) 256)] (tri (hsvF (qF (a * high) 256) (qF (b * high) 256) (qF (d * high) 256)))) (Hu : Fn c k fu [.flt hue, .flt share, .flt level] (tri back)) (hdinf : Float64.isInf (qF (maxL [a * high, b * high, d * high]) 256) = false) (H : LitTail (a * high) (b * high) (d * high) hue share level (qF (maxL [a * high, b * high, d * high]) 256) (maxL [a * high, b * high, d * high]) back) (hsm : ∀ n ∈ [a, b, d], -(2 ^ 64) < n ∧ n < 2 ^ 64) (hinf : ∀ n ∈ [a * high, b * high, d * high], Float64.isInf (qF n 256) = false) (D : DefAt c 42 f) : Fn c (k + 1) f [.lst (intsL [a, b, d]), .int high, .int 0] (.tup [.flt hue, .flt share, .flt level]) := by
  obtain ⟨fx, FA⟩ := D
  refine fn_of (ps := ["counts", "high", "by_lightness"]) (ls := ["numbers", "top", "bottom", "apart", "red", "green", "blue", "hue", "level", "share", "back", "due", "space", "place", "ring", "ways", "wheel", "told"]) (dargs := []) (fr := false) FA rfl (HBind.plain fun vals hl => ?_) rfl (by decide +kernel) ?_ (fun L hE X0 => ?_) (by kernel_rfl) (by kernel_rfl) (by kernel_rfl)
  · obtain ⟨a0, a1, a2, rfl⟩ := len3 hl
    unfold bindArgs; kernel_rfl
  · show ∀ x ∈ (["counts", "high", "by_lightness"] : List Str), (dScope (stAt 42)).names.lookup x = some .local ∨ ((dScope (stAt 42)).names.lookup x = some .cell ∧ ((cellsFrom 0 (dScope (stAt 42)).names []).lookup x).isSome = true)
    decide +kernel
  · exact run_light0 G Nh Nu hhsv Hh Hu hdinf H hsm hinf

/-- f is the function that the text's n-th statement makes; it has one default, the text d -/
noncomputable def DefD (c : Cx) (n : Nat) (f : Addr) (d : Str) : Prop := ∃ fx T o m t, FnAt c f (mkFd n fx (.ref T)) ∧ c.K.lookup T = some o ∧ o.data = .seq #[.str d t] m
omit G in
theorem hb_def {fd : FuncData} {T : Addr} {ps : List Str} {args dargs : List PV} {o : Obj} {m t : Nat} {d : Str} (hT : c.K.lookup T = some o) (ho : o.data = .seq #[.str d t] m) (hd : fd.defaults = .ref T)
    (hdv : dargs = [] ∨ dargs = [.str d])
    (h : ∀ vals : List Value, vals.length = args.length → ∃ kk : Option (Array Value) → Sem (List (Str × Value)), bindArgs fd ⟨vals, []⟩ = (seqItems? (.ref T) >>= kk) ∧ kk (some #[.str d t]) = pure (ps.zip (vals ++ (if dargs = [] then [] else [.str d t])))) : HBind c fd ps args dargs := by
  intro s vals B hl
  obtain ⟨kk, h1, h2⟩ := h vals hl
  refine ⟨if dargs = [] then [] else [.str d t], fun X s' _ _ => ?_, BindsTo.of_defaults hd (B.k _ _ hT) ho (by rw [hd]; exact h1) h2⟩
  rcases hdv with rfl | rfl
  · exact Rds.nil
  · exact Rds.cons rdS Rds.nil
end
end Mine
namespace Mine
open PySem PySem.W PyProof.Rows

section
variable {c : Cx} {k : Nat} (G : Glob c) {f : Addr}
include G
theorem fn_dec {enc : Str} {e : List Nat} {ls rs : List (List Nat)} {tot : List Nat} {z : Nat} {fin : Str} {fu : Addr} (HX : GConst c "hexdigits" (.str hexS)) (Nu : FnName c "unquote" fu) (U : Fn c k fu [.str (eqHex 61)] (.str ⟨#[61]⟩)) (H : DecOk enc e ls rs tot z fin) (D : DefD c 29 f (mk e)) : Fn c (k + 1) f [.str enc] (.str fin) := by
  obtain ⟨fx, T, o, m, t, FA, hT, ho⟩ := D
  refine fn_of (ps := ["encoded", "eol"]) (ls := ["decoded", "line", "i", "n", "c"]) (dargs := [.str (mk e)]) (fr := false) FA rfl (hb_def hT ho rfl (.inr rfl) fun vals hl => ?_) rfl (by decide +kernel) ?_ (fun L hE X0 => ?_) (by kernel_rfl) (by kernel_rfl) (by kernel_rfl)
  · obtain ⟨a0, rfl⟩ := len1 hl
    exact ⟨_, rfl, rfl⟩
  · show ∀ x ∈ (["encoded", "eol"] : List Str), (dScope (stAt 29)).names.lookup x = some .local ∨ ((dScope (stAt 29)).names.lookup x = some .cell ∧ ((cellsFrom 0 (dScope (stAt 29)).names []).lookup x).isSome = true)
    decide +kernel
  · exact run_dec G HX Nu U H
end
end Mine
namespace Mine
noncomputable def IsUnit (u : List Nat) : Prop := u = [61, 51, 68] ∨ ∃ c, c ≠ 61 ∧ u = [c]
theorem IsUnit.len {u : List Nat} (h : IsUnit u) : 1 ≤ u.length ∧ u.length ≤ 3 := by
  rcases h with rfl | ⟨c, _, rfl⟩ <;> simp
theorem unitsOf_unit (t : List Nat) : ∀ u ∈ unitsOf t, IsUnit u := by
  intro u hu
  obtain ⟨n, _, rfl⟩ := List.mem_map.mp hu
  by_cases h : n = 61
  · rw [if_pos h]; exact .inl rfl
  · rw [if_neg h]; exact .inr ⟨n, h, rfl⟩
theorem unit_eq : ∀ (us : List (List Nat)), (∀ u ∈ us, IsUnit u) → ∀ i, us.flatten[i]? = some 61 → i + 2 < us.flatten.length
  | [], _, i, h => by simp at h
  | u :: us, H, i, h => by
    have hu := H u List.mem_cons_self
    have ih := unit_eq us fun v hv => H v (List.mem_cons_of_mem _ hv)
    rw [List.flatten_cons] at h ⊢
    rcases hu with rfl | ⟨c, hc, rfl⟩
    · match i, h with
      | 0, _ => simp
      | 1, h => simp at h
      | 2, h => simp at h
      | j + 3, h =>
        have := ih j (by simpa using h)
        simp only [List.length_append, List.length_cons, List.length_nil]; lia
    · match i, h with
      | 0, h => simp at h; exact absurd h hc
      | j + 1, h =>
        have := ih j (by simpa using h)
        simp only [List.length_append, List.length_cons, List.length_nil]; lia
theorem writ_cons (w : Nat) (e u : List Nat) (us : List (List Nat)) (body row : List Nat) : writGo w e (u :: us) body row = if w ≤ (row ++ u).length ∧ w < (row ++ (u :: us).flatten).length then writGo w e us (body ++ row ++ [61] ++ e) u else writGo w e us body (row ++ u) := rfl
/-- the rest fits -/
theorem writ_fits (w : Nat) (e : List Nat) : ∀ (us : List (List Nat)) (body row : List Nat), (row ++ us.flatten).length ≤ w → writGo w e us body row = body ++ row ++ us.flatten
  | [], body, row, _ => by simp [writGo]
  | u :: us, body, row, h => by
    rw [writ_cons, if_neg (by lia), writ_fits w e us body (row ++ u) (by simpa [List.append_assoc] using h)]
    simp
/-- the rest does not fit: the longest run of units that leaves room -/
theorem writ_break (w : Nat) (e : List Nat) : ∀ (us : List (List Nat)) (body row : List Nat), w < (row ++ us.flatten).length → row.length < w →
    ∃ ps u rest, us = ps ++ u :: rest ∧ (row ++ ps.flatten).length < w ∧ w ≤ (row ++ ps.flatten ++ u).length ∧ writGo w e us body row = writGo w e rest (body ++ (row ++ ps.flatten) ++ [61] ++ e) u
  | [], body, row, h, h2 => by simp at h; lia
  | u :: us, body, row, h, h2 => by
    rw [writ_cons]
    by_cases hc : w ≤ (row ++ u).length
    · rw [if_pos ⟨hc, h⟩]
      exact ⟨[], u, us, rfl, by simpa using h2, by simpa using hc, by rw [List.flatten_nil, List.append_nil]⟩
    · rw [if_neg (by lia)]
      obtain ⟨ps, v, rest, e1, e2, e3, e4⟩ := writ_break w e us body (row ++ u) (by simpa [List.append_assoc] using h) (by lia)
      exact ⟨u :: ps, v, rest, by rw [e1]; rfl, by simpa [List.append_assoc] using e2, by simpa [List.append_assoc] using e3, by rw [e4, List.flatten_cons, ← List.append_assoc row u]⟩
noncomputable def glueL (e : List Nat) : List (List Nat) → List Nat
  | [] => []
  | [x] => x
  | x :: y :: r => x ++ e ++ glueL e (y :: r)
theorem encGo_succ (l : List Nat) (w fuel start : Nat) : encGo l w (fuel + 1) start = if start + w + 1 ≤ l.length then
      if l[start + w - 3]? = some 61 then (l.drop start).take (w - 2) :: encGo l w fuel (start + w - 3)
      else if l[start + w - 2]? = some 61 then (l.drop start).take (w - 1) :: encGo l w fuel (start + w - 2)
      else ((l.drop start).take (w - 1) ++ [61]) :: encGo l w fuel (start + w - 1)
    else [l.drop start] := rfl
theorem encGo_ne (l : List Nat) (w fuel start : Nat) : encGo l w fuel start ≠ [] := by
  cases fuel with
  | zero => intro h; cases h
  | succ n =>
    rw [encGo_succ]
    by_cases h1 : start + w + 1 ≤ l.length
    · rw [if_pos h1]
      by_cases h2 : l[start + w - 3]? = some 61
      · rw [if_pos h2]; exact List.cons_ne_nil _ _
      · rw [if_neg h2]
        by_cases h3 : l[start + w - 2]? = some 61
        · rw [if_pos h3]; exact List.cons_ne_nil _ _
        · rw [if_neg h3]; exact List.cons_ne_nil _ _
    · rw [if_neg h1]; exact List.cons_ne_nil _ _
theorem glueL_cons (e x : List Nat) {r : List (List Nat)} (h : r ≠ []) : glueL e (x :: r) = x ++ e ++ glueL e r := by
  cases r with
  | nil => exact absurd rfl h
  | cons y r => rfl
theorem enc_writ (w : Nat) (hw : 4 ≤ w) (e l : List Nat) : ∀ (fuel start : Nat) (us : List (List Nat)) (body : List Nat), (∀ u ∈ us, IsUnit u) → l.drop start = us.flatten → start ≤ l.length → l.length - start ≤ fuel →
    writGo w e us body [] = body ++ glueL e (encGo l w fuel start) := by
  intro fuel
  induction fuel with
  | zero =>
    intro start us body H hd hs hf
    rw [writ_fits w e us body [] (by rw [← hd]; simp; lia), ← hd]
    simp [encGo, glueL]
  | succ fuel ih =>
    intro start us body H hd hs hf
    have hlen : us.flatten.length = l.length - start := by rw [← hd, List.length_drop]
    by_cases hgo : start + w + 1 ≤ l.length
    · obtain ⟨ps, u, rest, rfl, h2, h3, h4⟩ := writ_break w e us body [] (by rw [List.nil_append, hlen]; lia) (by simp; lia)
      rw [List.nil_append] at h2 h3 h4
      rw [List.length_append] at h3
      have hu := H u (by simp)
      have hps : ∀ v ∈ ps, IsUnit v := fun v hv => H v (by simp [hv])
      have hD : l.drop start = ps.flatten ++ (u ++ rest.flatten) := by rw [hd]; simp
      have hidx : ∀ j, l[start + j]? = (ps.flatten ++ (u ++ rest.flatten))[j]? := fun j => by rw [← hD, List.getElem?_drop]
      have hno : ∀ j, ps.flatten.length ≤ j + 2 → j < ps.flatten.length → l[start + j]? ≠ some 61 := fun j h1 h2 h => by
        rw [hidx, List.getElem?_append_left h2] at h
        have := unit_eq ps hps j h
        lia
      have hul := hu.len
      have next : writGo w e rest (body ++ ps.flatten ++ [61] ++ e) u = writGo w e (u :: rest) (body ++ ps.flatten ++ [61] ++ e) [] := by
        rw [writ_cons, if_neg (by simp only [List.nil_append]; lia), List.nil_append]
      have hd2 : l.drop (start + ps.flatten.length) = (u :: rest).flatten := by
        rw [← List.drop_drop, hD, List.drop_left]; simp
      have hs2 : start + ps.flatten.length ≤ l.length := by
        have := congrArg List.length hD
        simp only [List.length_drop, List.length_append] at this
        lia
      have step := ih (start + ps.flatten.length) (u :: rest) (body ++ ps.flatten ++ [61] ++ e) (fun v hv => H v (by simp only [List.mem_append]; exact .inr hv)) hd2 hs2 (by lia)
      have key : encGo l w (fuel + 1) start = (ps.flatten ++ [61]) :: encGo l w fuel (start + ps.flatten.length) := by
        rw [encGo_succ, if_pos hgo]
        by_cases hL : ps.flatten.length = w - 1
        · rw [if_neg (by rw [show start + w - 3 = start + (w - 3) by lia]; exact hno _ (by lia) (by lia)), if_neg (by rw [show start + w - 2 = start + (w - 2) by lia]; exact hno _ (by lia) (by lia))]
          rw [hD, ← hL, List.take_left, show start + w - 1 = start + ps.flatten.length by lia]
        · rcases hu with rfl | ⟨c, hc, rfl⟩
          · have h3 : w ≤ ps.flatten.length + 3 := h3
            have hat : l[start + ps.flatten.length]? = some 61 := by rw [hidx, List.getElem?_append_right (Nat.le_refl _)]; simp
            have htk : (l.drop start).take (ps.flatten.length + 1) = ps.flatten ++ [61] := by rw [hD, List.take_length_add_append]; rfl
            by_cases hL2 : ps.flatten.length = w - 2
            · rw [if_neg (by rw [show start + w - 3 = start + (w - 3) by lia]; exact hno _ (by lia) (by lia)), if_pos (by rw [show start + w - 2 = start + ps.flatten.length by lia]; exact hat)]
              rw [show w - 1 = ps.flatten.length + 1 by lia, htk, show start + w - 2 = start + ps.flatten.length by lia]
            · rw [if_pos (by rw [show start + w - 3 = start + ps.flatten.length by lia]; exact hat)]
              rw [show w - 2 = ps.flatten.length + 1 by lia, htk, show start + w - 3 = start + ps.flatten.length by lia]
          · have h3 : w ≤ ps.flatten.length + 1 := h3
            lia
      rw [h4, next, step, key, glueL_cons _ _ (encGo_ne _ _ _ _)]
      simp only [List.append_assoc]
    · rw [writ_fits w e us body [] (by rw [List.nil_append, hlen]; lia), ← hd]
      rw [encGo_succ, if_neg hgo]
      simp [glueL]
theorem row_written (t : List Nat) (w : Nat) (hw : 4 ≤ w) (e : List Nat) : glueL e (encLine (unitsOf t).flatten w) = writ t w e := by
  have := enc_writ w hw e (unitsOf t).flatten (unitsOf t).flatten.length 0 (unitsOf t) [] (unitsOf_unit t) rfl (Nat.zero_le _) (by lia)
  rw [List.nil_append] at this
  exact this.symm
end Mine
namespace Mine
open PySem PySem.W PyProof.Rows
theorem glueL_flat (e : List Nat) : ∀ (ys : List (List Nat)) (x : List Nat), glueL e (x :: ys) = x ++ ys.flatMap (e ++ ·)
  | [], x => by simp [glueL]
  | y :: ys, x => by
    rw [glueL_cons e x (List.cons_ne_nil y ys), glueL_flat e ys y, List.flatMap_cons]
    simp only [List.append_assoc]
theorem glued_mk (e : List Nat) (xs : List (List Nat)) : Builtin.Str.glued (mk e) (xs.map mk) = mk (glueL e xs) := by
  have hf : ∀ (ys : List (List Nat)) (acc : List Nat), (ys.map mk).foldl (fun (a : Array Nat) (p : Str) => a ++ (mk e).cps ++ p.cps) acc.toArray = (acc ++ ys.flatMap (e ++ ·)).toArray := by
    intro ys
    induction ys with
    | nil => intro acc; simp
    | cons y ys ih =>
      intro acc
      rw [List.map_cons, List.foldl_cons]
      have : acc.toArray ++ (mk e).cps ++ (mk y).cps = (acc ++ e ++ y).toArray := by show acc.toArray ++ e.toArray ++ y.toArray = _; simp
      rw [this, ih, List.flatMap_cons]
      simp only [List.append_assoc]
  cases xs with
  | nil => rfl
  | cons x xs =>
    show (⟨(xs.map mk).foldl _ x.toArray⟩ : Str) = _
    rw [hf xs x, glueL_flat]
/-- the pieces of several rows, glued: each row's own text, glued -/
theorem glueL_flatMap (e : List Nat) (f : List Nat → List (List Nat)) (hf : ∀ t, f t ≠ []) : ∀ ts : List (List Nat), glueL e (ts.flatMap f) = glueL e (ts.map fun t => glueL e (f t))
  | [] => rfl
  | [t] => by simp [glueL]
  | t :: u :: ts => by
    have ih := glueL_flatMap e f hf (u :: ts)
    have hne : (u :: ts).flatMap f ≠ [] := by
      rw [List.flatMap_cons]
      exact fun h => hf u (List.append_eq_nil_iff.mp h).1
    have app : ∀ (a b : List (List Nat)), a ≠ [] → b ≠ [] → glueL e (a ++ b) = glueL e a ++ e ++ glueL e b := by
      intro a
      induction a with
      | nil => intro b h; exact absurd rfl h
      | cons x a iha =>
        intro b _ hb
        cases a with
        | nil => rw [List.cons_append, List.nil_append, glueL_cons e x hb]; rfl
        | cons y a => rw [List.cons_append, glueL_cons e x (by simp), iha b (List.cons_ne_nil _ _) hb, glueL_cons e x (List.cons_ne_nil y a)]; simp only [List.append_assoc]
    rw [List.flatMap_cons, app _ _ (hf t) hne, ih]
    rfl
end Mine
namespace Mine
open PySem PySem.W PyProof.Rows
theorem free_app (c : Nat) : ∀ (x y A B : List Nat), c ∉ x → c ∉ y → x ++ c :: A = y ++ c :: B → x = y ∧ A = B
  | [], [], A, B, _, _, h => by simpa using h
  | [], b :: y, A, B, _, hy, h => by
    injection h with h1 h2
    exact absurd (h1 ▸ List.mem_cons_self) hy
  | a :: x, [], A, B, hx, _, h => by
    injection h with h1 h2
    exact absurd (h1 ▸ List.mem_cons_self) hx
  | a :: x, b :: y, A, B, hx, hy, h => by
    injection h with h1 h2
    obtain ⟨e1, e2⟩ := free_app c x y A B (fun m => hx (List.mem_cons_of_mem _ m)) (fun m => hy (List.mem_cons_of_mem _ m)) h2
    exact ⟨by rw [h1, e1], e2⟩
theorem glue_two (c : Nat) (x y : List Nat) (r : List (List Nat)) : glueL [c] (x :: y :: r) = x ++ c :: glueL [c] (y :: r) := by
  show x ++ [c] ++ _ = _
  simp
theorem glue_free (c : Nat) : ∀ (a b : List (List Nat)), a ≠ [] → b ≠ [] → (∀ x ∈ a, c ∉ x) → (∀ x ∈ b, c ∉ x) → glueL [c] a = glueL [c] b → a = b
  | [], _, h, _, _, _, _ => absurd rfl h
  | _, [], _, h, _, _, _ => absurd rfl h
  | [x], [y], _, _, _, _, h => by
    have h : x = y := h
    rw [h]
  | [x], y :: z :: r, _, _, hx, _, h => by
    rw [glue_two] at h
    have h : x = y ++ c :: glueL [c] (z :: r) := h
    exact absurd (by rw [h]; simp) (hx x List.mem_cons_self)
  | x :: z :: r, [y], _, _, _, hy, h => by
    rw [glue_two] at h
    have h : x ++ c :: glueL [c] (z :: r) = y := h
    exact absurd (by rw [← h]; simp) (hy y List.mem_cons_self)
  | x :: x2 :: r, y :: y2 :: s, _, _, hx, hy, h => by
    rw [glue_two, glue_two] at h
    obtain ⟨e1, e2⟩ := free_app c _ _ _ _ (hx x List.mem_cons_self) (hy y List.mem_cons_self) h
    rw [e1, glue_free c (x2 :: r) (y2 :: s) (List.cons_ne_nil _ _) (List.cons_ne_nil _ _) (fun z hz => hx z (List.mem_cons_of_mem _ hz)) (fun z hz => hy z (List.mem_cons_of_mem _ hz)) e2]
theorem mk_inj {a b : List Nat} (h : mk a = mk b) : a = b := by
  have := congrArg (fun s : Str => s.cps.toList) h
  simpa using this
theorem split_ne (x y : Str) : Txt.split x y ≠ [] := by
  unfold Txt.split
  split
  · exact List.cons_ne_nil _ _
  · split
    · exact List.cons_ne_nil _ _
    · intro h
      have := congrArg List.length h
      rw [len_partsBetween] at this
      simp at this
theorem split_glueC (q : Nat) {rows : List (List Nat)} (hne : rows ≠ []) (h : ∀ x ∈ rows, q ∉ x) : splitS (mk (glueL [q] rows)) ⟨#[q]⟩ = rows.map mk := by
  show Txt.split (mk (glueL [q] rows)) ⟨#[q]⟩ = _
  have h1 := StrLaws.split_free (mk (glueL [q] rows)) q
  have h2 := StrLaws.join_split (mk (glueL [q] rows)) ⟨#[q]⟩
  have h3 := split_ne (mk (glueL [q] rows)) ⟨#[q]⟩
  generalize Txt.split (mk (glueL [q] rows)) ⟨#[q]⟩ = parts at h1 h2 h3
  have e1 : parts = (parts.map fun p => p.cps.toList).map mk := by
    rw [List.map_map]
    conv => lhs; rw [← List.map_id parts]
    exact List.map_congr_left fun p _ => rfl
  rw [← StrLaws.glued_eq_join, e1] at h2
  have h2 := (glued_mk [q] (parts.map fun p => p.cps.toList)).symm.trans h2
  have h2 := glue_free q _ rows (by simpa using h3) hne (fun x hx => by obtain ⟨p, hp, rfl⟩ := List.mem_map.mp hx; exact h1 p hp) h (mk_inj h2)
  rw [e1, h2]
theorem split_glue {rows : List (List Nat)} (hne : rows ≠ []) (h : ∀ x ∈ rows, 10 ∉ x) : splitS (mk (glueL [10] rows)) "\n" = rows.map mk := by
  have e0 : ("\n" : Str) = mk [10] := by kernel_rfl
  rw [e0]; exact split_glueC 10 hne h
open StrLaws in
theorem ls_row (s : Str) (st : LsSt) : ∀ (m n cur : Nat), (∀ i, cur ≤ i → i < cur + m → Unicode.isLineBreak (s.cps.getD i 0) = false) →
    (forIn (m := Id) (List.range' cur (m + n)) st (lsBody s)) = (forIn (m := Id) (List.range' (cur + m) n) st (lsBody s))
  | 0, n, cur, _ => by rw [Nat.zero_add, Nat.add_zero]
  | m + 1, n, cur, h => by
    rw [show m + 1 + n = (m + n) + 1 by lia, List.range'_succ, List.forIn_cons]
    have e : lsBody s cur st = pure (ForInStep.yield st) := by
      unfold lsBody
      rw [h cur (Nat.le_refl _) (by lia), Bool.and_false, if_neg (by simp)]
    rw [e, show cur + (m + 1) = (cur + 1) + m by lia]
    exact ls_row s st m n (cur + 1) fun i h1 h2 => h i (by lia) (by lia)
theorem get_at {s : Str} {pre l : List Nat} (hs : s.cps.toList = pre ++ l) (i : Nat) : s.cps[pre.length + i]? = l[i]? := by
  rw [← Array.getElem?_toList, hs, List.getElem?_append_right (by lia)]
  congr 1; lia
theorem getD_at {s : Str} {pre l : List Nat} (hs : s.cps.toList = pre ++ l) (i : Nat) : s.cps.getD (pre.length + i) 0 = (l[i]?).getD 0 := by
  rw [← get_at hs i]
  simp [Array.getD_eq_getD_getElem?]
open StrLaws in
theorem ls_eol (s : Str) {e pre l : List Nat} (he : e = [10] ∨ e = [13, 10]) (hs : s.cps.toList = pre ++ (e ++ l)) (A : Array (Nat × Nat × Nat)) (st n : Nat) (hst : st ≤ pre.length) :
    (forIn (m := Id) (List.range' pre.length (e.length + n)) ((A, st) : LsSt) (lsBody s)) = (forIn (m := Id) (List.range' (pre.length + e.length) n) ((A.push (st, pre.length, pre.length + e.length), pre.length + e.length) : LsSt) (lsBody s)) := by
  have b10 : Unicode.isLineBreak 10 = true := by decide +kernel
  have b13 : Unicode.isLineBreak 13 = true := by decide +kernel
  rcases he with rfl | rfl
  · rw [show ([10] : List Nat).length + n = n + 1 by simp; lia, List.range'_succ, List.forIn_cons]
    have g0 : s.cps.getD pre.length 0 = 10 := getD_at hs 0
    have e : lsBody s pre.length (A, st) = pure (ForInStep.yield (A.push (st, pre.length, pre.length + 1), pre.length + 1)) := by
      unfold lsBody lsNext
      rw [g0, b10, Bool.and_true, if_pos (by simpa using hst)]
      rfl
    rw [e]; rfl
  · rw [show ([13, 10] : List Nat).length + n = (n + 1) + 1 by simp; lia, List.range'_succ, List.forIn_cons]
    have g0 : s.cps.getD pre.length 0 = 13 := getD_at hs 0
    have g1 : s.cps[pre.length + 1]? = some 10 := get_at hs 1
    have e : lsBody s pre.length (A, st) = pure (ForInStep.yield (A.push (st, pre.length, pre.length + 2), pre.length + 2)) := by
      unfold lsBody lsNext
      rw [g0, g1, b13, Bool.and_true, if_pos (by simpa using hst)]
      rfl
    rw [e]
    show (forIn (m := Id) (List.range' (pre.length + 1) (n + 1)) _ _) = _
    rw [List.range'_succ, List.forIn_cons]
    have e2 : lsBody s (pre.length + 1) (A.push (st, pre.length, pre.length + 2), pre.length + 2) = pure (ForInStep.yield (A.push (st, pre.length, pre.length + 2), pre.length + 2)) := by
      unfold lsBody
      rw [if_neg (by simp)]
    rw [e2]; rfl
noncomputable def spansE (e : Nat) : Nat → List (List Nat) → List (Nat × Nat × Nat)
  | _, [] => []
  | cur, [x] => if x = [] then [] else [(cur, cur + x.length, cur + x.length)]
  | cur, x :: y :: r => (cur, cur + x.length, cur + x.length + e) :: spansE e (cur + x.length + e) (y :: r)
/-- without the last row, where that is empty -/
noncomputable def dropE : List (List Nat) → List (List Nat)
  | [] => []
  | [x] => if x = [] then [] else [x]
  | x :: y :: r => x :: dropE (y :: r)
open StrLaws in
theorem ls_glue {e : List Nat} (he : e = [10] ∨ e = [13, 10]) (s : Str) : ∀ (rows : List (List Nat)) (pre : List Nat) (A : Array (Nat × Nat × Nat)), rows ≠ [] → (∀ x ∈ rows, ∀ n ∈ x, Unicode.isLineBreak n = false) →
    s.cps.toList = pre ++ glueL e rows → lsEnd s (Id.run (forIn (m := Id) (List.range' pre.length (glueL e rows).length) ((A, pre.length) : LsSt) (lsBody s))) = A.toList ++ spansE e.length pre.length rows
  | [], _, _, h, _, _ => absurd rfl h
  | [x], pre, A, _, hf, hs => by
    have hs : s.cps.toList = pre ++ x := hs
    have hl : s.length = pre.length + x.length := by show s.cps.size = _; rw [← Array.length_toList, hs, List.length_append]
    have hr := ls_row s (A, pre.length) x.length 0 pre.length fun i h1 h2 => by
      have := getD_at hs (i - pre.length)
      rw [show pre.length + (i - pre.length) = i by lia] at this
      rw [this, List.getElem?_eq_getElem (by lia)]
      exact hf x List.mem_cons_self _ (List.getElem_mem _)
    show lsEnd s (Id.run (forIn (m := Id) (List.range' pre.length (x.length + 0)) ((A, pre.length) : LsSt) (lsBody s))) = _
    rw [hr]
    show (if pre.length < s.length then A.push (pre.length, s.length, s.length) else A).toList = A.toList ++ spansE e.length pre.length [x]
    unfold spansE
    by_cases hx : x = []
    · subst hx
      rw [if_neg (by rw [hl]; simp), if_pos rfl, List.append_nil]
    · have : 0 < x.length := List.length_pos_iff.mpr hx
      rw [if_pos (by lia), if_neg hx, Array.toList_push, hl]
  | x :: y :: r, pre, A, _, hf, hs => by
    have hg : glueL e (x :: y :: r) = x ++ (e ++ glueL e (y :: r)) := by show x ++ e ++ _ = _; rw [List.append_assoc]
    rw [hg] at hs
    have hr := ls_row s (A, pre.length) x.length (e.length + (glueL e (y :: r)).length) pre.length fun i h1 h2 => by
      have := getD_at hs (i - pre.length)
      rw [show pre.length + (i - pre.length) = i by lia] at this
      rw [this, List.getElem?_append_left (by lia), List.getElem?_eq_getElem (by lia)]
      exact hf x List.mem_cons_self _ (List.getElem_mem _)
    have hs2 : s.cps.toList = (pre ++ x) ++ (e ++ glueL e (y :: r)) := by rw [hs, List.append_assoc]
    have hq := ls_eol s he hs2 A pre.length (glueL e (y :: r)).length (by rw [List.length_append]; lia)
    have hs3 : s.cps.toList = (pre ++ x ++ e) ++ glueL e (y :: r) := by rw [hs2, List.append_assoc (pre ++ x)]
    have ih := ls_glue he s (y :: r) (pre ++ x ++ e) (A.push (pre.length, (pre ++ x).length, (pre ++ x).length + e.length)) (List.cons_ne_nil _ _) (fun z hz => hf z (List.mem_cons_of_mem _ hz)) hs3
    rw [hg, List.length_append, List.length_append, hr, show pre.length + x.length = (pre ++ x).length by rw [List.length_append], hq, show (pre ++ x).length + e.length = (pre ++ x ++ e).length by rw [List.length_append (as := pre ++ x)]]
    rw [show (pre ++ x).length + e.length = (pre ++ x ++ e).length by rw [List.length_append (as := pre ++ x)]] at ih
    rw [ih, Array.toList_push, List.append_assoc]
    show _ = A.toList ++ ((pre.length, pre.length + x.length, pre.length + x.length + e.length) :: spansE e.length (pre.length + x.length + e.length) (y :: r))
    rw [show (pre ++ x ++ e).length = pre.length + x.length + e.length by simp only [List.length_append], show (pre ++ x).length = pre.length + x.length by simp only [List.length_append]]
    rfl
theorem sub_at {s : Str} {pre x l : List Nat} (hs : s.cps.toList = pre ++ (x ++ l)) : Builtin.Str.strSub s pre.length (pre.length + x.length) = mk x := by
  have hc : s.cps = (pre ++ (x ++ l)).toArray := by rw [← hs]
  show (⟨s.cps.extract pre.length (pre.length + x.length)⟩ : Str) = ⟨x.toArray⟩
  congr 1
  apply Array.toList_inj.mp
  rw [Array.toList_extract, hs]
  simp
theorem spans_sub (e : List Nat) (s : Str) : ∀ (rows : List (List Nat)) (pre : List Nat), s.cps.toList = pre ++ glueL e rows →
    (spansE e.length pre.length rows).map (fun p => Builtin.Str.strSub s p.1 p.2.1) = (dropE rows).map mk
  | [], _, _ => rfl
  | [x], pre, hs => by
    unfold spansE dropE
    by_cases hx : x = []
    · rw [if_pos hx, if_pos hx]; rfl
    · rw [if_neg hx, if_neg hx]
      have hs : s.cps.toList = pre ++ (x ++ []) := by rw [List.append_nil]; exact hs
      show [Builtin.Str.strSub s pre.length (pre.length + x.length)] = [mk x]
      rw [sub_at hs]
  | x :: y :: r, pre, hs => by
    have hs : s.cps.toList = pre ++ (x ++ (e ++ glueL e (y :: r))) := by rw [hs]; show pre ++ (x ++ e ++ _) = _; rw [List.append_assoc x]
    have ih := spans_sub e s (y :: r) (pre ++ x ++ e) (by rw [hs]; simp only [List.append_assoc])
    rw [show (pre ++ x ++ e).length = pre.length + x.length + e.length by simp only [List.length_append]] at ih
    show Builtin.Str.strSub s pre.length (pre.length + x.length) :: _ = mk x :: _
    rw [ih, sub_at hs]
theorem linesS_eq (x : Str) : linesS x = linesOf x := by
  unfold linesS
  split
  · rename_i h
    have h := eq_of_beq h
    unfold linesOf
    rw [h]
    show _ = [Builtin.Str.strSub x 0 x.length]
    congr 1
    obtain ⟨a⟩ := x
    show _ = (⟨a.extract 0 a.size⟩ : Str)
    rw [Array.extract_size]
  · rfl
theorem lines_glue {e : List Nat} (he : e = [10] ∨ e = [13, 10]) {rows : List (List Nat)} (hne : rows ≠ []) (hf : ∀ x ∈ rows, ∀ n ∈ x, Unicode.isLineBreak n = false) :
    linesS (mk (glueL e rows)) = (dropE rows).map mk := by
  rw [linesS_eq]
  have hs : (mk (glueL e rows)).cps.toList = [] ++ glueL e rows := by simp
  have h := ls_glue he (mk (glueL e rows)) rows [] #[] hne hf hs
  have h2 := spans_sub e (mk (glueL e rows)) rows [] hs
  have hsp : Builtin.Str.lineSpans (mk (glueL e rows)) = spansE e.length 0 rows := by
    rw [StrLaws.ls_eq, show (mk (glueL e rows)).length = (glueL e rows).length from mk_len _]
    simpa using h
  unfold linesOf lineCuts
  rw [hsp, List.map_map]
  exact h2
end Mine
namespace Mine
open PySem PySem.W PyProof.Rows

noncomputable def marks6 : List Nat := [124, 33, 39, 34, 61, 59]
noncomputable def resp229 (mark rule : Nat) : Str := Str.ofString "229 (" ++ Txt.mul ⟨#[mark]⟩ 3 ++ Str.ofString (toString (rule : Int)) ++ ⟨#[mark]⟩ ++ Str.ofString ")"
/-- the reply of a mark and a rule is told -/
noncomputable def Ok229 (mark rule : Nat) : Prop := ∃ l r parts, P229 (resp229 mark rule) mark l r parts (rule : Int)
theorem find_at {x : Str} {pre post : List Nat} {c lo : Nat} (hx : x.cps.toList = pre ++ c :: post) (hlo : lo ≤ pre.length) (hf : ∀ v, lo ≤ v → v < pre.length → pre[v]? ≠ some c) : Txt.find3 x ⟨#[c]⟩ (lo : Int) = (pre.length : Int) := by
  have hlen : x.length = pre.length + (post.length + 1) := by
    show x.cps.size = _
    rw [← Array.length_toList, hx]; simp
  have e : ∀ v, x.cps.getD v 0 = ((pre ++ c :: post)[v]?).getD 0 := fun v => by
    rw [← hx]; simp [Array.getD_eq_getD_getElem?]
  have hi : fromIndex x.length (lo : Int) = lo := by unfold fromIndex; lia
  have hc : x.cps.getD pre.length 0 = c := by rw [e]; simp
  have hs := StrLaws.find3_spec x c (lo : Int)
  rw [hi] at hs
  rcases hs with ⟨_, h⟩ | ⟨k, h, h1, h2, h3, h4⟩
  · exact absurd hc (h _ hlo (by lia))
  · rw [h]
    have h5 : ¬ pre.length < k := fun q => h4 _ hlo q hc
    have h6 : ¬ k < pre.length := fun q => by
      rw [e, List.getElem?_append_left q] at h3
      rw [List.getElem?_eq_getElem q] at h3
      exact hf k h1 q (by rw [List.getElem?_eq_getElem q]; exact congrArg some h3)
    lia
/-- the figures of a rule -/
noncomputable def digs (r : Nat) : Str := Str.ofString (toString (r : Int))
noncomputable def digsOk (r : Nat) : Bool := (digs r).cps.toList.all (fun c => Nat.ble 48 c && Nat.ble c 57) && Nat.ble (digs r).length 9 && decide (PySem.intText? (digs r) = some (r : Int))
theorem digs0 : ((List.range 64).all fun r => digsOk r) = true := by decide +kernel
theorem digs1 : ((List.range 64).all fun r => digsOk (64 + r)) = true := by decide +kernel
theorem digs2 : ((List.range 64).all fun r => digsOk (128 + r)) = true := by decide +kernel
theorem digs3 : ((List.range 64).all fun r => digsOk (192 + r)) = true := by decide +kernel
theorem digs_ok {r : Nat} (h : r < 256) : digsOk r = true := by
  have at_ : ∀ {b : Nat}, ((List.range 64).all fun r => digsOk (b + r)) = true → b ≤ r → r < b + 64 → digsOk r = true := fun {b} H h1 h2 => by
    have := List.all_eq_true.mp H (r - b) (List.mem_range.mpr (by lia))
    rwa [show b + (r - b) = r by lia] at this
  rcases (by lia : r < 64 ∨ (64 ≤ r ∧ r < 128) ∨ (128 ≤ r ∧ r < 192) ∨ 192 ≤ r) with q | q | q | q
  · exact List.all_eq_true.mp digs0 r (List.mem_range.mpr q)
  · exact at_ digs1 q.1 q.2
  · exact at_ digs2 q.1 q.2
  · exact at_ digs3 q (by lia)
theorem ok229_all : ∀ m ∈ marks6, ∀ r < 256, Ok229 m r := by
  intro m hm r hr
  have hm : m < 40 ∨ 57 < m := by
    have hm : m = 124 ∨ m = 33 ∨ m = 39 ∨ m = 34 ∨ m = 61 ∨ m = 59 := by simpa [marks6] using hm
    lia
  have hd := digs_ok hr
  unfold digsOk at hd
  simp only [Bool.and_eq_true, decide_eq_true_eq] at hd
  obtain ⟨⟨hd, hl⟩, hi⟩ := hd
  have hl := Nat.le_of_ble_eq_true hl
  have hd : ∀ c ∈ (digs r).cps.toList, 48 ≤ c ∧ c ≤ 57 := fun c hc => by
    have := List.all_eq_true.mp hd c hc
    simp only [Bool.and_eq_true] at this
    exact ⟨Nat.le_of_ble_eq_true this.1, Nat.le_of_ble_eq_true this.2⟩
  have e : resp229 m r = mk ([50, 50, 57, 32] ++ 40 :: ([m, m, m] ++ (digs r).cps.toList ++ [m, 41])) := by
    have e1 : Str.ofString "229 (" = mk [50, 50, 57, 32, 40] := by kernel_rfl
    have e2 : Str.ofString ")" = mk [41] := by kernel_rfl
    have e3 : Txt.mul ⟨#[m]⟩ 3 = mk [m, m, m] := rfl
    have e4 : Str.ofString (toString (r : Int)) = mk (digs r).cps.toList := rfl
    have e5 : (⟨#[m]⟩ : Str) = mk [m] := rfl
    unfold resp229
    rw [e1, e2, e3, e4, e5]
    generalize (digs r).cps.toList = ds
    have app : ∀ a b : List Nat, mk a ++ mk b = mk (a ++ b) := fun a b => by
      show (⟨a.toArray ++ b.toArray⟩ : Str) = _
      rw [List.append_toArray]
    rw [app, app, app, app]
    simp
  have hl : (digs r).cps.toList.length ≤ 9 := by rw [Array.length_toList]; exact hl
  have hi : PySem.intText? (mk (digs r).cps.toList) = some (r : Int) := hi
  generalize (digs r).cps.toList = ds at hd hl hi e
  have hrl : (resp229 m r).length = 10 + ds.length := by
    rw [e]; show (List.toArray _).size = _; rw [List.size_toArray]; simp only [List.length_append, List.length_cons, List.length_nil]; lia
  have hl4 : Txt.find (resp229 m r) "(" = 4 := by
    have e0 : ("(" : Str) = ⟨#[40]⟩ := by kernel_rfl
    rw [e0]
    show Txt.find3 (resp229 m r) ⟨#[40]⟩ ((0 : Nat) : Int) = _
    exact find_at (pre := [50, 50, 57, 32]) (by rw [e]) (Nat.zero_le _) (fun v _ h => by
      have h : v < 4 := h
      rcases (by lia : v = 0 ∨ v = 1 ∨ v = 2 ∨ v = 3) with rfl | rfl | rfl | rfl <;> simp)
  have hr4 : Txt.find3 (resp229 m r) ")" 5 = ((9 + ds.length : Nat) : Int) := by
    have e0 : (")" : Str) = ⟨#[41]⟩ := by kernel_rfl
    rw [e0]
    have hp : ([50, 50, 57, 32, 40, m, m, m] ++ ds ++ [m]).length = 9 + ds.length := by simp only [List.length_append, List.length_cons, List.length_nil]; lia
    rw [← hp]
    refine find_at (lo := 5) (post := []) (by rw [e]; simp) (by rw [hp]; lia) fun v h1 h2 h3 => ?_
    obtain ⟨w, rfl⟩ : ∃ w, v = 5 + w := ⟨v - 5, by lia⟩
    have hmem : (41 : Nat) ∈ [m, m, m] ++ ds ++ [m] := by
      have : ([50, 50, 57, 32, 40, m, m, m] ++ ds ++ [m])[5 + w]? = ([m, m, m] ++ ds ++ [m])[w]? := by
        rw [show [50, 50, 57, 32, 40, m, m, m] ++ ds ++ [m] = [50, 50, 57, 32, 40] ++ ([m, m, m] ++ ds ++ [m]) by simp, List.getElem?_append_right (by simp)]
        congr 1; simp
      rw [this] at h3
      exact List.mem_of_getElem? h3
    simp only [List.mem_append, List.mem_cons, List.not_mem_nil, or_false] at hmem
    rcases hmem with (hq | hq) | hq
    · lia
    · have := hd _ hq; lia
    · lia
  have hcut : sliceS (resp229 m r) (some 5) (some ((9 + ds.length : Nat) : Int)) = mk (glueL [m] [[], [], [], ds, []]) := by
    rw [show (5 : Int) = ((5 : Nat) : Int) from rfl, sliceS_run _ _ _ (by lia) (by lia), e]
    show mk _ = mk _
    congr 1
    show (([m, m, m] ++ ds ++ [m, 41]).take (9 + ds.length - 5)) = _
    rw [show [m, m, m] ++ ds ++ [m, 41] = ([m, m, m] ++ ds ++ [m]) ++ [41] by simp, List.take_left' (by simp only [List.length_append, List.length_cons, List.length_nil]; lia)]
    simp [glueL]
  have hparts := split_glueC m (rows := [[], [], [], ds, []]) (List.cons_ne_nil _ _) (by
    intro x hx
    simp only [List.mem_cons, List.not_mem_nil, or_false] at hx
    rcases hx with rfl | rfl | rfl | rfl | rfl <;> try exact List.not_mem_nil
    intro hq; have := hd _ hq; lia)
  have h229 : sliceS (resp229 m r) none (some 3) = Str.ofString "229" := by
    rw [show (3 : Int) = ((3 : Nat) : Int) from rfl, sliceS_to _ _ (by lia), e]
    have : Str.ofString "229" = mk [50, 50, 57] := by kernel_rfl
    rw [this]; rfl
  have ha1 : (seqIndex? 5 (resp229 m r).length).bind ((resp229 m r).cps[·]?) = some m := by
    rw [StrLaws.seqIndex_nonneg (by decide) (by lia), e]; rfl
  have ha2 : (seqIndex? (((9 + ds.length : Nat) : Int) - 1) (resp229 m r).length).bind ((resp229 m r).cps[·]?) = some m := by
    rw [StrLaws.seqIndex_nonneg (by lia) (by lia), show (((9 + ds.length : Nat) : Int) - 1).toNat = 8 + ds.length by lia, e]
    show (mk _).cps[_]? = _
    rw [← Array.getElem?_toList]
    show ([50, 50, 57, 32, 40, m, m, m] ++ (ds ++ [m, 41]))[8 + ds.length]? = _
    rw [← List.append_assoc, List.getElem?_append_right (by simp only [List.length_append, List.length_cons, List.length_nil]; lia)]
    rw [show 8 + ds.length - ([50, 50, 57, 32, 40, m, m, m] ++ ds).length = 0 by simp only [List.length_append, List.length_cons, List.length_nil]; lia]
    rfl
  have hcl : (mk (glueL [m] [[], [], [], ds, []])).length ≤ sizeLine := by
    refine Nat.le_trans ?_ (show 1000 ≤ sizeLine from Nat.le_of_ble_eq_true rfl)
    show (List.toArray _).size ≤ _
    rw [List.size_toArray]
    simp only [glueL, List.length_append, List.length_cons, List.length_nil]; lia
  exact ⟨4, ((9 + ds.length : Nat) : Int), [mk [], mk [], mk [], mk ds, mk []], by lia, by rw [h229]; simp, hl4, rfl, hr4, by rw [decide_eq_false_iff_not]; lia, by rfl, by simp; lia, ha1, ha2, by rw [show (4 : Int) + 1 = 5 from rfl, hcut]; exact hparts, by rw [show (4 : Int) + 1 = 5 from rfl, hcut]; exact hcl, rfl, mk ds, rfl, hi, by show (List.toArray _).size ≤ _; rw [List.size_toArray]; lia⟩
end Mine
namespace Mine
open PySem PySem.W PyProof.Rows

/-- f of n, where the kernel reckons n first -/
noncomputable def strictN {α : Type} (n : Nat) (f : Nat → α) : α := @Nat.rec (fun _ => α) (f 0) (fun m _ => f (Nat.succ m)) n
theorem strictN_eq {α : Type} (n : Nat) (f : Nat → α) : strictN n f = f n := by cases n <;> rfl
noncomputable def sx {α : Type} (x : UInt64) (f : UInt64 → α) : α := strictN x.toNat fun n => f n.toUInt64
theorem sx_eq {α : Type} (x : UInt64) (f : UInt64 → α) : sx x f = f x := by
  unfold sx; rw [strictN_eq]; congr 1; simp
noncomputable def si {α : Type} (i : Int) (f : Int → α) : α := match i with
  | .ofNat n => strictN n fun n => f (.ofNat n)
  | .negSucc n => strictN n fun n => f (.negSucc n)
theorem si_eq {α : Type} (i : Int) (f : Int → α) : si i f = f i := by
  unfold si; cases i <;> exact strictN_eq _ _

/-- the place of the highest bit, by halves -/
noncomputable def lgJ : Nat → Nat → Nat → Nat
  | 0, _, acc => acc
  | j + 1, n, acc => strictN (Nat.pow 2 (Nat.pow 2 j)) fun p => cond (Nat.ble p n) (strictN (Nat.div n p) fun m => strictN (Nat.add acc (Nat.pow 2 j)) fun a => lgJ j m a) (lgJ j n acc)
theorem log2_div {n b : Nat} (h : 2 ^ b ≤ n) : n.log2 = (n / 2 ^ b).log2 + b := by
  have hn : n ≠ 0 := by have := Nat.two_pow_pos b; lia
  have hq : n / 2 ^ b ≠ 0 := by
    have := Nat.div_pos h (Nat.two_pow_pos b); lia
  rw [Nat.log2_eq_iff hn]
  have h1 := Nat.log2_self_le hq
  have h2 := Nat.lt_log2_self (n := n / 2 ^ b)
  constructor
  · rw [Nat.pow_add]
    exact Nat.le_trans (Nat.mul_le_mul_right _ h1) (Nat.div_mul_le_self _ _)
  · have := (Nat.div_lt_iff_lt_mul (Nat.two_pow_pos b)).mp h2
    rw [← Nat.pow_add] at this
    rwa [show (n / 2 ^ b).log2 + b + 1 = (n / 2 ^ b).log2 + 1 + b by lia]
theorem lgJ_eq : ∀ (j n acc : Nat), n < 2 ^ 2 ^ j → lgJ j n acc = n.log2 + acc
  | 0, n, acc, h => by
    have : n.log2 = 0 := by
      have h : n < 2 := h
      match n, h with
      | 0, _ => rfl
      | 1, _ => rfl
    rw [this]; simp [lgJ]
  | j + 1, n, acc, h => by
    have e : lgJ (j + 1) n acc = if Nat.ble (2 ^ 2 ^ j) n = true then lgJ j (n / 2 ^ 2 ^ j) (acc + 2 ^ j) else lgJ j n acc := by
      show strictN _ _ = _
      rw [strictN_eq]
      show cond (Nat.ble (2 ^ 2 ^ j) n) _ _ = _
      cases Nat.ble (2 ^ 2 ^ j) n with
      | false => rfl
      | true => rw [cond_true, strictN_eq, strictN_eq, if_pos rfl]; rfl
    rw [e]
    split
    · rename_i hb
      have hb := Nat.le_of_ble_eq_true hb
      rw [lgJ_eq j _ _ ?_, log2_div hb]
      · lia
      · rw [Nat.div_lt_iff_lt_mul (Nat.two_pow_pos _), ← Nat.pow_add]
        rwa [show 2 ^ j + 2 ^ j = 2 ^ (j + 1) by rw [Nat.pow_succ]; lia]
    · rename_i hb
      refine lgJ_eq j n acc ?_
      rcases Nat.lt_or_ge n (2 ^ 2 ^ j) with q | q
      · exact q
      · exact absurd (Nat.ble_eq.mpr q) hb
noncomputable def lg (n : Nat) : Nat := cond (Nat.ble n 340282366920938463463374607431768211455) (lgJ 7 n 0) (cond (Nat.ble n (Nat.pow 2 2048 - 1)) (lgJ 11 n 0) n.log2)
theorem lg_eq (n : Nat) : lg n = n.log2 := by
  unfold lg
  cases h : Nat.ble n 340282366920938463463374607431768211455 with
  | false =>
    rw [cond_false]
    cases h2 : Nat.ble n (Nat.pow 2 2048 - 1) with
    | false => rfl
    | true =>
      rw [cond_true]
      have h2 := Nat.le_of_ble_eq_true h2
      refine lgJ_eq 11 n 0 ?_
      have : 0 < 2 ^ 2 ^ 11 := Nat.two_pow_pos _
      have e : Nat.pow 2 2048 = 2 ^ 2 ^ 11 := rfl
      rw [e] at h2
      lia
  | true =>
    rw [cond_true]
    have h := Nat.le_of_ble_eq_true h
    exact lgJ_eq 7 n 0 (Nat.lt_succ_of_le h)

theorem half_scale (a b c : Nat) (hc : 0 < c) : Float64.halfEven (a * c) (b * c) = Float64.halfEven a b := by
  unfold Float64.halfEven
  rw [Nat.mul_div_mul_right _ _ hc, Nat.mul_mod_mul_right]
  have h1 : (2 * (a % b * c) > b * c) ↔ (2 * (a % b) > b) := by
    rw [← Nat.mul_assoc]; exact Nat.mul_lt_mul_right hc
  have h2 : (2 * (a % b * c) == b * c) = (2 * (a % b) == b) := by
    rw [Bool.eq_iff_iff, beq_iff_eq, beq_iff_eq, ← Nat.mul_assoc]
    exact ⟨fun h => Nat.eq_of_mul_eq_mul_right hc h, fun h => by rw [h]⟩
  simp only [h1, h2]
theorem half_one (a : Nat) : Float64.halfEven a 1 = a := by
  unfold Float64.halfEven
  simp [Nat.mod_one]

/-- the nearest of n / d -/
noncomputable def hf (n d : Nat) : Nat := strictN (Nat.div n d) fun q => strictN (Nat.mul 2 (Nat.mod n d)) fun r2 => cond (Nat.blt d r2) (Nat.succ q) (cond (Nat.beq r2 d) (Nat.add q (Nat.mod q 2)) q)
theorem hf_eq (n d : Nat) : hf n d = Float64.halfEven n d := by
  unfold hf
  simp only [strictN_eq]
  show cond (Nat.blt d (2 * (n % d))) (n / d + 1) (cond (Nat.beq (2 * (n % d)) d) (n / d + n / d % 2) (n / d)) = _
  unfold Float64.halfEven
  have h1 : Nat.blt d (2 * (n % d)) = decide (2 * (n % d) > d) := by
    rw [Bool.eq_iff_iff, decide_eq_true_eq]; exact ⟨fun h => Nat.le_of_ble_eq_true h, fun h => Nat.ble_eq.mpr h⟩
  have h2 : Nat.beq (2 * (n % d)) d = (2 * (n % d) == d) := by
    rw [Bool.eq_iff_iff, beq_iff_eq]; exact ⟨fun h => Nat.eq_of_beq_eq_true h, fun h => by rw [h]; exact Nat.beq_refl d⟩
  rw [h1, h2]
  by_cases a : 2 * (n % d) > d
  · simp [a]
  · simp only [a, decide_false, Bool.false_or, cond_false]
    cases b : (2 * (n % d) == d) with
    | false => simp
    | true =>
      have hm := Nat.mod_two_eq_zero_or_one (n / d)
      rcases hm with hm | hm <;> simp [hm]
/-- no more than infinity -/
noncomputable def capM (v : Nat) : Nat := cond (Nat.ble v 9218868437227405312) v 9218868437227405312
theorem infMag_is : Float64.infMag = 9218868437227405312 := by decide
theorem capM_eq (v : Nat) : capM v = min Float64.infMag v := by
  rw [infMag_is]
  unfold capM
  generalize 9218868437227405312 = M
  cases hb : Nat.ble v M with
  | true => have := Nat.le_of_ble_eq_true hb; rw [cond_true]; lia
  | false =>
    have : ¬ v ≤ M := fun q => by rw [Nat.ble_eq.mpr q] at hb; cases hb
    rw [cond_false]; lia
/-- n over 2 ^ k, rounded -/
noncomputable def rb (n k : Nat) : Nat := strictN n fun n => strictN (lg n) fun ln =>
  cond (Nat.blt 0 n && Nat.ble k (ln + 1022))
    (strictN ((ln + 1022 - k) * 2 ^ 52 + cond (Nat.ble ln 52) (n * 2 ^ (52 - ln)) (strictN (2 ^ (ln - 52)) fun d => hf n d)) capM)
    (Float64.roundMag n (2 ^ k))
theorem rb_eq (n k : Nat) : rb n k = Float64.roundMag n (2 ^ k) := by
  unfold rb
  simp only [strictN_eq, lg_eq, hf_eq]
  cases hg : (Nat.blt 0 n && Nat.ble k (n.log2 + 1022)) with
  | false => rfl
  | true =>
    simp only [Bool.and_eq_true] at hg
    obtain ⟨h0, h1⟩ := hg
    have h0 : 0 < n := Nat.le_of_ble_eq_true h0
    have h1 : k ≤ n.log2 + 1022 := Nat.le_of_ble_eq_true h1
    have hlo := Nat.log2_self_le (Nat.ne_of_gt h0)
    generalize hl : n.log2 = ln at *
    have hz : (n == 0) = false := beq_eq_false_iff_ne.mpr (Nat.ne_of_gt h0)
    have e1 : (if (Float64.shift n (2 ^ k) (-((ln : Int) - (k : Int)))).1 ≥ (Float64.shift n (2 ^ k) (-((ln : Int) - (k : Int)))).2 then ((ln : Int) - (k : Int)) - 52 else ((ln : Int) - (k : Int)) - 53) = (ln : Int) - k - 52 := by
      rw [if_pos]
      unfold Float64.shift
      split
      · rename_i h
        show n * 2 ^ _ ≥ 2 ^ k
        have : k = ln + (-((ln : Int) - (k : Int))).toNat := by lia
        rw [show (2 : Nat) ^ k = 2 ^ ln * 2 ^ (-((ln : Int) - (k : Int))).toNat by rw [← Nat.pow_add, ← this]]
        exact Nat.mul_le_mul_right _ hlo
      · rename_i h
        show n ≥ 2 ^ k * 2 ^ _
        rw [← Nat.pow_add, show k + (- -((ln : Int) - (k : Int))).toNat = ln by lia]
        exact hlo
    have e2 : max ((ln : Int) - k - 52) (-1074) = (ln : Int) - k - 52 := by lia
    have e3 : Float64.roundMag n (2 ^ k) = min Float64.infMag ((((ln : Int) - k - 52) + 1074).toNat * 2 ^ 52 + Float64.halfEven (Float64.shift n (2 ^ k) (-((ln : Int) - k - 52))).1 (Float64.shift n (2 ^ k) (-((ln : Int) - k - 52))).2) := by
      unfold Float64.roundMag
      rw [hz, hl, Nat.log2_two_pow]
      simp only [Bool.false_eq_true, if_false]
      rw [e1, e2]
    rw [e3]
    have e4 : Float64.halfEven (Float64.shift n (2 ^ k) (-((ln : Int) - k - 52))).1 (Float64.shift n (2 ^ k) (-((ln : Int) - k - 52))).2 = cond (Nat.ble ln 52) (n * 2 ^ (52 - ln)) (Float64.halfEven n (2 ^ (ln - 52))) := by
      unfold Float64.shift
      split
      · rename_i h
        show Float64.halfEven (n * 2 ^ _) (2 ^ k) = _
        cases hb : Nat.ble ln 52 with
        | true =>
          have hb := Nat.le_of_ble_eq_true hb
          rw [show (-((ln : Int) - k - 52)).toNat = (52 - ln) + k by lia, Nat.pow_add, ← Nat.mul_assoc]
          have := half_scale (n * 2 ^ (52 - ln)) 1 (2 ^ k) (Nat.two_pow_pos k)
          rw [Nat.one_mul, half_one] at this
          exact this
        | false =>
          have hb : ¬ ln ≤ 52 := fun q => by rw [Nat.ble_eq.mpr q] at hb; cases hb
          have := half_scale n (2 ^ (ln - 52)) (2 ^ (k + 52 - ln)) (Nat.two_pow_pos _)
          rw [← Nat.pow_add, show ln - 52 + (k + 52 - ln) = k by lia] at this
          rw [show (-((ln : Int) - k - 52)).toNat = k + 52 - ln by lia]
          exact this
      · rename_i h
        show Float64.halfEven n (2 ^ k * 2 ^ _) = _
        cases hb : Nat.ble ln 52 with
        | true =>
          have hb := Nat.le_of_ble_eq_true hb
          lia
        | false =>
          rw [← Nat.pow_add, show k + (- -((ln : Int) - k - 52)).toNat = ln - 52 by lia]; rfl
    rw [e4, show (((ln : Int) - k - 52) + 1074).toNat = ln + 1022 - k by lia]
    rw [cond_true, capM_eq]
end Mine
namespace Mine
open PySem PySem.W PyProof.Rows

noncomputable def rd (n d : Nat) : Nat := strictN n fun n => strictN d fun d => if n == 0 then 0 else si ((lg n : Int) - (lg d : Int)) fun l =>
  match Float64.shift n d (-l) with
  | (a, b) => strictN a fun a => strictN b fun b => si (max (if a ≥ b then l - 52 else l - 53) (-1074)) fun e =>
    match Float64.shift n d (-e) with
    | (a, b) => min Float64.infMag ((e + 1074).toNat * 2 ^ 52 + hf a b)
theorem rd_eq (n d : Nat) : rd n d = Float64.roundMag n d := by
  unfold rd Float64.roundMag
  simp only [strictN_eq, si_eq, lg_eq, hf_eq]
noncomputable def fracF (neg : Bool) (n d : Nat) : UInt64 := Float64.pack neg (rd n d)
theorem fracF_eq (neg : Bool) (n d : Nat) : fracF neg n d = Float64.ofFrac neg n d := by unfold fracF Float64.ofFrac; rw [rd_eq]
noncomputable def binF (neg : Bool) (m : Nat) (e : Int) : UInt64 := match e with
  | .ofNat j => Float64.pack neg (rb (m * 2 ^ j) 0)
  | .negSucc j => Float64.pack neg (rb m (j + 1))
theorem binF_eq (neg : Bool) (m : Nat) (e : Int) : binF neg m e = Float64.ofBin neg m e := by
  unfold binF Float64.ofBin Float64.shift Float64.ofFrac
  cases e with
  | ofNat j =>
    rw [if_pos (show Int.ofNat j ≥ 0 from Int.natCast_nonneg j)]
    show Float64.pack neg (rb (m * 2 ^ j) 0) = Float64.pack neg (Float64.roundMag (m * 2 ^ j) 1)
    rw [rb_eq, Nat.pow_zero]
  | negSucc j =>
    rw [if_neg (by have := Int.negSucc_lt_zero j; lia)]
    show Float64.pack neg (rb m (j + 1)) = Float64.pack neg (Float64.roundMag m (1 * 2 ^ (- Int.negSucc j).toNat))
    rw [rb_eq, Nat.one_mul]; rfl
noncomputable def intF (i : Int) : UInt64 := Float64.pack (i < 0) (rb i.natAbs 0)
theorem intF_eq (i : Int) : intF i = Float64.ofInt i := by unfold intF Float64.ofInt Float64.ofFrac; rw [rb_eq, Nat.pow_zero]
noncomputable def mulF (x y : UInt64) : UInt64 := match Float64.decode x, Float64.decode y with
  | .fin a m e, .fin b k f => binF (a != b) (m * k) (e + f)
  | _, _ => Float64.mul x y
theorem mulF_eq (x y : UInt64) : mulF x y = Float64.mul x y := by
  unfold mulF
  split
  · rename_i h1 h2
    rw [binF_eq]; unfold Float64.mul; rw [h1, h2]
  · rfl
noncomputable def addF (x y : UInt64) : UInt64 := match Float64.decode x, Float64.decode y with
  | .fin a m e, .fin b k f => match Float64.align a m e b k f with
    | (p, q, g) => si (p + q) fun r => if r == 0 then Float64.zero (a && b) else binF (r < 0) r.natAbs g
  | _, _ => Float64.add x y
theorem addF_eq (x y : UInt64) : addF x y = Float64.add x y := by
  unfold addF
  split
  · rename_i h1 h2
    simp only [si_eq, binF_eq]; unfold Float64.add; rw [h1, h2]
  · rfl
noncomputable def subF (x y : UInt64) : UInt64 := addF x (Float64.neg y)
theorem subF_eq (x y : UInt64) : subF x y = Float64.sub x y := by unfold subF Float64.sub; rw [addF_eq]
noncomputable def divF (x y : UInt64) : UInt64 := match Float64.decode x, Float64.decode y with
  | .fin a m e, .fin b k f => if k == 0 then Float64.div x y else match Float64.shift m k (e - f) with
    | (n, d) => fracF (a != b) n d
  | _, _ => Float64.div x y
theorem divF_eq (x y : UInt64) : divF x y = Float64.div x y := by
  unfold divF
  split
  · rename_i h1 h2
    split
    · rfl
    · rename_i hk
      simp only [fracF_eq]; unfold Float64.div; rw [h1, h2]; simp only [hk]; simp
  · rfl
noncomputable def fmodF (x y : UInt64) : UInt64 := match Float64.decode x, Float64.decode y with
  | .fin a m e, .fin _ k f => if k == 0 then Float64.fmod x y else match Float64.align false m e false k f with
    | (p, q, g) => binF a (p.toNat % q.toNat) g
  | _, _ => Float64.fmod x y
theorem fmodF_eq (x y : UInt64) : fmodF x y = Float64.fmod x y := by
  unfold fmodF
  split
  · rename_i h1 h2
    split
    · rfl
    · rename_i hk
      simp only [binF_eq]; unfold Float64.fmod; rw [h1, h2]; simp only [hk]; simp
  · rfl
end Mine
namespace Mine
open PySem PySem.W PyProof.Rows

/-- not below zero, nor endless -/
noncomputable def posF (x : UInt64) : Bool := Nat.ble (x.toNat + 1) 9218868437227405312
noncomputable def litOk (na nb nd : Int) (hue share level due : UInt64) (space : Int) (back : UInt64 × UInt64 × UInt64) : Bool :=
  let apart := maxL [na, nb, nd] - minL [na, nb, nd]
  let bottom := minL [na, nb, nd]
  let place := (truncF (Float64.mul (Float64.mul hue (Float64.ofInt 12)) (Float64.ofInt apart)) + 1).fdiv 2
  (posF hue && posF share && posF level) && !(Float64.cmp level due != some .eq) &&
  (if apart = 0 then !(Float64.cmpInt share 0 != some .eq) && !(Float64.cmpInt hue 0 != some .eq)
    else !(space == 0) && !(Float64.isInf (qF apart space)) && !(Float64.cmp share (qF apart space) != some .eq)) &&
  !(Float64.isInf (Float64.ofInt apart)) && finF (Float64.mul (Float64.mul hue (Float64.ofInt 12)) (Float64.ofInt apart)) &&
  (finF (Float64.mul back.1 (Float64.ofInt 512)) && finF (Float64.mul back.2.1 (Float64.ofInt 512)) && finF (Float64.mul back.2.2 (Float64.ofInt 512))) &&
  ([0, 1, 2].map (fun i => wheelOf bottom apart (wayOf place apart (if apart = 0 then 1 else 6 * apart) i)) == [na, nb, nd]) &&
  ([toldOf back.1, toldOf back.2.1, toldOf back.2.2] == [na, nb, nd])
/-- the light of the numbers na nb nd, told by hue, share, level; none: it fails -/
noncomputable def light1 (na nb nd : Int) : Bool :=
  let r := hlsF (qF na 256) (qF nb 256) (qF nd 256)
  hlsOk (qF na 256) (qF nb 256) (qF nd 256) && litOk na nb nd r.1 r.2.2 r.2.1 (qF (maxL [na, nb, nd] + minL [na, nb, nd]) 512) (min2 (maxL [na, nb, nd] + minL [na, nb, nd]) (512 - maxL [na, nb, nd] - minL [na, nb, nd])) (unhlsF r.1 r.2.1 r.2.2)
noncomputable def light0 (na nb nd : Int) : Bool :=
  let r := hsvF (qF na 256) (qF nb 256) (qF nd 256)
  hsvOk (qF na 256) (qF nb 256) (qF nd 256) && unhsvOk r.1 r.2.1 && litOk na nb nd r.1 r.2.1 r.2.2 (qF (maxL [na, nb, nd]) 256) (maxL [na, nb, nd]) (unhsvF r.1 r.2.1 r.2.2)

-- the same, each step reckoned first
noncomputable def qFF (a b : Int) : UInt64 := fracF (decide (a < 0) != decide (b < 0)) a.natAbs b.natAbs
theorem qFF_eq (a b : Int) : qFF a b = qF a b := by unfold qFF qF; rw [fracF_eq]

noncomputable def modS {α : Type} (x : UInt64) (k : UInt64 → α) : α :=
  sx (fmodF x 0x3ff0000000000000) fun m => if Float64.isZero m = true then k 0 else if Float64.lt m 0 = true then sx (addF m 0x3ff0000000000000) k else k m
theorem modS_eq {α : Type} (x : UInt64) (k : UInt64 → α) : modS x k = k (Float64.divmod x 0x3ff0000000000000).snd := by
  unfold modS Float64.divmod
  simp only [mulF_eq, addF_eq, subF_eq, divF_eq, fmodF_eq, intF_eq, qFF_eq, sx_eq]
  have e1 : Float64.copysign (Float64.zero false) 0x3ff0000000000000 = 0 := by decide +kernel
  have e2 : Float64.lt 0x3ff0000000000000 (Float64.zero false) = false := by decide +kernel
  have e3 : Float64.zero false = 0 := by decide +kernel
  rw [e1, e2, e3]
  split
  · rfl
  · cases Float64.lt (Float64.fmod x 0x3ff0000000000000) 0 <;> rfl
noncomputable def vS {α : Type} (m1 m2 hue : UInt64) (k : UInt64 → α) : α :=
  modS hue fun hue =>
  if (Float64.cmp hue 0x3fc5555555555555 == some .lt) = true then sx (subF m2 m1) fun a => sx (mulF a hue) fun a => sx (mulF a 0x4018000000000000) fun a => sx (addF m1 a) k
  else if (Float64.cmp hue 0x3fe0000000000000 == some .lt) = true then k m2
  else if (Float64.cmp hue 0x3fe5555555555555 == some .lt) = true then sx (subF m2 m1) fun a => sx (subF 0x3fe5555555555555 hue) fun b => sx (mulF a b) fun a => sx (mulF a 0x4018000000000000) fun a => sx (addF m1 a) k
  else k m1
theorem ite_f {α β : Type} (c : Prop) [Decidable c] (k : α → β) (a b : α) : (if c then k a else k b) = k (if c then a else b) := by split <;> rfl
theorem vS_eq {α : Type} (m1 m2 hue : UInt64) (k : UInt64 → α) : vS m1 m2 hue k = k (vF m1 m2 hue) := by
  unfold vS vF; simp only [mulF_eq, addF_eq, subF_eq, divF_eq, fmodF_eq, intF_eq, qFF_eq, sx_eq, modS_eq, ite_f]
noncomputable def litS (na nb nd : Int) (hue share level due : UInt64) (space : Int) (b1 b2 b3 : UInt64) : Bool :=
  si (maxL [na, nb, nd]) fun top => si (minL [na, nb, nd]) fun bottom => si (top - bottom) fun apart =>
  sx (intF apart) fun fa => sx (mulF hue 0x4028000000000000) fun h12 => sx (mulF h12 fa) fun hp => si ((truncF hp + 1).fdiv 2) fun place =>
  sx (mulF b1 0x4080000000000000) fun t1 => sx (mulF b2 0x4080000000000000) fun t2 => sx (mulF b3 0x4080000000000000) fun t3 => sx (qFF apart space) fun sh =>
  (posF hue && posF share && posF level) && !(Float64.cmp level due != some .eq) &&
  (if apart = 0 then !(Float64.cmpInt share 0 != some .eq) && !(Float64.cmpInt hue 0 != some .eq)
    else !(space == 0) && !(Float64.isInf sh) && !(Float64.cmp share sh != some .eq)) &&
  !(Float64.isInf fa) && finF hp && (finF t1 && finF t2 && finF t3) &&
  ([0, 1, 2].map (fun i => wheelOf bottom apart (wayOf place apart (if apart = 0 then 1 else 6 * apart) i)) == [na, nb, nd]) &&
  ([(truncF t1 + 1).fdiv 2, (truncF t2 + 1).fdiv 2, (truncF t3 + 1).fdiv 2] == [na, nb, nd])
theorem f12 : Float64.ofInt 12 = 0x4028000000000000 := by decide +kernel
theorem f512 : Float64.ofInt 512 = 0x4080000000000000 := by decide +kernel
theorem litS_eq (na nb nd : Int) (hue share level due : UInt64) (space : Int) (b1 b2 b3 : UInt64) : litS na nb nd hue share level due space b1 b2 b3 = litOk na nb nd hue share level due space (b1, b2, b3) := by
  unfold litS litOk toldOf
  simp only [mulF_eq, addF_eq, subF_eq, divF_eq, fmodF_eq, intF_eq, qFF_eq, sx_eq, si_eq, f12, f512]
noncomputable def hueS {α : Type} (r g b maxc rangec : UInt64) (k : UInt64 → α) : α :=
  sx (subF maxc r) fun a => sx (divF a rangec) fun rc => sx (subF maxc g) fun a => sx (divF a rangec) fun gc => sx (subF maxc b) fun a => sx (divF a rangec) fun bc =>
  sx (if (Float64.cmp r maxc == some .eq) = true then subF bc gc else if (Float64.cmp g maxc == some .eq) = true then subF (addF 0x4000000000000000 rc) bc else subF (addF 0x4010000000000000 gc) rc) fun h =>
  sx (divF h 0x4018000000000000) fun h => modS h k
noncomputable def light1G (addF subF divF mulF : UInt64 → UInt64 → UInt64) (qFF : Int → Int → UInt64) (intF : Int → UInt64) (sx : UInt64 → (UInt64 → Bool) → Bool) (si : Int → (Int → Bool) → Bool) (litS : Int → Int → Int → UInt64 → UInt64 → UInt64 → UInt64 → Int → UInt64 → UInt64 → UInt64 → Bool) (hueS : UInt64 → UInt64 → UInt64 → UInt64 → UInt64 → (UInt64 → Bool) → Bool) (vS : UInt64 → UInt64 → UInt64 → (UInt64 → Bool) → Bool) (na nb nd : Int) : Bool :=
  si na fun na => si nb fun nb => si nd fun nd =>
  sx (qFF na 256) fun r => sx (qFF nb 256) fun g => sx (qFF nd 256) fun b => sx (fMax r g b) fun maxc => sx (fMin r g b) fun minc =>
  sx (addF maxc minc) fun sumc => sx (subF maxc minc) fun rangec => sx (divF sumc 0x4000000000000000) fun l => si (maxL [na, nb, nd]) fun top => si (minL [na, nb, nd]) fun bottom =>
  sx (qFF (top + bottom) 512) fun due => si (min2 (top + bottom) (512 - top - bottom)) fun space =>
  if (Float64.cmp minc maxc == some .eq) = true then (if (Float64.cmp 0 0 == some .eq) = true then litS na nb nd 0 0 l due space l l l else false) else
  let low := (Float64.cmp l 0x3fe0000000000000 == some .lt || Float64.cmp l 0x3fe0000000000000 == some .eq)
  sx (subF (subF 0x4000000000000000 maxc) minc) fun two =>
  sx (if low = true then divF rangec sumc else divF rangec two) fun s =>
  hueS r g b maxc rangec fun h =>
  (Float64.isZero rangec == false && (if low = true then Float64.isZero sumc == false else Float64.isZero two == false)) && !(Float64.cmp s 0 == some .eq) &&
  sx (if low = true then mulF l (addF 0x3ff0000000000000 s) else subF (addF l s) (mulF l s)) fun m2 =>
  sx (mulF 0x4000000000000000 l) fun l2 => sx (subF l2 m2) fun m1 =>
  sx (addF h 0x3fd5555555555555) fun hr => sx (subF h 0x3fd5555555555555) fun hb =>
  vS m1 m2 hr fun b1 => vS m1 m2 h fun b2 => vS m1 m2 hb fun b3 => litS na nb nd h s l due space b1 b2 b3
noncomputable def light0G (addF subF divF mulF : UInt64 → UInt64 → UInt64) (qFF : Int → Int → UInt64) (intF : Int → UInt64) (sx : UInt64 → (UInt64 → Bool) → Bool) (si : Int → (Int → Bool) → Bool) (litS : Int → Int → Int → UInt64 → UInt64 → UInt64 → UInt64 → Int → UInt64 → UInt64 → UInt64 → Bool) (hueS : UInt64 → UInt64 → UInt64 → UInt64 → UInt64 → (UInt64 → Bool) → Bool) (vS : UInt64 → UInt64 → UInt64 → (UInt64 → Bool) → Bool) (na nb nd : Int) : Bool :=
  si na fun na => si nb fun nb => si nd fun nd =>
  sx (qFF na 256) fun r => sx (qFF nb 256) fun g => sx (qFF nd 256) fun b => sx (fMax r g b) fun maxc => sx (fMin r g b) fun minc =>
  sx (subF maxc minc) fun rangec => si (maxL [na, nb, nd]) fun top => sx (qFF top 256) fun due =>
  if (Float64.cmp minc maxc == some .eq) = true then (if (Float64.cmp 0 0 == some .eq) = true then litS na nb nd 0 0 maxc due top maxc maxc maxc else false) else
  sx (divF rangec maxc) fun s => hueS r g b maxc rangec fun h =>
  (Float64.isZero rangec == false && Float64.isZero maxc == false) && !(Float64.cmp s 0 == some .eq) &&
  sx (mulF h 0x4018000000000000) fun h6 => si (truncF h6) fun i => sx (intF i) fun fi => sx (subF h6 fi) fun f =>
  (finF h6 && !(Float64.isInf fi)) &&
  sx (subF 0x3ff0000000000000 s) fun a => sx (mulF maxc a) fun p => sx (mulF s f) fun a => sx (subF 0x3ff0000000000000 a) fun a => sx (mulF maxc a) fun q =>
  sx (subF 0x3ff0000000000000 f) fun a => sx (mulF s a) fun a => sx (subF 0x3ff0000000000000 a) fun a => sx (mulF maxc a) fun t =>
  si (i.fmod 6) fun i =>
  if (i == 0) = true then litS na nb nd h s maxc due top maxc t p else if (i == 1) = true then litS na nb nd h s maxc due top q maxc p else if (i == 2) = true then litS na nb nd h s maxc due top p maxc t else
  if (i == 3) = true then litS na nb nd h s maxc due top p q maxc else if (i == 4) = true then litS na nb nd h s maxc due top t p maxc else litS na nb nd h s maxc due top maxc p q

noncomputable def light1S (na nb nd : Int) : Bool := light1G addF subF divF mulF qFF intF (@sx Bool) (@si Bool) litS (@hueS Bool) (@vS Bool) na nb nd
noncomputable def light0S (na nb nd : Int) : Bool := light0G addF subF divF mulF qFF intF (@sx Bool) (@si Bool) litS (@hueS Bool) (@vS Bool) na nb nd
theorem hueS_eq {α : Type} (r g b maxc rangec : UInt64) (k : UInt64 → α) : hueS r g b maxc rangec k =
    k (Float64.divmod (Float64.div (if (Float64.cmp r maxc == some .eq) = true then Float64.sub (Float64.div (Float64.sub maxc b) rangec) (Float64.div (Float64.sub maxc g) rangec) else if (Float64.cmp g maxc == some .eq) = true then Float64.sub (Float64.add 0x4000000000000000 (Float64.div (Float64.sub maxc r) rangec)) (Float64.div (Float64.sub maxc b) rangec) else Float64.sub (Float64.add 0x4010000000000000 (Float64.div (Float64.sub maxc g) rangec)) (Float64.div (Float64.sub maxc r) rangec)) 0x4018000000000000) 0x3ff0000000000000).snd := by
  unfold hueS
  simp only [addF_eq, subF_eq, divF_eq, sx_eq, modS_eq]
theorem addF_fun : addF = Float64.add := funext fun x => funext fun y => addF_eq x y
theorem subF_fun : subF = Float64.sub := funext fun x => funext fun y => subF_eq x y
theorem divF_fun : divF = Float64.div := funext fun x => funext fun y => divF_eq x y
theorem mulF_fun : mulF = Float64.mul := funext fun x => funext fun y => mulF_eq x y
theorem qFF_fun : qFF = qF := funext fun x => funext fun y => qFF_eq x y
theorem intF_fun : intF = Float64.ofInt := funext fun x => intF_eq x
theorem sx_fun : @sx Bool = fun x k => k x := funext fun x => funext fun k => sx_eq x k
theorem si_fun : @si Bool = fun x k => k x := funext fun x => funext fun k => si_eq x k
theorem litS_fun : litS = fun na nb nd hue share level due space b1 b2 b3 => litOk na nb nd hue share level due space (b1, b2, b3) := by
  funext na nb nd hue share level due space b1 b2 b3; exact litS_eq ..
theorem vS_fun : @vS Bool = fun m1 m2 hue k => k (vF m1 m2 hue) := by funext m1 m2 hue k; exact vS_eq ..
theorem hueS_fun : @hueS Bool = fun r g b maxc rangec k => k (Float64.divmod (Float64.div (if (Float64.cmp r maxc == some .eq) = true then Float64.sub (Float64.div (Float64.sub maxc b) rangec) (Float64.div (Float64.sub maxc g) rangec) else if (Float64.cmp g maxc == some .eq) = true then Float64.sub (Float64.add 0x4000000000000000 (Float64.div (Float64.sub maxc r) rangec)) (Float64.div (Float64.sub maxc b) rangec) else Float64.sub (Float64.add 0x4010000000000000 (Float64.div (Float64.sub maxc g) rangec)) (Float64.div (Float64.sub maxc r) rangec)) 0x4018000000000000) 0x3ff0000000000000).snd := by funext r g b maxc rangec k; exact hueS_eq ..
theorem light1_of {na nb nd : Int} (h : light1S na nb nd = true) : light1 na nb nd = true := by
  unfold light1S at h
  rw [addF_fun, subF_fun, divF_fun, mulF_fun, qFF_fun, intF_fun, sx_fun, si_fun, litS_fun, hueS_fun, vS_fun] at h
  unfold light1G at h
  unfold light1 hlsF hlsOk unhlsF
  dsimp only at h
  by_cases hc : (Float64.cmp (fMin (qF na 256) (qF nb 256) (qF nd 256)) (fMax (qF na 256) (qF nb 256) (qF nd 256)) == some .eq) = true
  · rw [if_pos hc] at h
    simp only [hc, if_true, Bool.true_or, Bool.true_and]
    split at h
    · rename_i h0
      rw [if_pos h0]; exact h
    · cases h
  · rw [if_neg hc] at h
    have hc' := eq_false_of_ne_true hc
    rw [Bool.and_eq_true, Bool.and_eq_true] at h
    obtain ⟨⟨h1, h2⟩, h3⟩ := h
    simp only [hc', Bool.false_or, Bool.false_eq_true, if_false]
    rw [Bool.and_eq_true]
    refine ⟨h1, ?_⟩
    rw [Bool.not_eq_true'] at h2
    simp only [h2, Bool.false_eq_true, if_false]
    exact h3
theorem six {α : Type} (k : α → Bool) (i : Int) (a0 a1 a2 a3 a4 a5 : α) :
    (if (i == 0) = true then k a0 else if (i == 1) = true then k a1 else if (i == 2) = true then k a2 else if (i == 3) = true then k a3 else if (i == 4) = true then k a4 else k a5) =
      k (if (i == 0) = true then a0 else if (i == 1) = true then a1 else if (i == 2) = true then a2 else if (i == 3) = true then a3 else if (i == 4) = true then a4 else a5) := by
  rw [ite_f, ite_f, ite_f, ite_f, ite_f]
theorem light0_of {na nb nd : Int} (h : light0S na nb nd = true) : light0 na nb nd = true := by
  unfold light0S at h
  rw [addF_fun, subF_fun, divF_fun, mulF_fun, qFF_fun, intF_fun, sx_fun, si_fun, litS_fun, hueS_fun, vS_fun] at h
  unfold light0G at h
  unfold light0 hsvF hsvOk unhsvF unhsvOk
  dsimp only at h
  by_cases hc : (Float64.cmp (fMin (qF na 256) (qF nb 256) (qF nd 256)) (fMax (qF na 256) (qF nb 256) (qF nd 256)) == some .eq) = true
  · rw [if_pos hc] at h
    simp only [hc, if_true, Bool.true_or, Bool.true_and]
    split at h
    · rename_i h0
      simp only [h0, if_true, Bool.true_or, Bool.true_and]; exact h
    · cases h
  · rw [if_neg hc] at h
    have hc' := eq_false_of_ne_true hc
    simp only [Bool.and_eq_true] at h
    obtain ⟨⟨h1, h2⟩, ⟨h3, h3'⟩, h4⟩ := h
    simp only [hc', Bool.false_or, Bool.false_eq_true, if_false]
    simp only [Bool.not_eq_true'] at h2 h3'
    rw [Bool.and_eq_true, Bool.and_eq_true]
    refine ⟨⟨by rw [h1.1, h1.2]; rfl, ?_⟩, ?_⟩
    · rw [h2, Bool.false_or, h3']
      exact Bool.and_eq_true_iff.mpr ⟨h3, rfl⟩
    · simp only [h2, Bool.false_eq_true, if_false]
      generalize (truncF (Float64.mul _ 0x4018000000000000)).fmod 6 = i at h4 ⊢
      exact (six (fun b => litOk na nb nd _ _ _ _ _ b) i _ _ _ _ _ _).symm.trans h4
end Mine
namespace Mine
open PySem PySem.W PyProof.Rows

/-- both lights of a b d by every height -/
noncomputable def litAll (t : Int × Int × Int) : Bool := (List.range 64).all fun (h : Nat) => light1S (t.1 * ((h : Int) + 1)) (t.2.1 * ((h : Int) + 1)) (t.2.2 * ((h : Int) + 1)) && light0S (t.1 * ((h : Int) + 1)) (t.2.1 * ((h : Int) + 1)) (t.2.2 * ((h : Int) + 1))
noncomputable def reachL : List (Int × Int × Int) := [(0, 0, 0), (0, 0, 1), (0, 1, 0), (0, 1, 1), (0, 1, 2), (0, 2, 1), (0, 2, 2), (1, 0, 0), (1, 0, 1), (1, 0, 2), (1, 1, 0), (1, 1, 1), (1, 1, 2), (1, 1, 3), (1, 2, 0), (1, 2, 1), (1, 2, 2), (1, 2, 3), (1, 3, 1), (1, 3, 2), (1, 3, 3), (2, 0, 1), (2, 0, 2), (2, 1, 0), (2, 1, 1), (2, 1, 2), (2, 1, 3), (2, 2, 0), (2, 2, 1), (2, 2, 2), (2, 2, 3), (2, 2, 4), (2, 3, 1), (2, 3, 2), (2, 3, 3), (2, 3, 4), (2, 4, 2), (2, 4, 3), (3, 1, 1), (3, 1, 2), (3, 1, 3), (3, 2, 1), (3, 2, 2), (3, 2, 3), (3, 2, 4), (3, 3, 1), (3, 3, 2), (3, 3, 3), (3, 3, 4), (3, 4, 2), (3, 4, 3), (3, 4, 4), (4, 2, 2), (4, 2, 3), (4, 3, 2), (4, 3, 3), (4, 3, 4), (4, 4, 3), (4, 4, 4)]
theorem lit_000 : litAll (0, 0, 0) = true := by decide +kernel
theorem lit_001 : litAll (0, 0, 1) = true := by decide +kernel
theorem lit_010 : litAll (0, 1, 0) = true := by decide +kernel
theorem lit_011 : litAll (0, 1, 1) = true := by decide +kernel
theorem lit_012 : litAll (0, 1, 2) = true := by decide +kernel
theorem lit_021 : litAll (0, 2, 1) = true := by decide +kernel
theorem lit_022 : litAll (0, 2, 2) = true := by decide +kernel
theorem lit_100 : litAll (1, 0, 0) = true := by decide +kernel
theorem lit_101 : litAll (1, 0, 1) = true := by decide +kernel
theorem lit_102 : litAll (1, 0, 2) = true := by decide +kernel
theorem lit_110 : litAll (1, 1, 0) = true := by decide +kernel
theorem lit_111 : litAll (1, 1, 1) = true := by decide +kernel
theorem lit_112 : litAll (1, 1, 2) = true := by decide +kernel
theorem lit_113 : litAll (1, 1, 3) = true := by decide +kernel
theorem lit_120 : litAll (1, 2, 0) = true := by decide +kernel
theorem lit_121 : litAll (1, 2, 1) = true := by decide +kernel
theorem lit_122 : litAll (1, 2, 2) = true := by decide +kernel
theorem lit_123 : litAll (1, 2, 3) = true := by decide +kernel
theorem lit_131 : litAll (1, 3, 1) = true := by decide +kernel
theorem lit_132 : litAll (1, 3, 2) = true := by decide +kernel
theorem lit_133 : litAll (1, 3, 3) = true := by decide +kernel
theorem lit_201 : litAll (2, 0, 1) = true := by decide +kernel
theorem lit_202 : litAll (2, 0, 2) = true := by decide +kernel
theorem lit_210 : litAll (2, 1, 0) = true := by decide +kernel
theorem lit_211 : litAll (2, 1, 1) = true := by decide +kernel
theorem lit_212 : litAll (2, 1, 2) = true := by decide +kernel
theorem lit_213 : litAll (2, 1, 3) = true := by decide +kernel
theorem lit_220 : litAll (2, 2, 0) = true := by decide +kernel
theorem lit_221 : litAll (2, 2, 1) = true := by decide +kernel
theorem lit_222 : litAll (2, 2, 2) = true := by decide +kernel
theorem lit_223 : litAll (2, 2, 3) = true := by decide +kernel
theorem lit_224 : litAll (2, 2, 4) = true := by decide +kernel
theorem lit_231 : litAll (2, 3, 1) = true := by decide +kernel
theorem lit_232 : litAll (2, 3, 2) = true := by decide +kernel
theorem lit_233 : litAll (2, 3, 3) = true := by decide +kernel
theorem lit_234 : litAll (2, 3, 4) = true := by decide +kernel
theorem lit_242 : litAll (2, 4, 2) = true := by decide +kernel
theorem lit_243 : litAll (2, 4, 3) = true := by decide +kernel
theorem lit_311 : litAll (3, 1, 1) = true := by decide +kernel
theorem lit_312 : litAll (3, 1, 2) = true := by decide +kernel
theorem lit_313 : litAll (3, 1, 3) = true := by decide +kernel
theorem lit_321 : litAll (3, 2, 1) = true := by decide +kernel
theorem lit_322 : litAll (3, 2, 2) = true := by decide +kernel
theorem lit_323 : litAll (3, 2, 3) = true := by decide +kernel
theorem lit_324 : litAll (3, 2, 4) = true := by decide +kernel
theorem lit_331 : litAll (3, 3, 1) = true := by decide +kernel
theorem lit_332 : litAll (3, 3, 2) = true := by decide +kernel
theorem lit_333 : litAll (3, 3, 3) = true := by decide +kernel
theorem lit_334 : litAll (3, 3, 4) = true := by decide +kernel
theorem lit_342 : litAll (3, 4, 2) = true := by decide +kernel
theorem lit_343 : litAll (3, 4, 3) = true := by decide +kernel
theorem lit_344 : litAll (3, 4, 4) = true := by decide +kernel
theorem lit_422 : litAll (4, 2, 2) = true := by decide +kernel
theorem lit_423 : litAll (4, 2, 3) = true := by decide +kernel
theorem lit_432 : litAll (4, 3, 2) = true := by decide +kernel
theorem lit_433 : litAll (4, 3, 3) = true := by decide +kernel
theorem lit_434 : litAll (4, 3, 4) = true := by decide +kernel
theorem lit_443 : litAll (4, 4, 3) = true := by decide +kernel
theorem lit_444 : litAll (4, 4, 4) = true := by decide +kernel
theorem lit_all : ∀ t ∈ reachL, litAll t = true := by
  intro t ht
  have h : reachL.all litAll = true := by
    simp only [reachL, List.all_cons, List.all_nil, lit_000, lit_001, lit_010, lit_011, lit_012, lit_021, lit_022, lit_100, lit_101, lit_102, lit_110, lit_111, lit_112, lit_113, lit_120, lit_121, lit_122, lit_123, lit_131, lit_132, lit_133, lit_201, lit_202, lit_210, lit_211, lit_212, lit_213, lit_220, lit_221, lit_222, lit_223, lit_224, lit_231, lit_232, lit_233, lit_234, lit_242, lit_243, lit_311, lit_312, lit_313, lit_321, lit_322, lit_323, lit_324, lit_331, lit_332, lit_333, lit_334, lit_342, lit_343, lit_344, lit_422, lit_423, lit_432, lit_433, lit_434, lit_443, lit_444, Bool.and_self, Bool.and_true]
  exact List.all_eq_true.mp h t ht
end Mine
namespace Mine
open PySem PySem.W PyProof.Rows

/-- what _iter_escaped_chars yields from the place i on -/
noncomputable def escGo : List Nat → Nat → Bool → Int → List (Int × Str)
  | [], _, esc, pos => if esc = true then [(pos, ⟨#[92]⟩)] else []
  | ch :: r, i, true, _ => ((i : Int), ⟨#[92]⟩ ++ ⟨#[ch]⟩) :: escGo r (i + 1) false i
  | ch :: r, i, false, _ => if ch = 92 then escGo r (i + 1) true i else ((i : Int), ⟨#[ch]⟩) :: escGo r (i + 1) false i
noncomputable def outPV (p : Int × Str) : PV := .tup [.int p.1, .str p.2]
noncomputable def escOuts (x : Str) : List PV := (escGo x.cps.toList 0 false 0).map outPV

theorem draws_str {prog : Program} {w : World} {A : Around} (hh : A.handled = none) (it : Addr) (x : Str) (t : Tok) :
    Draws prog w A it [it] x.cps.size (fun i v => ∃ c u, x.cps[i]? = some c ∧ v = .str ⟨#[c]⟩ u) (fun i h => h.IsStrIter it (strIterType x) x t i) := by
  unfold strIterType
  split
  · exact Draws.strAscii hh it x t
  · exact Draws.strWide hh it x t

theorem iterType_ne {x : Str} : strIterType x ≠ "builtin_function_or_method" ∧ strIterType x ≠ "generator" := by
  unfold strIterType
  split <;> decide

section
variable {c : Cx} {k : Nat} {F : Frm} {X : List Addr} {h₀ : Heap} {g : Nat} {x : Str} {t : Tok} {e it : Addr}

/-- the objects of the enumerate -/
structure EnumSt (h₀ : Heap) (x : Str) (t : Tok) (e it : Addr) (i : Nat) (h : Heap) : Prop where
  en : ∃ old, IsEnum h e it i old
  iter : h.IsStrIter it (strIterType x) x t i
structure EnumFix (h₀ : Heap) (e it : Addr) : Prop where
  ne : e ≠ it
  e0 : h₀.get? e = none
  it0 : h₀.get? it = none

theorem EnumSt.obj {i : Nat} {h : Heap} (E : EnumSt h₀ x t e it i h) (Fx : EnumFix h₀ e it) : ∀ b ∈ [e, it], h₀.get? b = none ∧ ∃ o, h.get? b = some o ∧ ¬ GoodObj o ∧ ¬ GenObj o ∧ ∃ vs, o.data = .fields vs := by
  intro b hb
  rcases List.mem_cons.mp hb with rfl | hb
  · obtain ⟨old, he⟩ := E.en
    exact ⟨Fx.e0, _, he, not_good_fields rfl rfl (by decide), (fun ⟨h, _⟩ => by injection h with h; exact absurd h (by decide)), _, rfl⟩
  · rw [List.mem_singleton] at hb; subst hb
    obtain ⟨o, ho, hc, hd⟩ := E.iter
    exact ⟨Fx.it0, o, ho, not_good_fields hd hc iterType_ne.1, (fun ⟨h, _⟩ => by rw [hc] at h; injection h with h; exact iterType_ne.2 h), _, hd⟩

theorem enum_rel {ρ : List (Option PV)} {i : Nat} {s : Shared} {h' : Heap} {tk : Nat} (G : GFrm F h₀) (r : Rel c (F.at ρ none) s) (E : EnumSt h₀ x t e it i s.heap) (Fx : EnumFix h₀ e it) (le : s.toks ≤ tk)
    (hk : ∀ b o, b ∉ [e, it] → s.heap.get? b = some o → h'.get? b = some o) :
    Rel c (F.at ρ none) { s with heap := h', toks := tk } ∧ StepV h₀ g s { s with heap := h', toks := tk } := by
  have ob := E.obj Fx
  constructor
  · refine r.stepW (wr := [e, it]) (gw := []) ⟨rfl, fun _ _ _ e => e, id, le, hk⟩ (fun b hb => ⟨?_, (fun y q => by rw [G.cells] at q; cases q), fun a l q => nomatch q⟩) (fun b hb => ?_) (fun b hb => ?_)
    · obtain ⟨_, o, ho, _, _, vs, hd⟩ := ob b hb
      rintro rfl
      obtain ⟨m, ⟨oL, es, ep, hL, hd', _⟩, _⟩ := r.vars
      rw [show (F.at ρ none).env = F.env from rfl, ho] at hL; cases hL
      rw [hd] at hd'; cases hd'
    · obtain ⟨_, o, ho, ng, _⟩ := ob b hb
      exact ⟨o, ho, ng⟩
    · exact keep_none G.hE (ob b hb).1
  · refine ⟨rfl, fun _ _ _ e => e, id, le, fun b o np q => ?_, Nat.le_refl _⟩
    · by_cases hb : b ∈ [e, it]
      · obtain ⟨h1, o', ho, ng, ngen, _⟩ := ob b hb
        rw [ho] at q; cases q
        exact absurd ⟨⟨h1, ng⟩, ngen⟩ np
      · exact hk b o hb q
theorem EnumSt.dom {i : Nat} {h : Heap} (E : EnumSt h₀ x t e it i h) : ∀ b ∈ [e, it], ∃ o, h.get? b = some o := by
  intro b hb
  rcases List.mem_cons.mp hb with rfl | hb
  · obtain ⟨old, he⟩ := E.en; exact ⟨_, he⟩
  · rw [List.mem_singleton] at hb; subst hb
    obtain ⟨o, ho, _⟩ := E.iter; exact ⟨o, ho⟩
theorem EnumSt.use {i : Nat} {h h' : Heap} (E : EnumSt h₀ x t e it i h) (Fx : EnumFix h₀ e it) (u : UseH h₀ h h') : EnumSt h₀ x t e it i h' := by
  have ob := E.obj Fx
  have k : ∀ b ∈ [e, it], ∀ o, h.get? b = some o → h'.get? b = some o := fun b hb o ho => by
    obtain ⟨h1, o', ho', ng, _⟩ := ob b hb
    rw [ho'] at ho; cases ho
    exact u b _ ⟨h1, ng⟩ ho'
  obtain ⟨⟨old, he⟩, o, ho, r⟩ := E
  exact ⟨⟨old, k e (by simp) _ he⟩, o, k it (by simp) _ ho, r⟩
theorem EnumSt.keep {i : Nat} {h h' : Heap} (E : EnumSt h₀ x t e it i h) (k : Keep h h') : EnumSt h₀ x t e it i h' := by
  obtain ⟨⟨old, he⟩, o, ho, r⟩ := E
  exact ⟨⟨old, k _ _ he⟩, o, k _ _ ho, r⟩
theorem EnumSt.step {ρ : List (Option PV)} {i : Nat} {s s' : Shared} (E : EnumSt h₀ x t e it i s.heap) (Fx : EnumFix h₀ e it) (G : GFrm F h₀) (r : Rel c (F.at ρ none) s) (st : Step F.env none none s s') : EnumSt h₀ x t e it i s'.heap := by
  have ob := E.obj Fx
  have k : ∀ b ∈ [e, it], ∀ o, s.heap.get? b = some o → s'.heap.get? b = some o := fun b hb o ho => by
    refine st.keep b o ?_ (fun y q => by rw [G.cells] at q; cases q) (fun a l q => nomatch q) ho
    obtain ⟨_, o', ho', _, _, vs, hd⟩ := ob b hb
    rintro rfl
    obtain ⟨m, ⟨oL, es, ep, hL, hd', _⟩, _⟩ := r.vars
    rw [show (F.at ρ none).env = F.env from rfl, ho'] at hL; cases hL
    rw [hd] at hd'; cases hd'
  obtain ⟨⟨old, he⟩, o, ho, r⟩ := E
  exact ⟨⟨old, k e (by simp) _ he⟩, o, k it (by simp) _ ho, r⟩
end
end Mine
namespace Mine
open PySem PySem.W PyProof.Rows

section
variable {c : Cx} {k : Nat} (Gl : Glob c) {f L : Addr} {hE : Heap} {fx : FX} {dflt : Value}
  {A : Around} {X : List Addr} {h₀ : Heap} {g : Nat} {x : Str} {t : Tok} {e it : Addr} {outs : List PV}

noncomputable abbrev gF (f L : Addr) (hE : Heap) (fx : FX) (dflt : Value) : Frm := fnFrm (mkFd 31 fx dflt) f L hE ["addr", "pos", "escape", "ch"] []

noncomputable def genForTgt : Stmt → Expr
  | .For t _ _ _ _ => t
  | _ => default
noncomputable def genForIter : Stmt → Expr
  | .For _ i _ _ _ => i
  | _ => default
noncomputable def genForBody : Stmt → List Stmt
  | .For _ _ b _ _ => b
  | _ => []
noncomputable def genFor : Stmt := ((dBody (stAt 31))[2]?).getD default

theorem flat4 {a b d : PV} {z : Option PV} (ha : Flat a) (hb : Flat b) (hd : Flat d) (hz : ∀ p, z = some p → Flat p) : ∀ (i : Nat) p, ([some a, some b, some d, z] : List (Option PV))[i]? = some (some p) → Flat p
  | 0, _, h => by cases h; exact ha
  | 1, _, h => by cases h; exact hb
  | 2, _, h => by cases h; exact hd
  | 3, _, h => by injection h with h; exact hz _ h
  | n + 4, _, h => by cases h

theorem gen_loop {FR : Frame} {cl : Code} (G : GFrm (gF f L hE fx dflt) h₀) (Fx : EnumFix h₀ e it) (hh : A.handled = none) (hX : ∀ a ∈ X, ∃ o, h₀.get? a = some o)
    (hcl : cl = .forLoop (genForTgt genFor) (.ref e) (genForBody genFor) [] (gF f L hE fx dflt).env)
    (Rm : Room k (A.over cl [FR])) (hfs : splitAtGen [FR] = none) (hfg : [FR].any Frame.guarded = false)
    (hend : ∀ (esc : Bool) (pos : Int) (z : Option PV) (s₀ s : Shared) (pre : List PV), (∀ p, z = some p → Flat p) → Rel c ((gF f L hE fx dflt).at [some (.str x), some (.int pos), some (.bool esc), z] none) s →
      Dom h₀ s.heap → (Stand c hE h₀ s₀ → StepV h₀ g s₀ s) → outs = pre ++ (escGo [] 0 esc pos).map outPV →
      Seg c.M A (GR c X hE h₀ g) (GY c X hE h₀ g outs) (escGo [] 0 esc pos).length s₀ (.block [] (gF f L hE fx dflt).env) (leafOf (.ok .next)) [FR] s) :
    ∀ (rest : List Nat) (i : Nat) (esc : Bool) (pos : Int) (z : Option PV) (s₀ s : Shared) (pre : List PV), x.cps.toList.drop i = rest → i ≤ x.cps.size → (∀ p, z = some p → Flat p) →
      Rel c ((gF f L hE fx dflt).at [some (.str x), some (.int pos), some (.bool esc), z] none) s → EnumSt h₀ x t e it i s.heap →
      Dom h₀ s.heap → (Stand c hE h₀ s₀ → StepV h₀ g s₀ s) → outs = pre ++ (escGo rest i esc pos).map outPV →
      Seg c.M A (GR c X hE h₀ g) (GY c X hE h₀ g outs) (escGo rest i esc pos).length s₀ cl (c.M.den cl) [FR] s := by
  subst hcl
  have D := draws_str (prog := c.prog) (w := c.w) (A := (A.over (.forLoop (genForTgt genFor) (.ref e) (genForBody genFor) [] (gF f L hE fx dflt).env) [FR]).in1) Rm.handled it x t
  have W := WalksT.enumerateD D e Fx.ne (by simp [Fx.ne]) (by simp)
  intro rest
  induction rest with
  | nil =>
    intro i esc pos z s₀ s pre hd hle hz rel E hx sv ho
    have hi : i = x.cps.size := by
      have := List.drop_eq_nil_iff.mp hd
      simp at this
      lia
    refine seg_forLoop ?_
    refine wpAny_onRaise (mono0 (up_any (W.done s _ _ (hi ▸ ⟨E.en, E.iter⟩) fun h' tk hk le => ?_)))
    obtain ⟨rel', sv'⟩ := enum_rel (g := g) G rel E Fx le hk
    refine seg_again rfl ?_
    show Seg _ _ _ _ _ _ _ (leafOf (.ok .next)) _ _
    exact hend esc pos z s₀ _ pre hz rel' (hx.v sv') (fun sd => (sv sd).trans sv') ho
  | cons ch r ih =>
    intro i esc pos z s₀ s pre hd hle hz rel E hx sv ho
    have hlt : i < x.cps.size := by
      have : (x.cps.toList.drop i).length ≠ 0 := by rw [hd]; simp
      simp at this; lia
    have hch : x.cps[i]? = some ch := by
      have : (x.cps.toList.drop i)[0]? = some ch := by rw [hd]; rfl
      simpa using this
    have hd' : x.cps.toList.drop (i + 1) = r := by
      have : (x.cps.toList.drop i).drop 1 = r := by rw [hd]; rfl
      rwa [List.drop_drop] at this
    refine seg_forLoop ?_
    refine wpAny_onRaise (mono0 (up_any (W.item i s _ _ hlt ⟨E.en, E.iter⟩ fun T vals h' tk hP hT hTup mid hk le => ?_)))
    obtain ⟨tt, v, ⟨c', u, hc', rfl⟩, rfl⟩ := hP
    rw [hch] at hc'; cases hc'
    obtain ⟨rel₁, sv₁⟩ := enum_rel (g := g) G rel E Fx le hk
    have mid0 := mid
    obtain ⟨⟨z', hz'⟩, hit, hTe, hTi⟩ := mid
    refine W.go _ _ _ i T _ _ _ mid0 fun h'' st'' hk'' => ?_
    have E₂ : EnumSt h₀ x t e it (i + 1) h'' := ⟨st''.1, st''.2⟩
    have hk2 : ∀ b o, b ∉ [e, it] → s.heap.get? b = some o → h''.get? b = some o := fun b o hb q => hk'' b o hb (hk b o hb q)
    obtain ⟨rel₂, sv₂⟩ := enum_rel (g := g) (h' := h'') G rel E Fx le hk2
    have hT2 : h''.IsTuple T #[.int i tt, .str ⟨#[ch]⟩ u] := by
      obtain ⟨o, ho, q⟩ := hTup
      exact ⟨o, hk'' T o (by simp [hTe, hTi]) ho, q⟩
    have rv : Rd c.lo (Xw (gF f L hE fx dflt).X0 none) { s with heap := h'', toks := tk } (.tup [.int i, .str ⟨#[ch]⟩]) (.ref T) := by
      simp only [Rd]
      exact ⟨T, [.int i tt, .str ⟨#[ch]⟩ u], rfl, fun m => (nomatch m), hT2, .cons (by simp only [Rd]; exact ⟨_, rfl⟩) (.cons (by simp only [Rd]; exact ⟨_, rfl⟩) .nil)⟩
    have asg : Asg c k (gF f L hE fx dflt) (genForTgt genFor) (.tup [.int i, .str ⟨#[ch]⟩]) [some (.str x), some (.int pos), some (.bool esc), z] [some (.str x), some (.int i), some (.bool esc), some (.str ⟨#[ch]⟩)] :=
      asg_tup Pack.tup (.cons (asg_name 1 ⟨rfl, .inl (by kernel_rfl)⟩ (.tail .head)) rfl (.cons (asg_name 3 ⟨rfl, .inl (by kernel_rfl)⟩ (.tail (.tail (.tail .head)))) rfl .nil))
    refine mono0 (asg G.st _ _ none _ Rm rel₂ rv _ fun s₃ st₃ rel₃ => ?_)
    have sv₃ := G.stepV (g := g) rel₂ st₃
    have hx₃ := (hx.v sv₂).v sv₃
    have svs : Stand c hE h₀ s₀ → StepV h₀ g s₀ s₃ := fun sd => ((sv sd).trans sv₂).trans sv₃
    have E₃ := E₂.step Fx G rel₂ st₃
    refine seg_execs_cons (seg_if Rm rel₃ (t_plain (e_var 2 rfl rfl rfl) tr_bool (fun _ => rfl)) fun s₄ e₄ rel₄ => ?_)
    have hx₄ : Dom h₀ s₄.heap := hx₃.v (g := g) e₄.v
    have sv₄ : Stand c hE h₀ s₀ → StepV h₀ g s₀ s₄ := fun sd => (svs sd).trans e₄.v
    have E₄ := E₃.keep e₄.keep
    have flat : ∀ b, ∀ (j : Nat) p, ([some (.str x), some (.int i), some (.bool b), some (.str ⟨#[ch]⟩)] : List (Option PV))[j]? = some (some p) → Flat p := fun b => flat4 .str .int .bool fun p h => by injection h with h; subst h; exact .str
    cases esc with
    | true =>
      rw [if_pos rfl]
      refine seg_execs_cons ?_
      refine seg_yield_pair (pre := pre) (r := (escGo r (i + 1) false i).map outPV) G Rm rel₄ hX hx₄ sv₄ (e_var 1 rfl rfl rfl) (e_bin e_str (e_var 3 rfl rfl rfl) (o_add_ss (Nat.le_of_ble_eq_true rfl))) .int .str (flat true) ?_ ?_ rfl rfl hfs rfl hfg rfl rfl fun s₅ s₆ v₅ u sd rel₆ => ?_
      · rw [ho]; rfl
      · simp
      · have E₆ := (E₄.keep v₅.keep).use Fx u
        refine seg_execs_cons (seg_run1 G.st Rm rel₆ (run1_assign 2 e_bool ⟨rfl, .inl (by kernel_rfl)⟩ (.tail (.tail .head)) rfl) fun s₇ st₇ rel₇ => ?_)
        refine seg_execs_nil (seg_execs_nil (seg_again rfl ?_))
        refine ih (i + 1) false i (some (.str ⟨#[ch]⟩)) s₆ s₇ (pre ++ [.tup [.int i, .str (⟨#[92]⟩ ++ ⟨#[ch]⟩)]]) hd' hlt (fun p h => by injection h with h; subst h; exact .str) rel₇ (E₆.step Fx G rel₆ st₇) (Dom.step (h₀ := h₀) sd.dom st₇) (fun _ => G.stepV rel₆ st₇) ?_
        rw [ho]; simp [escGo, outPV]
    | false =>
      rw [if_neg (by simp)]
      refine seg_execs_cons (seg_if Rm rel₄ (t_cmp (e_var 3 rfl rfl rfl) e_str o_eq_ss rfl) fun s₅ e₅ rel₅ => ?_)
      have hx₅ : Dom h₀ s₅.heap := hx₄.v (g := g) e₅.v
      have sv₅ : Stand c hE h₀ s₀ → StepV h₀ g s₀ s₅ := fun sd => (sv₄ sd).trans e₅.v
      have E₅ := E₄.keep e₅.keep
      by_cases h92 : ch = 92
      · subst h92
        rw [if_pos (by decide)]
        refine seg_execs_cons (seg_run1 G.st Rm rel₅ (run1_assign 2 e_bool ⟨rfl, .inl (by kernel_rfl)⟩ (.tail (.tail .head)) rfl) fun s₇ st₇ rel₇ => ?_)
        refine seg_execs_nil (seg_execs_nil (seg_execs_nil (seg_again rfl ?_)))
        have hl : escGo (92 :: r) i false pos = escGo r (i + 1) true i := by simp [escGo]
        rw [hl] at ho ⊢
        exact ih (i + 1) true i (some (.str ⟨#[92]⟩)) s₀ s₇ pre hd' hlt (fun p h => by injection h with h; subst h; exact .str) rel₇ (E₅.step Fx G rel₅ st₇) (Dom.step (h₀ := h₀) hx₅ st₇) (fun sd => (sv₅ sd).trans (G.stepV rel₅ st₇)) ho
      · have hne : ((⟨#[ch]⟩ : Str) == "\\") = false := by
          rw [beq_eq_false_iff_ne]
          intro h
          have := congrArg (fun z : Str => z.cps[0]?) h
          simp only [List.getElem?_toArray, List.getElem?_cons_zero] at this
          have h2 : (Str.ofString "\\").cps[0]? = some 92 := by decide
          rw [h2] at this
          injection this with this
          exact h92 this
        rw [hne, if_neg (by simp)]
        have hl : escGo (ch :: r) i false pos = ((i : Int), ⟨#[ch]⟩) :: escGo r (i + 1) false i := by simp [escGo, h92]
        rw [hl] at ho ⊢
        refine seg_execs_cons ?_
        refine seg_yield_pair (pre := pre) (r := (escGo r (i + 1) false i).map outPV) G Rm rel₅ hX hx₅ sv₅ (e_var 1 rfl rfl rfl) (e_var 3 rfl rfl rfl) .int .str (flat false) ?_ ?_ rfl rfl hfs rfl hfg rfl rfl fun s₆ s₇ v₆ u sd rel₇ => ?_
        · rw [ho]; rfl
        · simp
        · have E₇ := (E₅.keep v₆.keep).use Fx u
          refine seg_execs_nil (seg_execs_nil (seg_execs_nil (seg_again rfl ?_)))
          refine ih (i + 1) false i (some (.str ⟨#[ch]⟩)) s₇ s₇ (pre ++ [.tup [.int i, .str ⟨#[ch]⟩]]) hd' hlt (fun p h => by injection h with h; subst h; exact .str) rel₇ E₇ sd.dom (fun _ => .refl _) ?_
          rw [ho]; simp [outPV]
end
end Mine
namespace Mine
open PySem PySem.W PyProof.Rows

theorem call_then {c : Cx} {k : Nat} {F : Frm} {fe : Expr} {f : Value} {args : List Expr} {pos : Pos} {ps : List PV} (h0 : Evals c k F fe (.val f)) (hf : Callee c f) (h1 : EvalsL c k F args ps)
    (hattr : eval (.Call fe args [] pos) F.env = (do callWith pos (← eval fe F.env) [] (backTo pos (starEach args F.env)) []))
    (hne : args ≠ [] → ∃ e r, args = e :: r ∧ starEach (e :: r) F.env = (false, eval e F.env) :: starEach r F.env) (hpl : (starEach args F.env).any (·.1) = false)
    {A : Around} {s : Shared} (R : Room k A) (r : Rel c F s) {Q : Value → Shared → Prop} (hq : ∀ vs s', Ext s s' → Rds c.lo F.X s' ps vs → wpAny c.M A (call f vs) Q (fun _ _ => False) s') :
    wpAny c.M A (eval (.Call fe args [] pos) F.env) Q (fun _ _ => False) s := by
  rw [hattr]
  refine wpAny_bind (h0 A s R r _ fun v s₁ e₁ rv => ?_)
  simp only [Rd] at rv
  subst rv
  refine callWith_any hf (r.base.ext e₁).k hne hpl ?_
  exact h1 A s₁ pos R (r.ext e₁) _ fun vs s₂ e₂ rvs => ⟨e₂.keep, hq vs s₂ (e₁.trans e₂) rvs⟩

section
variable {c : Cx} {k : Nat} (Gl : Glob c) {f : Addr} {fx : FX} {dflt : Value} {x : Str}
include Gl

theorem gen_run : GenRun c k (mkFd 31 fx dflt) f (dBody (stAt 31)) ((["addr"] : List Str) ++ (["pos", "escape", "ch"] : List Str)) (start [.str x] 3) (escOuts x) := by
  intro A X hE h₀ g L s R S hL hE0 hX r sd
  have G : GFrm (gF f L hE fx dflt) h₀ := ⟨S, hL, fun _ => rfl, rfl, hE0⟩
  have R1 : Room (k + 2) A.in1 := R.in1
  have Rm : Room k (A.in1.over (.func (dBody (stAt 31)) (gF f L hE fx dflt).env) []) := by
    refine ⟨R1.handled, ?_, ?_⟩
    · have := R.depth
      show A.in1.depth + frameCount [] + 1 + k < _
      simp only [frameCount, List.map_nil, List.sum_nil]
      lia
    · have := R.units
      show A.in1.units + PySem.unitsOf [] + 3 + 20 * k + 100 < _
      simp only [PySem.unitsOf, List.map_nil, List.sum_nil]
      lia
  refine seg_func ?_
  refine seg_execs_cons (seg_run1 (F := gF f L hE fx dflt) S Rm r (run1_assign 1 e_int ⟨rfl, .inl (by kernel_rfl)⟩ (.tail .head) rfl) fun s₁ st₁ rel₁ => ?_)
  refine seg_execs_cons (seg_run1 (F := gF f L hE fx dflt) S Rm rel₁ (run1_assign 2 e_bool ⟨rfl, .inl (by kernel_rfl)⟩ (.tail (.tail .head)) rfl) fun s₂ st₂ rel₂ => ?_)
  have v₂ : StepV h₀ g s s₂ := (G.stepV r st₁).trans (G.stepV rel₁ st₂)
  refine seg_execs_cons (seg_For (fun _ => rfl) ?_)
  refine mono0 (call_then (F := (gF f L hE fx dflt).at [some (.str x), some (.int 0), some (.bool false), none] none) (e_bui (by kernel_rfl) (Gl.nob _ (by decide +kernel)) (by kernel_rfl) (by decide +kernel) rfl) (.inr (.inl ⟨"enumerate", rfl⟩)) (l_cons (e_var 0 rfl rfl rfl) l_nil rfl) rfl (fun _ => ⟨_, _, rfl, rfl⟩) rfl Rm rel₂ fun vs s₃ e₃ rvs => ?_)
  obtain ⟨t, rfl⟩ : ∃ t, vs = [.str x t] := by
    simp only [Rds] at rvs
    obtain ⟨v, r', e, a, e2⟩ := rvs
    subst e2
    simp only [Rd] at a
    obtain ⟨t, rfl⟩ := a
    exact ⟨t, e⟩
  have rel₃ := rel₂.ext e₃
  refine call_enumerate_str fun h' he hit hsz hk => ?_
  refine mono0 (wpAny_pyIter_enum he fun p => ?_)
  have ex : Ext s₃ { s₃ with heap := h' } := ⟨hk, rfl, fun _ _ e => e, id, Nat.le_refl _⟩
  have hd₃ : Dom h₀ s₃.heap := Dom.v (g := g) (Dom.step (Dom.step sd.dom st₁) st₂) e₃.v
  have n0 : ∀ b, s₃.heap.objs.size ≤ b → h₀.get? b = none := fun b hb => by
    cases q : h₀.get? b with
    | none => rfl
    | some o =>
      obtain ⟨o', ho'⟩ := hd₃ b o q
      exact absurd (Heap.lt_size ho') (Nat.not_lt.mpr hb)
  have Fx : EnumFix h₀ (s₃.heap.objs.size + 1) s₃.heap.objs.size := ⟨Nat.succ_ne_self _, n0 _ (Nat.le_succ _), n0 _ (Nat.le_refl _)⟩
  rw [show (escOuts x).length = (escGo x.cps.toList 0 false 0).length from List.length_map _]
  refine gen_loop (k := k) (f := f) (L := L) (fx := fx) (dflt := dflt) (x := x) (t := t) G Fx R1.handled hX rfl ?_ rfl rfl ?_ x.cps.toList 0 false 0 none s _ [] rfl (Nat.zero_le _) (fun _ h => nomatch h) (rel₃.ext ex) ⟨⟨_, he⟩, hit⟩ (hd₃.v (g := g) ex.v) (fun _ => (v₂.trans e₃.v).trans ex.v) rfl
  · refine ⟨R1.handled, ?_, ?_⟩
    · have := R.depth
      show A.in1.depth + frameCount [(Code.func _ _, p)] + 0 + k < _
      rw [frameCount_cons]
      show A.in1.depth + (1 + frameCount []) + 0 + k < _
      simp only [frameCount, List.map_nil, List.sum_nil]
      lia
    · have := R.units
      show A.in1.units + PySem.unitsOf [(Code.func _ _, p)] + 0 + 20 * k + 100 < _
      simp only [PySem.unitsOf, List.map_cons, List.map_nil, List.sum_cons, List.sum_nil]
      show A.in1.units + (3 + 0) + 0 + 20 * k + 100 < _
      have h2 : A.in1.units = A.units + 1 := rfl
      lia
  · intro esc pos z s₄ s₅ pre hz rel hd sv ho
    refine seg_leaf (.ok .next) ?_
    show Seg c.M A.in1 _ _ _ _ _ ((execs _ _).wrap _ _ _ _) [] s₅
    refine seg_execs_cons (seg_if (F := gF f L hE fx dflt) Rm rel (t_plain (e_var 2 rfl rfl rfl) tr_bool (fun _ => rfl)) fun s₆ e₆ rel₆ => ?_)
    have sv₆ : Stand c hE h₀ s₄ → StepV h₀ g s₄ s₆ := fun sd => (sv sd).trans e₆.v
    cases esc with
    | true =>
      rw [if_pos rfl]
      refine seg_execs_cons ?_
      refine seg_yield_pair (F := gF f L hE fx dflt) (pre := pre) (r := []) G Rm rel₆ hX (hd.v (g := g) e₆.v) sv₆ (e_var 1 rfl rfl rfl) e_str .int .str (flat4 .str .int .bool hz) ?_ rfl rfl rfl rfl rfl rfl rfl rfl fun s₇ s₈ v₇ u sd rel₈ => ?_
      · rw [ho]; rfl
      · refine seg_execs_nil (seg_execs_nil ?_)
        exact seg_end (.ok (.ret .none)) ⟨rfl, fun _ => ⟨rfl, .refl _⟩⟩
    | false =>
      rw [if_neg (by simp)]
      refine seg_execs_nil (seg_execs_nil ?_)
      exact seg_end (.ok (.ret .none)) ⟨rfl, fun sd => ⟨rfl, sv₆ sd⟩⟩
end
end Mine
namespace Mine
open PySem PySem.W PyProof.Rows

theorem ge_iter {c : Cx} {k : Nat} {F : Frm} (Gl : Glob c) {fg : Addr} (D : DefAt c 31 fg) (hn : FnName c "_iter_escaped_chars" fg) {e : Expr} {px pos : Pos} {x : Str} (he : Evals c (k + 3) F e (.str x)) (hk : F.env.kindOf "_iter_escaped_chars" = some .globalImplicit)
    (hattr : eval (.Call (.Name "_iter_escaped_chars" px) [e] [] pos) F.env = (do callWith pos (← eval (.Name "_iter_escaped_chars" px) F.env) [] (backTo pos (starEach [e] F.env)) []))
    (hne : starEach [e] F.env = (false, eval e F.env) :: starEach [] F.env) : GenE c (k + 3) F (.Call (.Name "_iter_escaped_chars" px) [e] [] pos) (escOuts x) := by
  obtain ⟨fx, FA⟩ := D
  refine genE_call (ps := ["addr"]) (ls := ["pos", "escape", "ch"]) (pa := [.str x]) FA hn hk rfl (l_cons he l_nil hne) hattr (fun _ => ⟨_, _, rfl, hne⟩) (by rw [hne]; rfl) rfl (fun vals hl => ?_) rfl (by decide +kernel) ?_ (fun n => rfl) (fun i p h => ?_) (by kernel_rfl) (by kernel_rfl) (by kernel_rfl) (gen_run Gl)
  · obtain ⟨a0, rfl⟩ := len1 hl
    unfold bindArgs; kernel_rfl
  · show ∀ y ∈ (["addr"] : List Str), (dScope (stAt 31)).names.lookup y = some .local
    decide +kernel
  · cases i with
    | zero => cases h; exact .str
    | succ i => cases h

noncomputable def stripRet : Stmt := ((dBody (stAt 32))[6]?).getD default
/-- one pair, as _strip_quoted_realnames takes it -/
noncomputable def stripStep (addr : Str) (st : Int × Option Int × List Str) (o : Int × Str) : Int × Option Int × List Str :=
  if (o.2 == ("\"" : Str)) = true then
    match st.2.1 with
    | none => (st.1, some o.1, st.2.2)
    | some q => (o.1 + 1, none, if (st.1 != q) = true then st.2.2 ++ [sliceS addr (some st.1) (some q)] else st.2.2)
  else st
noncomputable def stripEnd (addr : Str) (st : Int × Option Int × List Str) : List Str := if decide (st.1 < (addr.length : Int)) = true then st.2.2 ++ [sliceS addr (some st.1) none] else st.2.2
noncomputable def stripFold (addr : Str) : Int × Option Int × List Str := (escGo addr.cps.toList 0 false 0).foldl (stripStep addr) (0, none, [])
noncomputable def noQuote (addr : Str) : Bool := (!(!(Builtin.Str.occurrences addr ("\"" : Str) 0 addr.length 1).isEmpty))
noncomputable def stripT (addr : Str) : Str := if noQuote addr = true then addr else Builtin.Str.glued "" (stripEnd addr (stripFold addr))
noncomputable def stripOk (addr : Str) : Prop := addr.length ≤ 1000 ∧ (escGo addr.cps.toList 0 false 0).length ≤ 1000 ∧
  Builtin.Str.tooLong ((stripEnd addr (stripFold addr)).toArray.foldl (· + ·.length + ("" : Str).length) 0) = false ∧ (Builtin.Str.glued "" (stripEnd addr (stripFold addr))).length ≤ sizeLine
noncomputable def optPV : Option Int → PV
  | none => .none
  | some i => .int i

theorem txts_snoc (l : List Str) (x : Str) : txts (l ++ [x]) = txts l ++ [.str x] := by simp [txts]

/-- what holds of the loop -/
inductive StripA (addr : Str) (D : Addr) (xs : List PV) (ρ : List (Option PV)) (w : Ow) : Prop
  | it (rest : List (Int × Str)) (st : Int × Option Int × List Str) (x4 : Option PV) (x5 : Option PV) (h0 : xs = rest.map outPV) (h1 : ρ = [some (.str addr), some (.int st.1), some (optPV st.2.1), some (.val (.ref D)), x4, x5]) (h2 : w = some (D, txts st.2.2)) (h3 : rest.foldl (stripStep addr) st = stripFold addr) (h4 : st.2.2.length + rest.length ≤ 1000) : StripA addr D xs ρ w
section
variable {c : Cx} {k : Nat} (G : Glob c) {f L : Addr} {hE : Heap} {X0 : List Addr} {fx : FX} {dflt : Value}
include G

set_option maxHeartbeats 2000000 in
theorem run_strip {addr : Str} {fg : Addr} (Dg : DefAt c 31 fg) (Ng : FnName c "_iter_escaped_chars" fg) (H : stripOk addr) :
    Runs c (k + 3) (fnFrm (mkFd 32 fx dflt) f L hE ["addr", "start", "open_pos", "result", "pos", "ch"] X0) [some (.str addr), none, none, none, none, none] none (dBody (stAt 32)) (fun o => o = .ret (.str (stripT addr)) false) := by
  obtain ⟨h1000, hout, htl, hgl⟩ := H
  have big : 1001 ≤ sizeLine := Nat.le_of_ble_eq_true rfl
  have sz : addr.length ≤ sizeLine := by lia
  refine r_if (t_cmp e_str (e_var 0 rfl rfl rfl) o_notin_ss rfl) (fun hb => ?_) (fun hb => r_nil ?_)
  · exact r_ret (e_var 0 rfl rfl rfl) (by show Out.ret _ _ = Out.ret _ _; unfold stripT noQuote; rw [if_pos hb])
  show Runs _ _ _ _ _ _ _
  have hT : stripT addr = Builtin.Str.glued "" (stripEnd addr (stripFold addr)) := by unfold stripT noQuote; rw [if_neg (by rw [hb]; simp)]
  refine r_assign 1 e_int ⟨rfl, .inl (by kernel_rfl)⟩ (.tail .head) rfl ?_
  refine r_assign 2 e_none ⟨rfl, .inl (by kernel_rfl)⟩ (.tail (.tail .head)) rfl ?_
  refine r_new 3 ⟨rfl, .inl (by kernel_rfl)⟩ rfl fun D => ?_
  refine r_forG (ge_iter G Dg Ng (e_var 0 rfl rfl rfl) (by kernel_rfl) rfl rfl) (forRuns_inv (fun xs ρ w => StripA addr D xs ρ w) ?_ ?_ _ _ _
    ⟨escGo addr.cps.toList 0 false 0, (0, none, []), none, none, rfl, rfl, rfl, rfl, by simpa using hout⟩) (fun _ => rfl)
  · rintro x xs ρ w ⟨rest, st, x4, x5, e, rfl, rfl, hfold, hlen⟩
    cases rest with
    | nil => cases e
    | cons o rest =>
      obtain ⟨start, op, res⟩ := st
      obtain ⟨pos, ch⟩ := o
      injection e with e1 e2
      subst e1; subst e2
      refine ⟨_, asg_tup Pack.tup (.cons (asg_name 4 ⟨rfl, .inl (by kernel_rfl)⟩ (.tail (.tail (.tail (.tail .head))))) rfl (.cons (asg_name 5 ⟨rfl, .inl (by kernel_rfl)⟩ (.tail (.tail (.tail (.tail (.tail .head)))))) rfl .nil)), ?_⟩
      simp only [List.foldl_cons] at hfold
      simp only [List.length_cons] at hlen
      refine r_if (t_cmp (e_var 5 rfl rfl rfl) e_str o_eq_ss rfl) (fun hb => ?_) (fun hb => ?_)
      · cases op with
        | none =>
          refine r_if_t (t_cmp (e_var 2 rfl rfl rfl) e_none o_is_none_none rfl) ?_
          refine r_assign 2 (e_var 4 rfl rfl rfl) ⟨rfl, .inl (by kernel_rfl)⟩ (.tail (.tail .head)) rfl (r_nil ?_)
          show Runs _ _ _ _ _ _ _
          refine r_nil ?_
          show Runs _ _ _ _ _ _ _
          refine r_nil (.inl ⟨_, _, .inl rfl, rfl, rest, (start, some pos, res), _, _, rfl, rfl, rfl, ?_, ?_⟩)
          · rw [← hfold]; simp only [stripStep, hb, if_true]
          · show res.length + rest.length ≤ 1000
            have : res.length + (rest.length + 1) ≤ 1000 := hlen
            lia
        | some q =>
          refine r_if_f (t_cmp (e_var 2 rfl rfl rfl) e_none o_is_int_none rfl) ?_
          refine r_if (t_cmp (e_var 1 rfl rfl rfl) (e_var 2 rfl rfl rfl) o_ne_ii rfl) (fun hn => ?_) (fun hn => ?_)
          · refine r_append 3 rfl rfl rfl (e_slice_str (e_var 0 rfl rfl rfl) (p_some (e_var 1 rfl rfl rfl)) (p_some (e_var 2 rfl rfl rfl)) sz) (by simp [txts]; lia) rfl rfl rfl rfl rfl ?_
            refine r_nil ?_
            show Runs _ _ _ _ _ _ _
            refine r_assign 1 (e_bin (e_var 4 rfl rfl rfl) e_int o_add_ii) ⟨rfl, .inl (by kernel_rfl)⟩ (.tail .head) rfl ?_
            refine r_assign 2 e_none ⟨rfl, .inl (by kernel_rfl)⟩ (.tail (.tail .head)) rfl (r_nil ?_)
            show Runs _ _ _ _ _ _ _
            refine r_nil ?_
            show Runs _ _ _ _ _ _ _
            refine r_nil (.inl ⟨_, _, .inl rfl, rfl, rest, (pos + 1, none, res ++ [sliceS addr (some start) (some q)]), _, _, rfl, rfl, by rw [txts_snoc], ?_, ?_⟩)
            · rw [← hfold]; simp only [stripStep, hb, hn, if_true]
            · show (res ++ [_]).length + rest.length ≤ 1000
              have : res.length + (rest.length + 1) ≤ 1000 := hlen
              rw [List.length_append, List.length_singleton]; lia
          · refine r_nil ?_
            show Runs _ _ _ _ _ _ _
            refine r_assign 1 (e_bin (e_var 4 rfl rfl rfl) e_int o_add_ii) ⟨rfl, .inl (by kernel_rfl)⟩ (.tail .head) rfl ?_
            refine r_assign 2 e_none ⟨rfl, .inl (by kernel_rfl)⟩ (.tail (.tail .head)) rfl (r_nil ?_)
            show Runs _ _ _ _ _ _ _
            refine r_nil ?_
            show Runs _ _ _ _ _ _ _
            refine r_nil (.inl ⟨_, _, .inl rfl, rfl, rest, (pos + 1, none, res), _, _, rfl, rfl, rfl, ?_, ?_⟩)
            · rw [← hfold]; simp only [stripStep, hb, hn, if_true]; simp
            · show res.length + rest.length ≤ 1000
              have : res.length + (rest.length + 1) ≤ 1000 := hlen
              lia
      · refine r_nil ?_
        show Runs _ _ _ _ _ _ _
        refine r_nil (.inl ⟨_, _, .inl rfl, rfl, rest, (start, op, res), _, _, rfl, rfl, rfl, ?_, ?_⟩)
        · rw [← hfold]; simp only [stripStep, hb]; simp
        · show res.length + rest.length ≤ 1000
          have : res.length + (rest.length + 1) ≤ 1000 := hlen
          lia
  · rintro ρ w ⟨rest, st, x4, x5, e, rfl, rfl, hfold, hlen⟩
    cases rest with
    | cons _ _ => cases e
    | nil =>
      simp only [List.foldl_nil] at hfold
      subst hfold
      show Runs _ _ _ _ _ _ _
      have fin : ∀ res : List Str, stripEnd addr (stripFold addr) = res → Runs c (k + 3) (fnFrm (mkFd 32 fx dflt) f L hE ["addr", "start", "open_pos", "result", "pos", "ch"] X0) [some (.str addr), some (.int (stripFold addr).1), some (optPV (stripFold addr).2.1), some (.val (.ref D)), x4, x5] (some (D, txts res))
          [stripRet] (fun o => o = .ret (.str (stripT addr)) false) := by
        intro res hres
        with_reducible refine r_freeze 3 ?_ (.tail (.tail (.tail .head))) ?_
        · rfl
        refine r_ret (p := .str (Builtin.Str.glued "" res)) (by
          with_reducible refine e_smeth (x := "") (ps := [.lst (txts res)]) PySem.F.slot_str_join PySem.F.type_str_join ?_ ?_ ?_ ?_ ?_ ?_ ?_ ?_
          · exact e_str
          · exact l_cons (e_var 3 rfl rfl rfl) l_nil rfl
          · exact m_join (sep := "") (xs := res) (by rw [← hres]; exact htl) (by rw [← hres]; exact hgl)
          · rfl
          · rfl
          · rfl
          · exact fun _ => ⟨_, _, rfl, rfl⟩
          · rfl) ?_
        show Out.ret _ _ = Out.ret _ _
        rw [hT, hres]
      refine r_if (t_cmp (e_var 1 rfl rfl rfl) (e_cb (by kernel_rfl) (G.nob _ (by decide +kernel)) (by kernel_rfl) (by decide +kernel) rfl (l_cons (e_var 0 rfl rfl rfl) l_nil rfl) (b_len_str (by lia)) rfl (fun _ => ⟨_, _, rfl, rfl⟩) rfl) o_lt_ii rfl) (fun hb => ?_) (fun hb => ?_)
      · refine r_append 3 rfl rfl rfl (e_slice_str (e_var 0 rfl rfl rfl) (p_some (e_var 1 rfl rfl rfl)) p_none sz) (by simp [txts]; simp at hlen; lia) rfl rfl rfl rfl rfl (r_nil ?_)
        have hh : stripEnd addr (stripFold addr) = _ := if_pos hb
        with_reducible have := fin _ hh
        rw [txts_snoc] at this
        exact this
      · refine r_nil ?_
        exact fin _ (by unfold stripEnd; rw [if_neg (by rw [hb]; simp)])
end
end Mine
namespace Mine
open PySem PySem.W PyProof.Rows

theorem o_isub_ii {c : Cx} {k : Nat} {a b : Int} : Op2 c k (inplaceOp .Sub) (.int a) (.int b) (.int (a - b)) := op2_ii fun A s t u _ pos Q h => by with_reducible exact isub_int (h _ _ ExtW.toks fun _ => rdI)
noncomputable def parGo : List (Int × Str) → Int → Bool
  | [], n => n == 0
  | o :: r, n => if (o.2 == ("(" : Str)) = true then parGo r (n + 1) else if (o.2 == (")" : Str)) = true then (if decide (n - 1 < 0) = true then false else parGo r (n - 1)) else parGo r n
noncomputable def parT (addr : Str) : Bool := parGo (escGo (stripT addr).cps.toList 0 false 0) 0

/-- what holds of the loop -/
inductive ParA (addr : Str) (xs : List PV) (ρ : List (Option PV)) (w : Ow) : Prop
  | it (rest : List (Int × Str)) (n : Int) (x2 : Option PV) (x3 : Option PV) (h0 : xs = rest.map outPV) (h1 : ρ = [some (.str (stripT addr)), some (.int n), x2, x3]) (h2 : w = none) (h3 : parGo rest n = parT addr) : ParA addr xs ρ w
section
variable {c : Cx} {k : Nat} (G : Glob c) {f L : Addr} {hE : Heap} {X0 : List Addr} {fx : FX} {dflt : Value}
include G

theorem fn_strip {f : Addr} {addr : Str} {fg : Addr} (Dg : DefAt c 31 fg) (Ng : FnName c "_iter_escaped_chars" fg) (H : stripOk addr) (D : DefAt c 32 f) : Fn c (k + 4) f [.str addr] (.str (stripT addr)) := by
  obtain ⟨fx, FA⟩ := D
  refine fn_of (k := k + 3) (ps := ["addr"]) (ls := ["start", "open_pos", "result", "pos", "ch"]) (dargs := []) (fr := false) FA rfl (HBind.plain fun vals hl => ?_) rfl (by decide +kernel) ?_ (fun L hE X0 => ?_) (by kernel_rfl) (by kernel_rfl) (by kernel_rfl)
  · obtain ⟨a0, rfl⟩ := len1 hl
    unfold bindArgs; kernel_rfl
  · show ∀ x ∈ (["addr"] : List Str), (dScope (stAt 32)).names.lookup x = some .local ∨ ((dScope (stAt 32)).names.lookup x = some .cell ∧ ((cellsFrom 0 (dScope (stAt 32)).names []).lookup x).isSome = true)
    decide +kernel
  · exact run_strip G Dg Ng H

set_option maxHeartbeats 1000000 in
theorem run_par {addr : Str} {fg fs : Addr} (Dg : DefAt c 31 fg) (Ng : FnName c "_iter_escaped_chars" fg) (Ds : DefAt c 32 fs) (Ns : FnName c "_strip_quoted_realnames" fs) (H : stripOk addr) :
    Runs c (k + 4) (fnFrm (mkFd 33 fx dflt) f L hE ["addr", "opens", "pos", "ch"] X0) [some (.str addr), none, none, none] none (dBody (stAt 33)) (fun o => o = .ret (.bool (parT addr)) false) := by
  refine r_assign 0 (e_cf Ns (by kernel_rfl) rfl (l_cons (e_var 0 rfl rfl rfl) l_nil rfl) (fn_strip G Dg Ng H Ds) rfl (fun _ => ⟨_, _, rfl, rfl⟩) rfl) ⟨rfl, .inl (by kernel_rfl)⟩ .head rfl ?_
  refine r_assign 1 e_int ⟨rfl, .inl (by kernel_rfl)⟩ (.tail .head) rfl ?_
  refine r_forG (ge_iter (k := k + 1) G Dg Ng (e_var 0 rfl rfl rfl) (by kernel_rfl) rfl rfl) (forRuns_inv (fun xs ρ w => ParA addr xs ρ w) ?_ ?_ _ _ _
    ⟨escGo (stripT addr).cps.toList 0 false 0, 0, none, none, rfl, rfl, rfl, rfl⟩) (fun _ => rfl)
  · rintro x xs ρ w ⟨rest, n, x2, x3, e, rfl, rfl, hgo⟩
    cases rest with
    | nil => cases e
    | cons o rest =>
      obtain ⟨pos, ch⟩ := o
      injection e with e1 e2
      subst e1; subst e2
      refine ⟨_, asg_tup Pack.tup (.cons (asg_name 2 ⟨rfl, .inl (by kernel_rfl)⟩ (.tail (.tail .head))) rfl (.cons (asg_name 3 ⟨rfl, .inl (by kernel_rfl)⟩ (.tail (.tail (.tail .head)))) rfl .nil)), ?_⟩
      refine r_if (t_cmp (e_var 3 rfl rfl rfl) e_str o_eq_ss rfl) (fun hb => ?_) (fun hb => ?_)
      · refine r_aug 1 rfl e_int o_iadd_ii ⟨rfl, .inl (by kernel_rfl)⟩ (.tail .head) (r_nil ?_)
        show Runs _ _ _ _ _ _ _
        refine r_nil (.inl ⟨_, _, .inl rfl, rfl, rest, n + 1, _, _, rfl, rfl, rfl, ?_⟩)
        rw [← hgo]; simp only [parGo, hb, if_true]
      · refine r_if (t_cmp (e_var 3 rfl rfl rfl) e_str o_eq_ss rfl) (fun hb2 => ?_) (fun hb2 => ?_)
        · refine r_aug 1 rfl e_int o_isub_ii ⟨rfl, .inl (by kernel_rfl)⟩ (.tail .head) ?_
          refine r_if (t_cmp (e_var 1 rfl rfl rfl) e_int o_lt_ii rfl) (fun hb3 => ?_) (fun hb3 => ?_)
          · refine r_ret e_bool ?_
            refine Or.inr (Or.inr ⟨_, _, rfl, ?_⟩)
            show Out.ret _ _ = Out.ret _ _
            rw [← hgo]; simp only [parGo, hb, hb2, hb3, if_true]; simp
          · refine r_nil ?_
            show Runs _ _ _ _ _ _ _
            refine r_nil ?_
            show Runs _ _ _ _ _ _ _
            refine r_nil ?_
            show Runs _ _ _ _ _ _ _
            refine r_nil (.inl ⟨_, _, .inl rfl, rfl, rest, n - 1, _, _, rfl, rfl, rfl, ?_⟩)
            rw [← hgo]; simp only [parGo, hb, hb2, hb3, if_true]; simp
        · refine r_nil ?_
          show Runs _ _ _ _ _ _ _
          refine r_nil ?_
          show Runs _ _ _ _ _ _ _
          refine r_nil (.inl ⟨_, _, .inl rfl, rfl, rest, n, _, _, rfl, rfl, rfl, ?_⟩)
          rw [← hgo]; simp only [parGo, hb, hb2]; simp
  · rintro ρ w ⟨rest, n, x2, x3, e, rfl, rfl, hgo⟩
    cases rest with
    | cons _ _ => cases e
    | nil =>
      show Runs _ _ _ _ _ _ _
      refine r_ret (e_cmp (e_var 1 rfl rfl rfl) e_int o_eq_ii rfl) ?_
      show Out.ret _ _ = Out.ret _ _
      rw [← hgo]; rfl

theorem fn_par {f : Addr} {addr : Str} {fg fs : Addr} (Dg : DefAt c 31 fg) (Ng : FnName c "_iter_escaped_chars" fg) (Ds : DefAt c 32 fs) (Ns : FnName c "_strip_quoted_realnames" fs) (H : stripOk addr) (D : DefAt c 33 f) : Fn c (k + 5) f [.str addr] (.bool (parT addr)) := by
  obtain ⟨fx, FA⟩ := D
  refine fn_of (k := k + 4) (ps := ["addr"]) (ls := ["opens", "pos", "ch"]) (dargs := []) (fr := false) FA rfl (HBind.plain fun vals hl => ?_) rfl (by decide +kernel) ?_ (fun L hE X0 => ?_) (by kernel_rfl) (by kernel_rfl) (by kernel_rfl)
  · obtain ⟨a0, rfl⟩ := len1 hl
    unfold bindArgs; kernel_rfl
  · show ∀ x ∈ (["addr"] : List Str), (dScope (stAt 33)).names.lookup x = some .local ∨ ((dScope (stAt 33)).names.lookup x = some .cell ∧ ((cellsFrom 0 (dScope (stAt 33)).names []).lookup x).isSome = true)
    decide +kernel
  · exact run_par G Dg Ng Ds Ns H

noncomputable def ppvT (v : Str) : Str := if (!parT v) = true then "('', '')" else v

theorem run_ppv {l : List Str} {fp : Addr} (Np : FnName c "_check_parenthesis" fp) (P : ∀ v ∈ l, Fn c k fp [.str v] (.bool (parT v))) (hl : l.length ≤ 1000) :
    Runs c k (fnFrm (mkFd 34 fx dflt) f L hE ["email_header_fields", "accepted_values", "v"] X0) [some (.lst (txts l)), none, none] none (dBody (stAt 34)) (fun o => o = .ret (.lst (txts (l.map ppvT))) true) := by
  have big : 1001 ≤ sizeLine := Nat.le_of_ble_eq_true rfl
  refine r_new 1 ⟨rfl, .inl (by kernel_rfl)⟩ rfl fun D => ?_
  refine r_for (ie_list (e_var 0 rfl rfl rfl)) (forRuns_inv (fun xs ρ w => ∃ (rest done : List Str) (x2 : Option PV), xs = txts rest ∧ l = done ++ rest ∧
    ρ = [some (.lst (txts l)), some (.val (.ref D)), x2] ∧ w = some (D, txts (done.map ppvT))) ?_ ?_ _ _ _ ⟨l, [], none, rfl, rfl, rfl, rfl⟩) (fun _ => rfl)
  · rintro x xs ρ w ⟨rest, done, x2, e, hl', rfl, rfl⟩
    cases rest with
    | nil => cases e
    | cons v rest =>
      injection e with e1 e2
      subst e1; subst e2
      have hv : v ∈ l := by rw [hl']; simp
      have hd : done.length + (rest.length + 1) ≤ 1000 := by rw [hl'] at hl; simpa using hl
      refine ⟨_, asg_name 2 ⟨rfl, .inl (by kernel_rfl)⟩ (.tail (.tail .head)), ?_⟩
      refine r_if_join [some (.lst (txts l)), some (.val (.ref D)), some (.str (ppvT v))] (some (D, txts (done.map ppvT))) (t_not (t_plain (e_cf Np (by kernel_rfl) rfl (l_cons (e_var 2 rfl rfl rfl) l_nil rfl) (P v hv) rfl (fun _ => ⟨_, _, rfl, rfl⟩) rfl) tr_bool (fun _ => rfl))) (fun hb => ?_) (fun hb => ?_) ?_
      · refine r_assign 2 e_str ⟨rfl, .inl (by kernel_rfl)⟩ (.tail (.tail .head)) rfl (r_nil ?_)
        unfold ppvT; rw [if_pos hb]
      · refine r_nil ?_
        unfold ppvT; rw [if_neg (by rw [hb]; simp)]
      · refine r_append 1 rfl rfl rfl (e_var 2 rfl rfl rfl) (by simp [txts]; lia) rfl rfl rfl rfl rfl ?_
        refine r_nil (.inl ⟨_, _, .inl rfl, rfl, rest, done ++ [v], _, rfl, by rw [hl']; simp, rfl, ?_⟩)
        rw [List.map_append, List.map_singleton, txts_snoc]
  · rintro ρ w ⟨rest, done, x2, e, hl', rfl, rfl⟩
    cases rest with
    | cons _ _ => cases e
    | nil =>
      rw [List.append_nil] at hl'
      subst hl'
      show Runs _ _ _ _ _ _ _
      exact r_ret_own 1 rfl rfl rfl rfl
theorem fn_ppv {f : Addr} {l : List Str} {fp : Addr} (Np : FnName c "_check_parenthesis" fp) (P : ∀ v ∈ l, Fn c k fp [.str v] (.bool (parT v))) (hl : l.length ≤ 1000) (D : DefAt c 34 f) : FnNew c (k + 1) f [.lst (txts l)] (.lst (txts (l.map ppvT))) := by
  obtain ⟨fx, FA⟩ := D
  intro A X s vs R B XO rvs Q hq
  refine fn_any (ps := ["email_header_fields"]) (ls := ["accepted_values", "v"]) (args := [.lst (txts l)]) (dargs := []) (p := .lst (txts (l.map ppvT))) (fr := true) FA rfl (HBind.plain fun vals hl => ?_) rfl (by decide +kernel) ?_ (fun L hE X0 => ?_) (by kernel_rfl) (by kernel_rfl) (by kernel_rfl) A X s vs R B XO rvs Q (fun v s' e r n => hq v s' e r (n rfl))
  · obtain ⟨a0, rfl⟩ := len1 hl
    unfold bindArgs; kernel_rfl
  · show ∀ x ∈ (["email_header_fields"] : List Str), (dScope (stAt 34)).names.lookup x = some .local ∨ ((dScope (stAt 34)).names.lookup x = some .cell ∧ ((cellsFrom 0 (dScope (stAt 34)).names []).lookup x).isSome = true)
    decide +kernel
  · exact run_ppv G Np P hl
end
end Mine
namespace Mine
open PySem PySem.W PyProof.Rows

noncomputable abbrev LL : List Str := (["script", "told", "figures", "cells", "high", "system", "pieces", "mark", "host", "rule", "taken", "left", "ours", "others", "counts", "alone", "weights", "sums", "bound", "rows", "word", "width", "eol", "body", "name", "lines", "handed", "kept", "weighed", "dues"] : List String).map Str.ofString
noncomputable def lawSt (n : Nat) : List Stmt := (dBody (stAt 46)).drop n

/-- the k-th third of the script's first sixty, each by its remainder, and their sum -/
noncomputable def thirdL (ns : List Int) (k : Int) : List Int := (picks (picks ns (sliceRange (sliceBounds none (some 60) none ns.length).1 (sliceBounds none (some 60) none ns.length).2.1 (sliceBounds none (some 60) none ns.length).2.2)) (sliceRange (sliceBounds (some k) none (some 3) (picks ns (sliceRange (sliceBounds none (some 60) none ns.length).1 (sliceBounds none (some 60) none ns.length).2.1 (sliceBounds none (some 60) none ns.length).2.2)).length).1 (sliceBounds (some k) none (some 3) (picks ns (sliceRange (sliceBounds none (some 60) none ns.length).1 (sliceBounds none (some 60) none ns.length).2.1 (sliceBounds none (some 60) none ns.length).2.2)).length).2.1 (sliceBounds (some k) none (some 3) (picks ns (sliceRange (sliceBounds none (some 60) none ns.length).1 (sliceBounds none (some 60) none ns.length).2.1 (sliceBounds none (some 60) none ns.length).2.2)).length).2.2)).map (fun x => x.fmod 1000000)
theorem picks_ints (ns : List Int) (idx : List Nat) : picks (intsL ns) idx = intsL (picks ns idx) := by
  unfold picks intsL
  rw [List.map_filterMap]
  congr 1
  funext i
  simp
theorem slice_ints' (ns : List Int) (lo hi st : Option Int) : sliceL (intsL ns) lo hi st = intsL (picks ns (sliceRange (sliceBounds lo hi st ns.length).1 (sliceBounds lo hi st ns.length).2.1 (sliceBounds lo hi st ns.length).2.2)) := by
  unfold sliceL
  rw [intsL_len, picks_ints]
noncomputable def toldOf3 (k : Nat) : Int := [226, 75, 1234].getD k 0
noncomputable def cellOf (ns : List Int) (k : Nat) : Int := toldOf3 k + (thirdL ns (k : Int)).sum

section
variable {c : Cx} {k : Nat} (G : Glob c) {f L : Addr} {hE : Heap} {X0 : List Addr} {fx : FX} {dflt : Value}
include G
noncomputable abbrev lF (f L : Addr) (hE : Heap) (X0 : List Addr) (fx : FX) (dflt : Value) : Frm := fnFrm (mkFd 46 fx dflt) f L hE LL X0

end
end Mine
namespace Mine
open PySem PySem.W PyProof.Rows

theorem mul_ok {x : Str} {n : Int} (h : x.length ≤ 100) (hn : 0 ≤ n ∧ n ≤ 1000) : MulOk x n := by
  obtain ⟨h1, h2⟩ := hn
  refine ⟨by simp; lia, fun q _ => ?_, fun q _ => ?_⟩
  · have : (1000 : Int) ≤ (2 ^ 63 - 1) / n := by
      rw [Int.le_ediv_iff_mul_le (by lia)]
      lia
    lia
  · have h3 : n.toNat ≤ 1000 := by lia
    have : x.length * n.toNat ≤ 100 * 1000 := Nat.mul_le_mul h h3
    have big : 100000 ≤ sizeLine := Nat.le_of_ble_eq_true rfl
    unfold Builtin.Str.tooLong
    simp
    lia
theorem str_len_app (a b : Str) : (a ++ b).length = a.length + b.length := by show (a.cps ++ b.cps).size = a.cps.size + b.cps.size; simp
noncomputable def piecesPV : List PV := [.str "", .str "\\)", .str "\")\"", .str "\"\\\"(\"", .str "k"]
section
variable {c : Cx} {k : Nat} (G : Glob c) {f L : Addr} {hE : Heap} {X0 : List Addr} {fx : FX} {dflt : Value}
include G
set_option maxHeartbeats 1000000 in
theorem law_b {ns : List Int} {c0 c1 c2 hi sy : Int} {r m mk : Nat} {P : Out → Prop} {fp : Addr} (Np : FnName c "parse229" fp) (Dp : DefAt c 39 fp)
    (hr : c0.fmod 256 = (r : Int)) (hr2 : r < 256) (hh : 1 + (c1.fdiv 2).fmod 64 = hi) (hsy : c1.fmod 2 = sy) (hm : (c1.fdiv 128).fmod 6 = (m : Int)) (hm6 : m < 6) (hmk : marks6[m]? = some mk) (ok : Ok229 mk r)
    (hn : Runs c (k + 1) (lF f L hE X0 fx dflt) [some (.lst (intsL ns)), some (.tup [.int 226, .int 75, .int 1234]), some (.str "0123456789ABCDEF"), some (.lst (intsL [c0, c1, c2])), some (.int hi), some (.int sy), some (.tup piecesPV), some (.str ⟨#[mk]⟩), some (.str "peer"), some (.int (r : Int)), none, none, none, none, none, none, none, none, none, none, none, none, none, none, none, none, none, none, none, none] none (lawSt 6) P) :
    Runs c (k + 1) (lF f L hE X0 fx dflt) [some (.lst (intsL ns)), some (.tup [.int 226, .int 75, .int 1234]), some (.str "0123456789ABCDEF"), some (.lst (intsL [c0, c1, c2])), none, none, none, none, none, none, none, none, none, none, none, none, none, none, none, none, none, none, none, none, none, none, none, none, none, none] none (lawSt 2) P := by
  obtain ⟨_, _, _, H⟩ := ok
  have hsz := H.size
  have hlen : (resp229 mk r).length = (((Str.ofString "229 (").length + (Txt.mul ⟨#[mk]⟩ 3).length + (Str.ofString (toString (r : Int))).length + (⟨#[mk]⟩ : Str).length) + (Str.ofString ")").length) := by
    unfold resp229
    simp only [str_len_app]
  have big : 1000 ≤ sizeLine := Nat.le_of_ble_eq_true rfl
  have hmul : MulOk ⟨#[mk]⟩ 3 := mul_ok (by show 1 ≤ 100; decide) ⟨by decide, by decide⟩
  have hlog : (c0.fmod 256).natAbs.log2 < 1920 := by
    rw [hr]
    have h1 : (r : Int).natAbs = r := rfl
    rw [h1]
    rcases Nat.eq_zero_or_pos r with h0 | h0
    · subst h0; decide
    · have := (Nat.log2_lt (Nat.ne_of_gt h0) (k := 8)).mpr hr2
      lia
  have sz1 : (Str.ofString "229 (").length + (Txt.mul ⟨#[mk]⟩ 3).length ≤ sizeLine := by lia
  have sz2 : (Str.ofString "229 (" ++ Txt.mul ⟨#[mk]⟩ 3).length + (Str.ofString (toString (c0.fmod 256))).length ≤ sizeLine := by rw [hr, str_len_app]; lia
  have sz3 : (Str.ofString "229 (" ++ Txt.mul ⟨#[mk]⟩ 3 ++ Str.ofString (toString (c0.fmod 256))).length + (⟨#[mk]⟩ : Str).length ≤ sizeLine := by rw [hr, str_len_app, str_len_app]; lia
  have sz4 : (Str.ofString "229 (" ++ Txt.mul ⟨#[mk]⟩ 3 ++ Str.ofString (toString (c0.fmod 256)) ++ (⟨#[mk]⟩ : Str)).length + (Str.ofString ")").length ≤ sizeLine := by rw [hr, str_len_app, str_len_app, str_len_app]; lia
  refine r_unpack (p := .tup [.int hi, .int sy, .tup piecesPV]) (e_tup (l_cons (Evals.eq (e_bin e_int (e_bin (e_bin (e_sub (e_var 3 rfl rfl rfl) e_int (o_item_list (by lia) (by lia) (show _ = some (PV.int c1) from rfl) (fun _ _ => rfl))) e_int (o_fdiv_ii (by decide) (by decide))) e_int (o_mod_ii (by decide))) o_add_ii) (congrArg PV.int hh)) (l_cons (Evals.eq (e_bin (e_sub (e_var 3 rfl rfl rfl) e_int (o_item_list (by lia) (by lia) (show _ = some (PV.int c1) from rfl) (fun _ _ => rfl))) e_int (o_mod_ii (by decide))) (congrArg PV.int hsy)) (l_cons (e_tup (l_cons e_str (l_cons e_str (l_cons e_str (l_cons e_str (l_cons e_str l_nil rfl) rfl) rfl) rfl) rfl) (Nat.le_of_ble_eq_true rfl)) l_nil rfl) rfl) rfl) (Nat.le_of_ble_eq_true rfl)) (asg_tup Pack.tup (.cons (asg_name 4 ⟨rfl, .inl (by kernel_rfl)⟩ (.tail (.tail (.tail (.tail .head))))) rfl (.cons (asg_name 5 ⟨rfl, .inl (by kernel_rfl)⟩ (.tail (.tail (.tail (.tail (.tail .head)))))) rfl (.cons (asg_name 6 ⟨rfl, .inr ⟨by kernel_rfl, by kernel_rfl⟩⟩ (.tail (.tail (.tail (.tail (.tail (.tail .head))))))) rfl .nil)))) rfl (by kernel_rfl) ?_
  have hmark : (seqIndex? ((c1.fdiv 128).fmod 6) (Str.ofString "|!'\"=;").length).bind ((Str.ofString "|!'\"=;").cps[·]?) = some mk := by
    rw [hm, ← hmk]
    match m, hm6 with
    | 0, _ => decide
    | 1, _ => decide
    | 2, _ => decide
    | 3, _ => decide
    | 4, _ => decide
    | 5, _ => decide
  refine r_assign 7 (e_sub e_str (e_bin (e_bin (e_sub (e_var 3 rfl rfl rfl) e_int (o_item_list (by lia) (by lia) (show _ = some (PV.int c1) from rfl) (fun _ _ => rfl))) e_int (o_fdiv_ii (by decide) (by decide))) e_int (o_mod_ii (by decide))) (o_item_str (by rw [hm]; simp; lia) hmark (fun _ _ => rfl))) ⟨rfl, .inl (by kernel_rfl)⟩ (.tail (.tail (.tail (.tail (.tail (.tail (.tail .head))))))) rfl ?_
  refine r_unpack (p := .tup [.str "peer", .int (r : Int)]) (e_cf Np (by kernel_rfl) rfl (l_cons (Evals.eq (e_bin (e_bin (e_bin (e_bin e_str (e_bin (e_var 7 rfl rfl rfl) e_int (o_mul_si hmul)) (o_add_ss sz1)) (e_ct (by kernel_rfl) (G.nob _ (by decide +kernel)) (by kernel_rfl) (by decide +kernel) rfl (l_cons (e_bin (e_sub (e_var 3 rfl rfl rfl) e_int (o_item_list (by lia) (by lia) (show _ = some (PV.int c0) from rfl) (fun _ _ => rfl))) e_int (o_mod_ii (by decide))) l_nil rfl) (b_str_int hlog) rfl (fun _ => ⟨_, _, rfl, rfl⟩) rfl) (o_add_ss sz2)) (e_var 7 rfl rfl rfl) (o_add_ss sz3)) e_str (o_add_ss sz4)) (congrArg PV.str (show _ = resp229 mk r by rw [hr]; rfl))) (l_cons (e_tup (l_cons e_str (l_cons e_int l_nil rfl) rfl) (Nat.le_of_ble_eq_true rfl)) l_nil rfl) rfl) (fn_p229 G H Dp) rfl (fun _ => ⟨_, _, rfl, rfl⟩) rfl) (asg_tup Pack.tup (.cons (asg_name 8 ⟨rfl, .inl (by kernel_rfl)⟩ (.tail (.tail (.tail (.tail (.tail (.tail (.tail (.tail .head))))))))) rfl (.cons (asg_name 9 ⟨rfl, .inr ⟨by kernel_rfl, by kernel_rfl⟩⟩ (.tail (.tail (.tail (.tail (.tail (.tail (.tail (.tail (.tail .head)))))))))) rfl .nil))) rfl (by kernel_rfl) ?_
  refine r_if_f (Tests.eq (t_cmp (e_tup (l_cons (e_var 8 rfl rfl rfl) (l_cons (e_var 9 rfl rfl rfl) l_nil rfl) rfl) (Nat.le_of_ble_eq_true rfl)) (e_tup (l_cons e_str (l_cons (Evals.eq (e_bin (e_sub (e_var 3 rfl rfl rfl) e_int (o_item_list (by lia) (by lia) (show _ = some (PV.int c0) from rfl) (fun _ _ => rfl))) e_int (o_mod_ii (by decide))) (congrArg PV.int hr)) l_nil rfl) rfl) (Nat.le_of_ble_eq_true rfl)) (o_ne_seq (.inr ⟨_, _, rfl, rfl⟩) rfl (by simp [pvDep, pvDeps])) rfl) (by simp [pvEq, pvEqs])) (r_nil ?_)
  assumption
end
end Mine
namespace Mine
open PySem PySem.W PyProof.Rows

/-- the k-th bit of the rule, as the text asks it -/
noncomputable def bitOf (r k : Nat) : Bool := Builtin.bitAnd ((r : Int).fdiv (2 ^ k)) 1 != 0
noncomputable def takenL (r : Nat) : List Nat := (List.range 8).filter (bitOf r)
noncomputable def leftL (r : Nat) : List Nat := (List.range 8).filter fun k => !bitOf r k
noncomputable def onB (f : Nat → Bool) : PV → Bool
  | .int i => f i.toNat
  | _ => false
theorem pick_range (f : Nat → Bool) (n : Nat) : ((rangeL (n : Int)).filter (onB f)).map (fun p => p) = natsL ((List.range n).filter f) := by
  unfold rangeL natsL
  rw [List.map_id', List.filter_map]
  rfl
theorem noflts_ints (l : List Int) : noFlts (intsL l) = true := by
  induction l with
  | nil => rfl
  | cons a l ih => show (true && noFlts (intsL l)) = true; rw [ih]; rfl
theorem noflts_nats (l : List Nat) : noFlts (natsL l) = true := by
  induction l with
  | nil => rfl
  | cons a l ih => show (true && noFlts (natsL l)) = true; rw [ih]; rfl
theorem noflt30 {ρ : List (Option PV)} {i : Nat} {p : PV} (h : ρ[i]? = some (some p)) (ha : ∀ p, some p ∈ ρ → noFlt p = true) : noFlt p = true := ha p (List.mem_of_getElem? h)
theorem FnName.atLo {c : Cx} {x : Str} {f : Addr} {lo : Nat} (h : FnName c x f) : FnName (c.at lo) x f := ⟨h.glob, h.obj⟩
theorem FnAt.atLo {c : Cx} {f : Addr} {fd : FuncData} {lo : Nat} (h : FnAt c f fd) : FnAt (c.at lo) f fd := ⟨h.obj, h.code, h.clo, h.glob, h.bui⟩
theorem DefAt.atLo {c : Cx} {n : Nat} {f : Addr} {lo : Nat} (h : DefAt c n f) : DefAt (c.at lo) n f := by
  obtain ⟨fx, FA⟩ := h
  exact ⟨fx, FA.atLo⟩
section
variable {c : Cx} {k : Nat} (G : Glob c) {f L : Addr} {hE : Heap} {X0 : List Addr} {fx : FX} {dflt : Value}
include G
set_option maxHeartbeats 1000000 in
theorem law_c1 {ns : List Int} {c0 c1 c2 hi sy : Int} {r mk : Nat} {P : Out → Prop} (hn : Runs c (k + 1) (lF f L hE X0 fx dflt) [some (.lst (intsL ns)), some (.tup [.int 226, .int 75, .int 1234]), some (.str "0123456789ABCDEF"), some (.lst (intsL [c0, c1, c2])), some (.int hi), some (.int sy), some (.tup piecesPV), some (.str ⟨#[mk]⟩), some (.str "peer"), some (.int (r : Int)), some (.lst (natsL (takenL r))), some (.lst (natsL (leftL r))), none, none, none, none, none, none, none, none, none, none, none, none, none, none, none, none, none, none] none (lawSt 7) P) : Runs c (k + 1) (lF f L hE X0 fx dflt) [some (.lst (intsL ns)), some (.tup [.int 226, .int 75, .int 1234]), some (.str "0123456789ABCDEF"), some (.lst (intsL [c0, c1, c2])), some (.int hi), some (.int sy), some (.tup piecesPV), some (.str ⟨#[mk]⟩), some (.str "peer"), some (.int (r : Int)), none, none, none, none, none, none, none, none, none, none, none, none, none, none, none, none, none, none, none, none] none (lawSt 6) P := by
  refine r_unpack (p := .tup [.lst (natsL (takenL r)), .lst (natsL (leftL r))]) (e_tup (l_cons (e_comp (x := "k") (oc := false) (fvs := ["rule"]) (vals := [some (.int (r : Int))]) ⟨by kernel_rfl, by kernel_rfl, by kernel_rfl, fun n acc => by kernel_rfl, fun h => by kernel_rfl, by kernel_rfl, by kernel_rfl, by decide +kernel, by kernel_rfl⟩ (.cons 9 rfl rfl .nil) (ie_range (e_bui (by kernel_rfl) (G.nob _ (by decide +kernel)) (by kernel_rfl) (by decide +kernel) rfl) e_int (by decide) (by decide) rfl rfl) (onB (bitOf r)) (fun p => p) (Nat.le_of_ble_eq_true rfl) (fun p hp L' hE' w' => by
    obtain ⟨j, hj, rfl⟩ := mem_range hp
    exact ⟨ta_one (t_plain (e_bin (e_bin (e_var 1 rfl rfl rfl) (e_var 0 rfl rfl rfl) (o_shr_ii (by lia))) e_int o_and_ii) tr_int (fun _ => rfl)), fun _ => (e_var 0 rfl rfl rfl)⟩) (fun _ => rfl) (l := natsL _) (pick_range _ 8)) (l_cons (e_comp (x := "k") (oc := false) (fvs := ["rule"]) (vals := [some (.int (r : Int))]) ⟨by kernel_rfl, by kernel_rfl, by kernel_rfl, fun n acc => by kernel_rfl, fun h => by kernel_rfl, by kernel_rfl, by kernel_rfl, by decide +kernel, by kernel_rfl⟩ (.cons 9 rfl rfl .nil) (ie_range (e_bui (by kernel_rfl) (G.nob _ (by decide +kernel)) (by kernel_rfl) (by decide +kernel) rfl) e_int (by decide) (by decide) rfl rfl) (onB (fun k => !bitOf r k)) (fun p => p) (Nat.le_of_ble_eq_true rfl) (fun p hp L' hE' w' => by
    obtain ⟨j, hj, rfl⟩ := mem_range hp
    exact ⟨ta_one (t_not (t_plain (e_bin (e_bin (e_var 1 rfl rfl rfl) (e_var 0 rfl rfl rfl) (o_shr_ii (by lia))) e_int o_and_ii) tr_int (fun _ => rfl))), fun _ => (e_var 0 rfl rfl rfl)⟩) (fun _ => rfl) (l := natsL _) (pick_range _ 8)) l_nil rfl) rfl) (Nat.le_of_ble_eq_true rfl)) (asg_tup Pack.tup (.cons (asg_name 10 ⟨rfl, .inr ⟨by kernel_rfl, by kernel_rfl⟩⟩ (.tail (.tail (.tail (.tail (.tail (.tail (.tail (.tail (.tail (.tail .head))))))))))) rfl (.cons (asg_name 11 ⟨rfl, .inl (by kernel_rfl)⟩ (.tail (.tail (.tail (.tail (.tail (.tail (.tail (.tail (.tail (.tail (.tail .head)))))))))))) rfl .nil))) rfl (by kernel_rfl) ?_
  assumption
set_option maxHeartbeats 1000000 in
theorem law_c2 {ns : List Int} {c0 c1 c2 hi sy : Int} {r mk : Nat} {P : Out → Prop} {lt : Nat → Nat → PV} {fm fl : Addr} (Nm : FnName c "_law_mixes" fm) (Nl : FnName c "_law_light" fl) (Dm : DefAt c 43 fm) (Gl : ∀ lo, Glob (c.at lo))
    (LT : ∀ lo, ∀ one two : Nat, one < two → two < 8 → Fn (c.at lo) k fl [.lst (intsL (pairC one two)), .int hi, .int sy] (lt one two)) (hz1 : (mixesOf lt (takenL r)).length ≤ 100) (hz2 : (mixesOf lt (leftL r)).length ≤ 100)
    (hn : ∀ m m2 : Nat, m ≤ m2 → Runs c (k + 1) (lF f L hE X0 fx dflt) [some (.lst (intsL ns)), some (.tup [.int 226, .int 75, .int 1234]), some (.str "0123456789ABCDEF"), some (.lst (intsL [c0, c1, c2])), some (.int hi), some (.int sy), some (.tup piecesPV), some (.str ⟨#[mk]⟩), some (.str "peer"), some (.int (r : Int)), some (.lst (natsL (takenL r))), some (.lst (natsL (leftL r))), some (toB c.lo m (.lst (mixesOf lt (takenL r)))), some (toB m m2 (.lst (mixesOf lt (leftL r)))), none, none, none, none, none, none, none, none, none, none, none, none, none, none, none, none] none (lawSt 8) P) : Runs c (k + 1) (lF f L hE X0 fx dflt) [some (.lst (intsL ns)), some (.tup [.int 226, .int 75, .int 1234]), some (.str "0123456789ABCDEF"), some (.lst (intsL [c0, c1, c2])), some (.int hi), some (.int sy), some (.tup piecesPV), some (.str ⟨#[mk]⟩), some (.str "peer"), some (.int (r : Int)), some (.lst (natsL (takenL r))), some (.lst (natsL (leftL r))), none, none, none, none, none, none, none, none, none, none, none, none, none, none, none, none, none, none] none (lawSt 7) P := by
  have big : 100 ≤ sizeLine := Nat.le_of_ble_eq_true rfl
  have t8 : ∀ n ∈ takenL r, n < 8 := fun n h => by have := (List.mem_filter.mp h).1; exact List.mem_range.mp this
  have l8 : ∀ n ∈ leftL r, n < 8 := fun n h => by have := (List.mem_filter.mp h).1; exact List.mem_range.mp this
  refine r_two (p := .lst (mixesOf lt (takenL r))) (q := .lst (mixesOf lt (leftL r))) (e_cf Nm (by kernel_rfl) rfl (l_cons (e_var 10 rfl rfl rfl) (l_cons (e_var 4 rfl rfl rfl) (l_cons (e_var 5 rfl rfl rfl) l_nil rfl) rfl) rfl) (fn_mixes G Nl (fun a ha b hb hab => LT c.lo a b hab (t8 b hb)) (by lia) Dm) rfl (fun _ => ⟨_, _, rfl, rfl⟩) rfl)
    (fun loP hlo => (e_cf Nm.atLo (by kernel_rfl) rfl (l_cons (e_var 11 rfl rfl rfl) (l_cons (e_var 4 rfl rfl rfl) (l_cons (e_var 5 rfl rfl rfl) l_nil rfl) rfl) rfl) (fn_mixes (c := c.at loP) (Gl loP) Nl.atLo (fun a ha b hb hab => LT loP a b hab (l8 b hb)) (by lia) Dm.atLo) rfl (fun _ => ⟨_, _, rfl, rfl⟩) rfl))
    (fun i p h => noflt30 h ?_) (fun m m' => asg_tup Pack.tup (.cons (asg_name 12 ⟨rfl, .inl (by kernel_rfl)⟩ (.tail (.tail (.tail (.tail (.tail (.tail (.tail (.tail (.tail (.tail (.tail (.tail .head))))))))))))) rfl (.cons (asg_name 13 ⟨rfl, .inr ⟨by kernel_rfl, by kernel_rfl⟩⟩ (.tail (.tail (.tail (.tail (.tail (.tail (.tail (.tail (.tail (.tail (.tail (.tail (.tail .head)))))))))))))) rfl .nil))) rfl rfl rfl (by kernel_rfl) (fun m m' h => hn m m' h)
  intro p hp
  simp only [List.mem_cons, List.not_mem_nil, or_false, Option.some.injEq, reduceCtorEq, or_self, false_or] at hp
  rcases hp with rfl | rfl | rfl | rfl | rfl | rfl | rfl | rfl | rfl | rfl | rfl | rfl <;> first | rfl | exact noflts_ints _ | exact noflts_nats _
end
end Mine
namespace Mine
open PySem PySem.W PyProof.Rows

theorem sum_take_small : ∀ (l : List Int) (n : Nat), (∀ x ∈ l, 0 ≤ x ∧ x ≤ 10000000) → 0 ≤ (l.take n).sum ∧ (l.take n).sum ≤ 10000000 * l.length
  | [], n, h => by simp
  | a :: l, 0, h => by simp; lia
  | a :: l, n + 1, h => by
    have h1 := h a List.mem_cons_self
    have h2 := sum_take_small l n fun x hx => h x (List.mem_cons_of_mem _ hx)
    simp only [List.take_succ_cons, List.sum_cons, List.length_cons]
    lia
theorem fit_small {l : List Int} (h : ∀ x ∈ l, 0 ≤ x ∧ x ≤ 10000000) (hl : l.length ≤ 1000) : ∀ j, j < l.length → InLong (l.getD j 0) ∧ InLong (l.take (j + 1)).sum := by
  intro j hj
  have h1 : l.getD j 0 ∈ l := by
    rw [List.getD_eq_getElem?_getD, List.getElem?_eq_getElem hj]
    exact List.getElem_mem hj
  have h2 := h _ h1
  have h3 := sum_take_small l (j + 1) h
  unfold InLong
  constructor <;> lia
theorem bitAnd_nat (n : Nat) : Builtin.bitAnd (n : Int) 1 = ((n % 2 : Nat) : Int) := by
  unfold Builtin.bitAnd
  have h1 : decide (0 ≤ (n : Int)) = true := decide_eq_true (Int.natCast_nonneg n)
  have h2 : decide (0 ≤ (1 : Int)) = true := by decide
  rw [h1, h2]
  show ((((n : Int).toNat &&& (1 : Int).toNat) : Nat) : Int) = _
  rw [Int.toNat_natCast]
  show ((n &&& 1 : Nat) : Int) = _
  rw [Nat.and_one_is_mod]
theorem fdiv_pow (k i : Nat) : (k : Int).fdiv (2 ^ i) = ((k / 2 ^ i : Nat) : Int) := by
  have h : (0 : Int) ≤ 2 ^ i := Int.le_of_lt (Int.pow_pos (by decide))
  rw [Int.fdiv_eq_ediv_of_nonneg _ h]
  push_cast
  rfl
theorem bit_is (k i : Nat) : Builtin.bitAnd ((k : Int).fdiv (2 ^ i)) 1 = ((k / 2 ^ i % 2 : Nat) : Int) := by rw [fdiv_pow, bitAnd_nat]
theorem map_natsL (f : Nat → PV) (l : List Nat) : ((natsL l).filter fun _ => true).map (onInt f) = l.map f := by
  unfold natsL
  rw [List.filter_eq_self.mpr (fun _ _ => rfl), List.map_map]
  rfl
/-- how many taken colours have the i-th lamp -/
noncomputable def cntL (r i : Nat) : List Int := (takenL r).map fun (k : Nat) => Builtin.bitAnd ((k : Int).fdiv (2 ^ i)) 1
noncomputable def cnt (r i : Nat) : Int := (cntL r i).sum
theorem mem_natsL {l : List Nat} {p : PV} (h : p ∈ natsL l) : ∃ n ∈ l, p = .int (n : Int) := by
  obtain ⟨n, hn, rfl⟩ := List.mem_map.mp h
  exact ⟨n, hn, rfl⟩
theorem taken_len (r : Nat) : (takenL r).length ≤ 8 := by
  have := List.length_filter_le (bitOf r) (List.range 8)
  simpa [takenL] using this
section
variable {c : Cx} {k : Nat} (G : Glob c) {f L : Addr} {hE : Heap} {X0 : List Addr} {fx : FX} {dflt : Value}
include G
set_option maxHeartbeats 1000000 in
theorem law_d1 {ns : List Int} {c0 c1 c2 hi sy : Int} {r mk m m2 : Nat} {lt : Nat → Nat → PV} {P : Out → Prop} (hn : Runs c (k + 1) (lF f L hE X0 fx dflt) [some (.lst (intsL ns)), some (.tup [.int 226, .int 75, .int 1234]), some (.str "0123456789ABCDEF"), some (.lst (intsL [c0, c1, c2])), some (.int hi), some (.int sy), some (.tup piecesPV), some (.str ⟨#[mk]⟩), some (.str "peer"), some (.int (r : Int)), some (.lst (natsL (takenL r))), some (.lst (natsL (leftL r))), some (toB c.lo m (.lst (mixesOf lt (takenL r)))), some (toB m m2 (.lst (mixesOf lt (leftL r)))), some (.lst (intsL [cnt r 0, cnt r 1, cnt r 2])), none, none, none, none, none, none, none, none, none, none, none, none, none, none, none] none (lawSt 9) P) : Runs c (k + 1) (lF f L hE X0 fx dflt) [some (.lst (intsL ns)), some (.tup [.int 226, .int 75, .int 1234]), some (.str "0123456789ABCDEF"), some (.lst (intsL [c0, c1, c2])), some (.int hi), some (.int sy), some (.tup piecesPV), some (.str ⟨#[mk]⟩), some (.str "peer"), some (.int (r : Int)), some (.lst (natsL (takenL r))), some (.lst (natsL (leftL r))), some (toB c.lo m (.lst (mixesOf lt (takenL r)))), some (toB m m2 (.lst (mixesOf lt (leftL r)))), none, none, none, none, none, none, none, none, none, none, none, none, none, none, none, none] none (lawSt 8) P := by
  have big : 100 ≤ sizeLine := Nat.le_of_ble_eq_true rfl
  refine r_assign_comp 14 (x := "i") (oc := true) (fvs := ["taken"]) (vals := [some (.lst (natsL (takenL r)))]) ⟨by kernel_rfl, by kernel_rfl, by kernel_rfl, fun n acc => by kernel_rfl, fun h => by kernel_rfl, by kernel_rfl, by kernel_rfl, by decide +kernel, by kernel_rfl⟩ (.cons 10 rfl rfl .nil)
    (ie_range (e_bui (by kernel_rfl) (G.nob _ (by decide +kernel)) (by kernel_rfl) (by decide +kernel) rfl) e_int (by decide) (by decide) rfl rfl) (fun _ => true) (onInt fun i => .int (cnt r i)) (Nat.le_of_ble_eq_true rfl) (fun p hp L' hE' w' => ?_) (fun _ => rfl) (l := intsL [cnt r 0, cnt r 1, cnt r 2]) rfl (by kernel_rfl) ⟨rfl, .inl (by kernel_rfl)⟩ (.tail (.tail (.tail (.tail (.tail (.tail (.tail (.tail (.tail (.tail (.tail (.tail (.tail (.tail .head)))))))))))))) ?_
  · obtain ⟨i, hi, rfl⟩ := mem_range hp
    refine ⟨ta_nil, fun _ => ?_⟩
    refine e_cb (by kernel_rfl) (G.nob _ (by decide +kernel)) (by kernel_rfl) (by decide +kernel) rfl (l_cons (Evals.eq (e_comp (x := "k") (oc := false) (fvs := ["i"]) (vals := [some (.int (i : Int))]) ⟨by kernel_rfl, by kernel_rfl, by kernel_rfl, fun n acc => by kernel_rfl, fun h => by kernel_rfl, by kernel_rfl, by kernel_rfl, by decide +kernel, by kernel_rfl⟩ (.cons 0 rfl rfl .nil) (ie_list (e_var 1 rfl rfl rfl)) (fun _ => true) (onInt fun kk => .int (Builtin.bitAnd ((kk : Int).fdiv (2 ^ i)) 1)) (by rw [show (natsL (takenL r)).length = (takenL r).length from List.length_map _]; have := taken_len r; lia) (fun p hp L' hE' w' => by
      obtain ⟨j, hj, rfl⟩ := mem_natsL hp
      exact ⟨ta_nil, fun _ => (e_bin (e_bin (e_var 0 rfl rfl rfl) (e_var 1 rfl rfl rfl) (o_shr_ii (by lia))) e_int o_and_ii)⟩) (fun _ => rfl) rfl) (congrArg PV.lst (show _ = intsL (cntL r i) from ?_))) l_nil rfl) (b_sum (fit_small (fun x hx => ?_) ?_)) rfl (fun _ => ⟨_, _, rfl, rfl⟩) rfl
    · rw [map_natsL]; unfold intsL cntL; rw [List.map_map]; rfl
    · unfold cntL at hx
      obtain ⟨kk, _, rfl⟩ := List.mem_map.mp hx
      rw [bit_is]; lia
    · unfold cntL; rw [List.length_map]; have := taken_len r; lia
  · assumption
set_option maxHeartbeats 1000000 in
theorem law_d2 {ns : List Int} {c0 c1 c2 hi sy : Int} {r mk m m2 : Nat} {lt : Nat → Nat → PV} {P : Out → Prop} {al : Bool} {ft : Addr} (Nt : FnName c "_law_twins" ft) (Dt : DefAt c 44 ft) (hal : (twinsOf ((takenL r).length + 16 * cnt r 0 + 256 * cnt r 1 + 4096 * cnt r 2) == [(r : Int)]) = al)
    (hn : Runs c (k + 1) (lF f L hE X0 fx dflt) [some (.lst (intsL ns)), some (.tup [.int 226, .int 75, .int 1234]), some (.str "0123456789ABCDEF"), some (.lst (intsL [c0, c1, c2])), some (.int hi), some (.int sy), some (.tup piecesPV), some (.str ⟨#[mk]⟩), some (.str "peer"), some (.int (r : Int)), some (.lst (natsL (takenL r))), some (.lst (natsL (leftL r))), some (toB c.lo m (.lst (mixesOf lt (takenL r)))), some (toB m m2 (.lst (mixesOf lt (leftL r)))), some (.lst (intsL [cnt r 0, cnt r 1, cnt r 2])), some (.bool al), none, none, none, none, none, none, none, none, none, none, none, none, none, none] none (lawSt 10) P) : Runs c (k + 1) (lF f L hE X0 fx dflt) [some (.lst (intsL ns)), some (.tup [.int 226, .int 75, .int 1234]), some (.str "0123456789ABCDEF"), some (.lst (intsL [c0, c1, c2])), some (.int hi), some (.int sy), some (.tup piecesPV), some (.str ⟨#[mk]⟩), some (.str "peer"), some (.int (r : Int)), some (.lst (natsL (takenL r))), some (.lst (natsL (leftL r))), some (toB c.lo m (.lst (mixesOf lt (takenL r)))), some (toB m m2 (.lst (mixesOf lt (leftL r)))), some (.lst (intsL [cnt r 0, cnt r 1, cnt r 2])), none, none, none, none, none, none, none, none, none, none, none, none, none, none, none] none (lawSt 9) P := by
  have big : 100 ≤ sizeLine := Nat.le_of_ble_eq_true rfl
  have hl : (natsL (takenL r)).length = (takenL r).length := List.length_map _
  have ht := taken_len r
  refine r_assign 15 (Evals.eq (e_cmp (e_cf Nt (by kernel_rfl) rfl (l_cons (e_cb (by kernel_rfl) (G.nob _ (by decide +kernel)) (by kernel_rfl) (by decide +kernel) rfl (l_cons (e_var 10 rfl rfl rfl) l_nil rfl) (b_len_lst (by rw [hl]; lia)) rfl (fun _ => ⟨_, _, rfl, rfl⟩) rfl) (l_cons (e_var 14 rfl rfl rfl) l_nil rfl) rfl) (fn_twins G Dt) rfl (fun _ => ⟨_, _, rfl, rfl⟩) rfl) (e_lst (l_cons (e_var 9 rfl rfl rfl) l_nil rfl) (Nat.le_of_ble_eq_true rfl)) (o_eq_seq (.inl ⟨_, _, rfl, rfl⟩) (by simp only [eqOk]; exact eqOk_ints _ [(r : Int)]) (by simp only [pvDep]; rw [dep_ints]; lia)) rfl) (congrArg PV.bool (show pvEqs _ (intsL [(r : Int)]) = al by rw [pvEq_ints, hl]; exact hal))) ⟨rfl, .inl (by kernel_rfl)⟩ (.tail (.tail (.tail (.tail (.tail (.tail (.tail (.tail (.tail (.tail (.tail (.tail (.tail (.tail (.tail .head))))))))))))))) rfl ?_
  assumption
end
end Mine
namespace Mine
open PySem PySem.W PyProof.Rows

theorem toBs_map (i j : Nat) : ∀ l : List PV, toBs i j l = l.map (toB i j)
  | [] => rfl
  | p :: ps => by rw [toBs, toBs_map i j ps, List.map_cons]
theorem eqOks_nil : ∀ l : List PV, eqOks l [] = true
  | [] => rfl
  | _ :: _ => rfl
theorem deps_le {n : Nat} : ∀ {l : List PV}, (∀ p ∈ l, pvDep p ≤ n) → pvDeps l ≤ n
  | [], _ => Nat.zero_le _
  | p :: ps, h => by
    rw [pvDeps]
    exact Nat.max_le.mpr ⟨h p List.mem_cons_self, deps_le fun q hq => h q (List.mem_cons_of_mem _ hq)⟩
/-- a light: three floats, each like itself -/
noncomputable def IsTri (p : PV) : Prop := ∃ x y z, p = .tup [.flt x, .flt y, .flt z] ∧ (Float64.cmp x x == some .eq) = true ∧ (Float64.cmp y y == some .eq) = true ∧ (Float64.cmp z z == some .eq) = true
theorem tri_eqOk {p q : PV} {i j k l : Nat} (hp : IsTri p) (hq : IsTri q) (h : k = j) : eqOk (toB k l q) (toB i j p) = true ∧ pvDep (toB k l q) ≤ 99 ∧ pvSimple (toB k l q) = true := by
  obtain ⟨x, y, z, rfl, _⟩ := hp
  obtain ⟨x', y', z', rfl, h1, h2, h3⟩ := hq
  subst h
  refine ⟨?_, ?_, ?_⟩
  · simp [toB, toBs, eqOk, eqOks, h1, h2, h3]
  · simp [toB, toBs, pvDep, pvDeps]
  · simp [toB, toBs, pvSimple, pvSimples]
theorem tri_nil {q : PV} {k l : Nat} (hq : IsTri q) : eqOk (toB k l q) (.tup []) = true ∧ pvDep (toB k l q) ≤ 99 ∧ pvSimple (toB k l q) = true := by
  obtain ⟨x', y', z', rfl, h1, h2, h3⟩ := hq
  refine ⟨?_, ?_, ?_⟩
  · simp [toB, toBs, eqOk, eqOks]
  · simp [toB, toBs, pvDep, pvDeps]
  · simp [toB, toBs, pvSimple, pvSimples]
theorem tri_ne {q : PV} {k l : Nat} (hq : IsTri q) : pvEq (toB k l q) (.tup []) = false := by
  obtain ⟨x', y', z', rfl, _⟩ := hq
  simp [toB, toBs, pvEq, pvEqs]
theorem mixes_tri {lt : Nat → Nat → PV} {cs : List Nat} (h : ∀ n ∈ cs, n < 8) (hlt : ∀ one two : Nat, one < two → two < 8 → IsTri (lt one two)) : ∀ p ∈ mixesOf lt cs, IsTri p := by
  intro p hp
  unfold mixesOf at hp
  obtain ⟨one, h1, h2⟩ := List.mem_flatMap.mp hp
  obtain ⟨two, h3, rfl⟩ := List.mem_map.mp h2
  obtain ⟨h4, h5⟩ := List.mem_filter.mp h3
  have := of_decide_eq_true h5
  exact hlt one two (by lia) (h two h4)
theorem taken_lt (r : Nat) : ∀ n ∈ takenL r, n < 8 := fun n h => by have := (List.mem_filter.mp h).1; exact List.mem_range.mp this
theorem left_lt (r : Nat) : ∀ n ∈ leftL r, n < 8 := fun n h => by have := (List.mem_filter.mp h).1; exact List.mem_range.mp this
section
variable {c : Cx} {k : Nat} (G : Glob c) {f L : Addr} {hE : Heap} {X0 : List Addr} {fx : FX} {dflt : Value}
include G
set_option maxHeartbeats 1000000 in
theorem law_e1 {ns : List Int} {c0 c1 c2 hi sy : Int} {r mk m m2 : Nat} {lt : Nat → Nat → PV} {al : Bool} {P : Out → Prop} (hlt : ∀ one two : Nat, one < two → two < 8 → IsTri (lt one two)) (hz1 : (mixesOf lt (takenL r)).length ≤ 100)
    (hcom : ((toBs c.lo m (mixesOf lt (takenL r))).filter fun p => (toBs m m2 (mixesOf lt (leftL r))).any fun q => pvEq q p).isEmpty = al)
    (hn : Runs c (k + 1) (lF f L hE X0 fx dflt) [some (.lst (intsL ns)), some (.tup [.int 226, .int 75, .int 1234]), some (.str "0123456789ABCDEF"), some (.lst (intsL [c0, c1, c2])), some (.int hi), some (.int sy), some (.tup piecesPV), some (.str ⟨#[mk]⟩), some (.str "peer"), some (.int (r : Int)), some (.lst (natsL (takenL r))), some (.lst (natsL (leftL r))), some (toB c.lo m (.lst (mixesOf lt (takenL r)))), some (toB m m2 (.lst (mixesOf lt (leftL r)))), some (.lst (intsL [cnt r 0, cnt r 1, cnt r 2])), some (.bool al), none, none, none, none, none, none, none, none, none, none, none, none, none, none] none (lawSt 11) P) : Runs c (k + 1) (lF f L hE X0 fx dflt) [some (.lst (intsL ns)), some (.tup [.int 226, .int 75, .int 1234]), some (.str "0123456789ABCDEF"), some (.lst (intsL [c0, c1, c2])), some (.int hi), some (.int sy), some (.tup piecesPV), some (.str ⟨#[mk]⟩), some (.str "peer"), some (.int (r : Int)), some (.lst (natsL (takenL r))), some (.lst (natsL (leftL r))), some (toB c.lo m (.lst (mixesOf lt (takenL r)))), some (toB m m2 (.lst (mixesOf lt (leftL r)))), some (.lst (intsL [cnt r 0, cnt r 1, cnt r 2])), some (.bool al), none, none, none, none, none, none, none, none, none, none, none, none, none, none] none (lawSt 10) P := by
  have big : 100 ≤ sizeLine := Nat.le_of_ble_eq_true rfl
  have key : ∀ l : List PV, pvEq (.lst l) (.lst []) = l.isEmpty := fun l => by cases l <;> simp [pvEq, pvEqs]
  have hdep : ∀ p ∈ (((toBs c.lo m (mixesOf lt (takenL r))).filter fun p => (toBs m m2 (mixesOf lt (leftL r))).any fun q => pvEq q p).map fun p => p), pvDep p ≤ 99 := by
    intro p hp
    rw [List.map_id'] at hp
    have hp := (List.mem_filter.mp hp).1
    rw [toBs_map] at hp
    obtain ⟨p0, hp0, rfl⟩ := List.mem_map.mp hp
    exact (tri_nil (mixes_tri (taken_lt r) hlt p0 hp0)).2.1
  refine r_if_f (Tests.eq (t_cmp (e_cmp (e_comp (x := "light") (oc := false) (fvs := ["others"]) (vals := [some (.lst (toBs m m2 (mixesOf lt (leftL r))))]) ⟨by kernel_rfl, by kernel_rfl, by kernel_rfl, fun n acc => by kernel_rfl, fun h => by kernel_rfl, by kernel_rfl, by kernel_rfl, by decide +kernel, by kernel_rfl⟩ (.cons 13 rfl rfl .nil) (ie_list (xs := toBs c.lo m (mixesOf lt (takenL r))) (e_var 12 rfl rfl rfl)) (fun p => (toBs m m2 (mixesOf lt (leftL r))).any fun q => pvEq q p) (fun p => p) (by rw [toBs_map, List.length_map]; lia) (fun p hp L' hE' w' => by
      rw [toBs_map] at hp
      obtain ⟨p0, hp0, rfl⟩ := List.mem_map.mp hp
      exact ⟨ta_one (t_cmp (e_var 0 rfl rfl rfl) (e_var 1 rfl rfl rfl) (o_in_lst fun q hq => by
        rw [toBs_map] at hq
        obtain ⟨q0, hq0, rfl⟩ := List.mem_map.mp hq
        exact tri_eqOk (mixes_tri (taken_lt r) hlt p0 hp0) (mixes_tri (left_lt r) hlt q0 hq0) rfl) rfl), fun _ => (e_var 0 rfl rfl rfl)⟩) (fun _ => rfl) rfl) (e_lst l_nil (Nat.zero_le _)) (o_eq_seq (.inl ⟨_, _, rfl, rfl⟩) (by simp only [eqOk]; exact eqOks_nil _) (by rw [pvDep]; have := deps_le hdep; lia)) rfl) (e_var 15 rfl rfl rfl) o_isnot_bb rfl) ?_) (r_nil ?_)
  · rw [key, List.map_id', hcom]; simp
  · assumption
set_option maxHeartbeats 1000000 in
theorem law_e2 {ns : List Int} {c0 c1 c2 hi sy : Int} {r mk m m2 : Nat} {lt : Nat → Nat → PV} {al : Bool} {P : Out → Prop} {fl : Addr} {lc : PV} (Nl : FnName c "_law_light" fl) (LTc : Fn c (k + 1) fl [.lst (intsL [cnt r 0, cnt r 1, cnt r 2]), .int hi, .int (1 - sy)] lc) (hlc : IsTri lc) (hlt : ∀ one two : Nat, one < two → two < 8 → IsTri (lt one two))
    (hn : Runs c (k + 1) (lF f L hE X0 fx dflt) [some (.lst (intsL ns)), some (.tup [.int 226, .int 75, .int 1234]), some (.str "0123456789ABCDEF"), some (.lst (intsL [c0, c1, c2])), some (.int hi), some (.int sy), some (.tup piecesPV), some (.str ⟨#[mk]⟩), some (.str "peer"), some (.int (r : Int)), some (.lst (natsL (takenL r))), some (.lst (natsL (leftL r))), some (toB c.lo m (.lst (mixesOf lt (takenL r)))), some (toB m m2 (.lst (mixesOf lt (leftL r)))), some (.lst (intsL [cnt r 0, cnt r 1, cnt r 2])), some (.bool al), none, none, none, none, none, none, none, none, none, none, none, none, none, none] none (lawSt 12) P) : Runs c (k + 1) (lF f L hE X0 fx dflt) [some (.lst (intsL ns)), some (.tup [.int 226, .int 75, .int 1234]), some (.str "0123456789ABCDEF"), some (.lst (intsL [c0, c1, c2])), some (.int hi), some (.int sy), some (.tup piecesPV), some (.str ⟨#[mk]⟩), some (.str "peer"), some (.int (r : Int)), some (.lst (natsL (takenL r))), some (.lst (natsL (leftL r))), some (toB c.lo m (.lst (mixesOf lt (takenL r)))), some (toB m m2 (.lst (mixesOf lt (leftL r)))), some (.lst (intsL [cnt r 0, cnt r 1, cnt r 2])), some (.bool al), none, none, none, none, none, none, none, none, none, none, none, none, none, none] none (lawSt 11) P := by
  have g1 : ∀ q ∈ toBs c.lo m (mixesOf lt (takenL r)), ∃ q0, IsTri q0 ∧ q = toB c.lo m q0 := fun q hq => by
    rw [toBs_map] at hq
    obtain ⟨q0, hq0, rfl⟩ := List.mem_map.mp hq
    exact ⟨q0, mixes_tri (taken_lt r) hlt q0 hq0, rfl⟩
  have g2 : ∀ q ∈ toBs m m2 (mixesOf lt (leftL r)), ∃ q0, IsTri q0 ∧ q = toB m m2 q0 := fun q hq => by
    rw [toBs_map] at hq
    obtain ⟨q0, hq0, rfl⟩ := List.mem_map.mp hq
    exact ⟨q0, mixes_tri (left_lt r) hlt q0 hq0, rfl⟩
  have n1 : ((toBs c.lo m (mixesOf lt (takenL r))).any fun q => pvEq q (.tup [])) = false := by
    rw [List.any_eq_false]
    intro q hq
    obtain ⟨q0, h, rfl⟩ := g1 q hq
    rw [tri_ne h]; simp
  have n2 : ((toBs m m2 (mixesOf lt (leftL r))).any fun q => pvEq q (.tup [])) = false := by
    rw [List.any_eq_false]
    intro q hq
    obtain ⟨q0, h, rfl⟩ := g2 q hq
    rw [tri_ne h]; simp
  obtain ⟨x, y, z, rfl, _⟩ := hlc
  refine r_if_f (Tests.eq (t_or (t_cmp (e_tup l_nil (Nat.zero_le _)) (e_var 12 rfl rfl rfl) (o_in_lst (l := toBs c.lo m (mixesOf lt (takenL r))) fun q hq => by obtain ⟨q0, h, rfl⟩ := g1 q hq; exact tri_nil h) rfl) fun _ => t_or (t_cmp (e_tup l_nil (Nat.zero_le _)) (e_var 13 rfl rfl rfl) (o_in_lst (l := toBs m m2 (mixesOf lt (leftL r))) fun q hq => by obtain ⟨q0, h, rfl⟩ := g2 q hq; exact tri_nil h) rfl) fun _ =>
    t_or (t_cmp (e_cf Nl (by kernel_rfl) rfl (l_cons (e_var 14 rfl rfl rfl) (l_cons (e_var 4 rfl rfl rfl) (l_cons (e_bin e_int (e_var 5 rfl rfl rfl) o_sub_ii) l_nil rfl) rfl) rfl) LTc rfl (fun _ => ⟨_, _, rfl, rfl⟩) rfl) (e_tup l_nil (Nat.zero_le _)) (o_eq_seq (.inr ⟨_, _, rfl, rfl⟩) rfl (by simp [pvDep, pvDeps])) rfl) fun _ => t_or_nil) ?_) (r_nil ?_)
  · rw [n1, n2]; simp [pvEq, pvEqs]
  · assumption
end
end Mine
namespace Mine
open PySem PySem.W PyProof.Rows
theorem sum_le {B : Int} : ∀ (l : List Int), (∀ x ∈ l, 0 ≤ x ∧ x ≤ B) → 0 ≤ l.sum ∧ l.sum ≤ B * l.length
  | [], h => by simp
  | a :: l, h => by
    have h1 := h a List.mem_cons_self
    have h2 := sum_le l fun x hx => h x (List.mem_cons_of_mem _ hx)
    simp only [List.sum_cons, List.length_cons]
    rw [show B * ((l.length + 1 : Nat) : Int) = B * (l.length : Int) + B by push_cast; rw [Int.mul_add, Int.mul_one]]
    lia
theorem cnt_le (r i : Nat) : 0 ≤ cnt r i ∧ cnt r i ≤ 8 := by
  have h := sum_le (B := 1) (cntL r i) fun x hx => by
    unfold cntL at hx
    obtain ⟨kk, _, rfl⟩ := List.mem_map.mp hx
    rw [bit_is]; lia
  have hl : (cntL r i).length ≤ 8 := by unfold cntL; rw [List.length_map]; exact taken_len r
  unfold cnt
  lia
/-- how much the i-th lamp weighs -/
noncomputable def wgt (r i : Nat) : Int := 2 * cnt r i - ((takenL r).length : Int)
noncomputable def wgtL (r : Nat) : List Int := [wgt r 0, wgt r 1, wgt r 2]
noncomputable def abs' (a : Int) : Int := if a < 0 then -a else a
noncomputable def hasLamp (r k i : Nat) : Bool := decide (0 < wgt r i) == (Builtin.bitAnd ((k : Int).fdiv (2 ^ i)) 1 == 1)
noncomputable def smL (r k : Nat) : List Int := ((List.range 3).filter (hasLamp r k)).map fun i => abs' (wgt r i)
/-- how much the colour's lamps weigh -/
noncomputable def sm (r k : Nat) : Int := (smL r k).sum
noncomputable def smsL (r : Nat) : List Int := (List.range 8).map (sm r)
noncomputable def bndL (r : Nat) : List Int := (takenL r).map (sm r)
noncomputable def bnd (r : Nat) : Int := if (takenL r).isEmpty then maxL (smsL r) + 1 else minL (bndL r)
theorem wgt_le (r i : Nat) : -100 ≤ wgt r i ∧ wgt r i ≤ 100 := by
  have := cnt_le r i
  have := taken_len r
  unfold wgt
  lia
theorem abs_le (r i : Nat) : 0 ≤ abs' (wgt r i) ∧ abs' (wgt r i) ≤ 100 := by
  have := wgt_le r i
  unfold abs'
  split <;> lia
theorem smL_len (r k : Nat) : (smL r k).length ≤ 3 := by
  unfold smL
  rw [List.length_map]
  have := List.length_filter_le (hasLamp r k) (List.range 3)
  simpa using this
theorem sm_le (r k : Nat) : 0 ≤ sm r k ∧ sm r k ≤ 300 := by
  have h := sum_le (B := 100) (smL r k) fun x hx => by
    unfold smL at hx
    obtain ⟨i, _, rfl⟩ := List.mem_map.mp hx
    exact abs_le r i
  have := smL_len r k
  unfold sm
  lia
theorem wgtL_get {r i : Nat} (h : i < 3) : (intsL (wgtL r))[((i : Nat) : Int).toNat]? = some (.int (wgt r i)) := by
  match i, h with
  | 0, _ => rfl
  | 1, _ => rfl
  | 2, _ => rfl
theorem smsL_get {r k : Nat} (h : k < 8) : (intsL (smsL r))[((k : Nat) : Int).toNat]? = some (.int (sm r k)) := by
  rw [Int.toNat_natCast]
  unfold intsL smsL
  rw [List.getElem?_map, List.getElem?_map, List.getElem?_range h]
  rfl
theorem bnd_le (r : Nat) : 0 ≤ bnd r ∧ bnd r ≤ 301 := by
  unfold bnd
  split
  · have h := (maxL_spec (l := smsL r) (by unfold smsL; simp)).1
    unfold smsL at h
    obtain ⟨k, _, h⟩ := List.mem_map.mp h
    have := sm_le r k
    unfold smsL
    lia
  · rename_i hne
    have h := (minL_spec (l := bndL r) (by unfold bndL; intro h; apply hne; have := List.map_eq_nil_iff.mp h; rw [this]; rfl)).1
    unfold bndL at h
    obtain ⟨k, _, h⟩ := List.mem_map.mp h
    have := sm_le r k
    unfold bndL
    lia
theorem pick_range' (f : Nat → Bool) (g : Nat → PV) (n : Nat) : ((rangeL (n : Int)).filter (onB f)).map (onInt g) = ((List.range n).filter f).map g := by
  unfold rangeL
  rw [List.filter_map, List.map_map]
  rfl
theorem mul1 (a : Nat) (n : Int) : Txt.mul ⟨#[a]⟩ n = mk (List.replicate n.toNat a) := by
  have hf : ∀ (m : Nat) (acc : List Nat), (List.replicate m (#[a] : Array Nat)).foldl (· ++ ·) acc.toArray = (acc ++ List.replicate m a).toArray := by
    intro m
    induction m with
    | zero => intro acc; simp
    | succ m ih =>
      intro acc
      rw [List.replicate_succ, List.foldl_cons]
      have : acc.toArray ++ (#[a] : Array Nat) = (acc ++ [a]).toArray := by simp
      rw [this, ih]
      simp [List.replicate_succ]
  unfold Txt.mul
  split
  · have : n.toNat = 0 := by lia
    rw [this]; rfl
  · split
    · rename_i h1 h2
      have : n = 1 := by
        have h3 : (⟨#[a]⟩ : Str).length = 1 := rfl
        rw [h3] at h2
        simpa using h2
      subst this
      rfl
    · have := hf n.toNat []
      show (⟨(List.replicate n.toNat (#[a] : Array Nat)).foldl (· ++ ·) #[]⟩ : Str) = _
      rw [show (#[] : Array Nat) = ([] : List Nat).toArray from rfl, this]
      rfl
/-- the signs ahead of a row -/
noncomputable def pieceC (j : Nat) : List Nat := [[], [92, 41], [34, 41, 34], [34, 92, 34, 40, 34], [107]].getD j []
noncomputable def rowC (r p k : Nat) : List Nat := pieceC ((p + k) % 5) ++ List.replicate (sm r k).toNat 40 ++ List.replicate (bnd r).toNat 41 ++ List.replicate (bnd r).toNat 40 ++ List.replicate (sm r k).toNat 41
noncomputable def rowsL (r p : Nat) : List Str := (List.range 8).map fun k => mk (rowC r p k)
theorem piece_get {j : Nat} (h : j < 5) : piecesPV[j]? = some (.str (mk (pieceC j))) := by
  match j, h with
  | 0, _ => rfl
  | 1, _ => rfl
  | 2, _ => rfl
  | 3, _ => rfl
  | 4, _ => rfl
theorem pieceC_len (j : Nat) : (pieceC j).length ≤ 5 := by
  unfold pieceC
  match j with
  | 0 | 1 | 2 | 3 | 4 => decide
  | n + 5 => simp
end Mine
namespace Mine
open PySem PySem.W PyProof.Rows

section
variable {c : Cx} {k : Nat} (G : Glob c) {f L : Addr} {hE : Heap} {X0 : List Addr} {fx : FX} {dflt : Value}
include G
set_option maxHeartbeats 1000000 in
theorem law_f1 {ns : List Int} {c0 c1 c2 hi sy : Int} {r mk' m m2 p : Nat} {lt : Nat → Nat → PV} {al : Bool} {P : Out → Prop} (hn : Runs c (k + 1) (lF f L hE X0 fx dflt) [some (.lst (intsL ns)), some (.tup [.int 226, .int 75, .int 1234]), some (.str "0123456789ABCDEF"), some (.lst (intsL [c0, c1, c2])), some (.int hi), some (.int sy), some (.tup piecesPV), some (.str ⟨#[mk']⟩), some (.str "peer"), some (.int (r : Int)), some (.lst (natsL (takenL r))), some (.lst (natsL (leftL r))), some (toB c.lo m (.lst (mixesOf lt (takenL r)))), some (toB m m2 (.lst (mixesOf lt (leftL r)))), some (.lst (intsL [cnt r 0, cnt r 1, cnt r 2])), some (.bool al), some (.lst (intsL (wgtL r))), none, none, none, none, none, none, none, none, none, none, none, none, none] none (lawSt 13) P) : Runs c (k + 1) (lF f L hE X0 fx dflt) [some (.lst (intsL ns)), some (.tup [.int 226, .int 75, .int 1234]), some (.str "0123456789ABCDEF"), some (.lst (intsL [c0, c1, c2])), some (.int hi), some (.int sy), some (.tup piecesPV), some (.str ⟨#[mk']⟩), some (.str "peer"), some (.int (r : Int)), some (.lst (natsL (takenL r))), some (.lst (natsL (leftL r))), some (toB c.lo m (.lst (mixesOf lt (takenL r)))), some (toB m m2 (.lst (mixesOf lt (leftL r)))), some (.lst (intsL [cnt r 0, cnt r 1, cnt r 2])), some (.bool al), none, none, none, none, none, none, none, none, none, none, none, none, none, none] none (lawSt 12) P := by
  have hl : (natsL (takenL r)).length = (takenL r).length := List.length_map _
  have tl := taken_len r
  refine r_assign 16 (e_comp (x := "count") (oc := false) (fvs := ["taken"]) (vals := [some (.lst (natsL (takenL r)))]) ⟨by kernel_rfl, by kernel_rfl, by kernel_rfl, fun n acc => by kernel_rfl, fun h => by kernel_rfl, by kernel_rfl, by kernel_rfl, by decide +kernel, by kernel_rfl⟩ (.cons 10 rfl rfl .nil)
    (ie_list (e_var 14 rfl rfl rfl)) (fun _ => true) (onI fun n => .int (2 * n - ((takenL r).length : Int))) (Nat.le_of_ble_eq_true rfl) (fun p hp L' hE' w' => ?_) (fun _ => rfl) (l := intsL (wgtL r)) rfl) ⟨rfl, .inr ⟨by kernel_rfl, by kernel_rfl⟩⟩ (.tail (.tail (.tail (.tail (.tail (.tail (.tail (.tail (.tail (.tail (.tail (.tail (.tail (.tail (.tail (.tail .head)))))))))))))))) rfl ?_
  · obtain ⟨n, hn, rfl⟩ := mem_intsL hp
    exact ⟨ta_nil, fun _ => e_bin (e_bin e_int (e_var 0 rfl rfl rfl) (o_mul_ii (by decide))) (Evals.eq (e_cb (by kernel_rfl) (G.nob _ (by decide +kernel)) (by kernel_rfl) (by decide +kernel) rfl (l_cons (e_var 1 rfl rfl rfl) l_nil rfl) (b_len_lst (by rw [hl]; lia)) rfl (fun _ => ⟨_, _, rfl, rfl⟩) rfl) (congrArg PV.int (show ((natsL (takenL r)).length : Int) = ((takenL r).length : Int) by rw [hl]))) o_sub_ii⟩
  · assumption
set_option maxHeartbeats 1000000 in
theorem law_f2 {ns : List Int} {c0 c1 c2 hi sy : Int} {r mk' m m2 p : Nat} {lt : Nat → Nat → PV} {al : Bool} {P : Out → Prop} (hn : Runs c (k + 1) (lF f L hE X0 fx dflt) [some (.lst (intsL ns)), some (.tup [.int 226, .int 75, .int 1234]), some (.str "0123456789ABCDEF"), some (.lst (intsL [c0, c1, c2])), some (.int hi), some (.int sy), some (.tup piecesPV), some (.str ⟨#[mk']⟩), some (.str "peer"), some (.int (r : Int)), some (.lst (natsL (takenL r))), some (.lst (natsL (leftL r))), some (toB c.lo m (.lst (mixesOf lt (takenL r)))), some (toB m m2 (.lst (mixesOf lt (leftL r)))), some (.lst (intsL [cnt r 0, cnt r 1, cnt r 2])), some (.bool al), some (.lst (intsL (wgtL r))), some (.lst (intsL (smsL r))), none, none, none, none, none, none, none, none, none, none, none, none] none (lawSt 14) P) : Runs c (k + 1) (lF f L hE X0 fx dflt) [some (.lst (intsL ns)), some (.tup [.int 226, .int 75, .int 1234]), some (.str "0123456789ABCDEF"), some (.lst (intsL [c0, c1, c2])), some (.int hi), some (.int sy), some (.tup piecesPV), some (.str ⟨#[mk']⟩), some (.str "peer"), some (.int (r : Int)), some (.lst (natsL (takenL r))), some (.lst (natsL (leftL r))), some (toB c.lo m (.lst (mixesOf lt (takenL r)))), some (toB m m2 (.lst (mixesOf lt (leftL r)))), some (.lst (intsL [cnt r 0, cnt r 1, cnt r 2])), some (.bool al), some (.lst (intsL (wgtL r))), none, none, none, none, none, none, none, none, none, none, none, none, none] none (lawSt 13) P := by
  refine r_assign 17 (e_comp (x := "k") (oc := true) (fvs := ["weights"]) (vals := [some (.lst (intsL (wgtL r)))]) ⟨by kernel_rfl, by kernel_rfl, by kernel_rfl, fun n acc => by kernel_rfl, fun h => by kernel_rfl, by kernel_rfl, by kernel_rfl, by decide +kernel, by kernel_rfl⟩ (.cons 16 rfl rfl .nil)
    (ie_range (e_bui (by kernel_rfl) (G.nob _ (by decide +kernel)) (by kernel_rfl) (by decide +kernel) rfl) e_int (by decide) (by decide) rfl rfl) (fun _ => true) (onInt fun kk => .int (sm r kk)) (Nat.le_of_ble_eq_true rfl) (fun p hp L' hE' w' => ?_) (fun _ => rfl) (l := intsL (smsL r)) (by unfold intsL smsL; rw [List.map_map]; exact map_rangeL _ 8)) ⟨rfl, .inr ⟨by kernel_rfl, by kernel_rfl⟩⟩ (.tail (.tail (.tail (.tail (.tail (.tail (.tail (.tail (.tail (.tail (.tail (.tail (.tail (.tail (.tail (.tail (.tail .head))))))))))))))))) rfl ?_
  · obtain ⟨kk, hk, rfl⟩ := mem_range hp
    refine ⟨ta_nil, fun _ => ?_⟩
    refine e_cb (by kernel_rfl) (G.nob _ (by decide +kernel)) (by kernel_rfl) (by decide +kernel) rfl (l_cons (Evals.eq (e_comp (x := "i") (oc := false) (fvs := ["weights", "k"]) (vals := [some (.lst (intsL (wgtL r))), some (.int (kk : Int))]) ⟨by kernel_rfl, by kernel_rfl, by kernel_rfl, fun n acc => by kernel_rfl, fun h => by kernel_rfl, by kernel_rfl, by kernel_rfl, by decide +kernel, by kernel_rfl⟩ (.cons 1 rfl rfl (.cons 0 rfl rfl .nil)) (ie_range (e_bui (by kernel_rfl) (G.nob _ (by decide +kernel)) (by kernel_rfl) (by decide +kernel) rfl) e_int (by decide) (by decide) rfl rfl) (onB (hasLamp r kk)) (onInt fun i => .int (abs' (wgt r i))) (Nat.le_of_ble_eq_true rfl) (fun p hp L' hE' w' => by
      obtain ⟨i, hi3, rfl⟩ := mem_range hp
      have hi3 : i < 3 := hi3
      exact ⟨ta_one (t_cmp (e_cmp (e_sub (e_var 1 rfl rfl rfl) (e_var 0 rfl rfl rfl) (o_item_list (by lia) (by lia) (wgtL_get hi3) (fun _ _ => rfl))) e_int o_gt_ii rfl) (e_cmp (e_bin (e_bin (e_var 2 rfl rfl rfl) (e_var 0 rfl rfl rfl) (o_shr_ii (by lia))) e_int o_and_ii) e_int o_eq_ii rfl) o_eq_bb rfl), fun _ => (e_cb (by kernel_rfl) (G.nob _ (by decide +kernel)) (by kernel_rfl) (by decide +kernel) rfl (l_cons (e_sub (e_var 1 rfl rfl rfl) (e_var 0 rfl rfl rfl) (o_item_list (by lia) (by lia) (wgtL_get hi3) (fun _ _ => rfl))) l_nil rfl) b_abs rfl (fun _ => ⟨_, _, rfl, rfl⟩) rfl)⟩) (fun _ => rfl) (pick_range' _ _ 3)) (congrArg PV.lst (show _ = intsL (smL r kk) by unfold intsL smL; rw [List.map_map]; rfl))) l_nil rfl) (b_sum (fit_small (fun x hx => ?_) ?_)) rfl (fun _ => ⟨_, _, rfl, rfl⟩) rfl
    · unfold smL at hx
      obtain ⟨i, _, rfl⟩ := List.mem_map.mp hx
      have := abs_le r i
      lia
    · have := smL_len r kk; lia
  · assumption
set_option maxHeartbeats 1000000 in
theorem law_f3 {ns : List Int} {c0 c1 c2 hi sy : Int} {r mk' m m2 p : Nat} {lt : Nat → Nat → PV} {al : Bool} {P : Out → Prop} (hn : Runs c (k + 1) (lF f L hE X0 fx dflt) [some (.lst (intsL ns)), some (.tup [.int 226, .int 75, .int 1234]), some (.str "0123456789ABCDEF"), some (.lst (intsL [c0, c1, c2])), some (.int hi), some (.int sy), some (.tup piecesPV), some (.str ⟨#[mk']⟩), some (.str "peer"), some (.int (r : Int)), some (.lst (natsL (takenL r))), some (.lst (natsL (leftL r))), some (toB c.lo m (.lst (mixesOf lt (takenL r)))), some (toB m m2 (.lst (mixesOf lt (leftL r)))), some (.lst (intsL [cnt r 0, cnt r 1, cnt r 2])), some (.bool al), some (.lst (intsL (wgtL r))), some (.lst (intsL (smsL r))), some (.int (bnd r)), none, none, none, none, none, none, none, none, none, none, none] none (lawSt 15) P) : Runs c (k + 1) (lF f L hE X0 fx dflt) [some (.lst (intsL ns)), some (.tup [.int 226, .int 75, .int 1234]), some (.str "0123456789ABCDEF"), some (.lst (intsL [c0, c1, c2])), some (.int hi), some (.int sy), some (.tup piecesPV), some (.str ⟨#[mk']⟩), some (.str "peer"), some (.int (r : Int)), some (.lst (natsL (takenL r))), some (.lst (natsL (leftL r))), some (toB c.lo m (.lst (mixesOf lt (takenL r)))), some (toB m m2 (.lst (mixesOf lt (leftL r)))), some (.lst (intsL [cnt r 0, cnt r 1, cnt r 2])), some (.bool al), some (.lst (intsL (wgtL r))), some (.lst (intsL (smsL r))), none, none, none, none, none, none, none, none, none, none, none, none] none (lawSt 14) P := by
  have hl : (natsL (takenL r)).length = (takenL r).length := List.length_map _
  have he : (natsL (takenL r)).isEmpty = (takenL r).isEmpty := by unfold natsL; cases takenL r <;> rfl
  have tl := taken_len r
  have big : 100 ≤ sizeLine := Nat.le_of_ble_eq_true rfl
  refine r_assign 18 (e_ite (t_plain (e_var 10 rfl rfl rfl) (tr_lst (by rw [hl]; lia)) (fun _ => rfl)) (fun h => ?_) (fun h => ?_) (p := .int (bnd r))) ⟨rfl, .inr ⟨by kernel_rfl, by kernel_rfl⟩⟩ (.tail (.tail (.tail (.tail (.tail (.tail (.tail (.tail (.tail (.tail (.tail (.tail (.tail (.tail (.tail (.tail (.tail (.tail .head)))))))))))))))))) rfl ?_
  · rw [he] at h
    have hb : bnd r = minL (bndL r) := by unfold bnd; rw [if_neg (by simpa using h)]
    rw [hb]
    refine e_cb (by kernel_rfl) (G.nob _ (by decide +kernel)) (by kernel_rfl) (by decide +kernel) rfl (l_cons (Evals.eq (e_comp (x := "k") (oc := false) (fvs := ["sums"]) (vals := [some (.lst (intsL (smsL r)))]) ⟨by kernel_rfl, by kernel_rfl, by kernel_rfl, fun n acc => by kernel_rfl, fun h => by kernel_rfl, by kernel_rfl, by kernel_rfl, by decide +kernel, by kernel_rfl⟩ (.cons 17 rfl rfl .nil) (ie_list (e_var 10 rfl rfl rfl)) (fun _ => true) (onInt fun kk => .int (sm r kk)) (by rw [hl]; lia) (fun p hp L' hE' w' => by
      obtain ⟨kk, hk, rfl⟩ := mem_natsL hp
      exact ⟨ta_nil, fun _ => e_sub (e_var 1 rfl rfl rfl) (e_var 0 rfl rfl rfl) (o_item_list (by lia) (by have := taken_lt r kk hk; lia) (smsL_get (taken_lt r kk hk)) (fun _ _ => rfl))⟩) (fun _ => rfl) rfl) (congrArg PV.lst (show _ = intsL (bndL r) by rw [map_natsL]; unfold intsL bndL; rw [List.map_map]; rfl))) l_nil rfl) (b_minL ?_) rfl (fun _ => ⟨_, _, rfl, rfl⟩) rfl
    intro q
    unfold bndL at q
    rw [List.map_eq_nil_iff.mp q] at h
    cases h
  · rw [he] at h
    have hb : bnd r = maxL (smsL r) + 1 := by unfold bnd; rw [if_pos (by simpa using h)]
    rw [hb]
    exact e_bin (e_cb (by kernel_rfl) (G.nob _ (by decide +kernel)) (by kernel_rfl) (by decide +kernel) rfl (l_cons (e_var 17 rfl rfl rfl) l_nil rfl) (b_maxL (by unfold smsL; simp)) rfl (fun _ => ⟨_, _, rfl, rfl⟩) rfl) e_int o_add_ii
  · assumption
set_option maxHeartbeats 2000000 in
theorem law_f4 {ns : List Int} {c0 c1 c2 hi sy : Int} {r mk' m m2 p : Nat} {lt : Nat → Nat → PV} {al : Bool} {P : Out → Prop} (hp5 : ∀ kk : Nat, kk < 8 → (c2 + (kk : Int)).fmod 5 = (((p + kk) % 5 : Nat) : Int)) (hn : Runs c (k + 1) (lF f L hE X0 fx dflt) [some (.lst (intsL ns)), some (.tup [.int 226, .int 75, .int 1234]), some (.str "0123456789ABCDEF"), some (.lst (intsL [c0, c1, c2])), some (.int hi), some (.int sy), some (.tup piecesPV), some (.str ⟨#[mk']⟩), some (.str "peer"), some (.int (r : Int)), some (.lst (natsL (takenL r))), some (.lst (natsL (leftL r))), some (toB c.lo m (.lst (mixesOf lt (takenL r)))), some (toB m m2 (.lst (mixesOf lt (leftL r)))), some (.lst (intsL [cnt r 0, cnt r 1, cnt r 2])), some (.bool al), some (.lst (intsL (wgtL r))), some (.lst (intsL (smsL r))), some (.int (bnd r)), some (.lst (txts (rowsL r p))), none, none, none, none, none, none, none, none, none, none] none (lawSt 16) P) : Runs c (k + 1) (lF f L hE X0 fx dflt) [some (.lst (intsL ns)), some (.tup [.int 226, .int 75, .int 1234]), some (.str "0123456789ABCDEF"), some (.lst (intsL [c0, c1, c2])), some (.int hi), some (.int sy), some (.tup piecesPV), some (.str ⟨#[mk']⟩), some (.str "peer"), some (.int (r : Int)), some (.lst (natsL (takenL r))), some (.lst (natsL (leftL r))), some (toB c.lo m (.lst (mixesOf lt (takenL r)))), some (toB m m2 (.lst (mixesOf lt (leftL r)))), some (.lst (intsL [cnt r 0, cnt r 1, cnt r 2])), some (.bool al), some (.lst (intsL (wgtL r))), some (.lst (intsL (smsL r))), some (.int (bnd r)), none, none, none, none, none, none, none, none, none, none, none] none (lawSt 15) P := by
  have big : 10000 ≤ sizeLine := Nat.le_of_ble_eq_true rfl
  have b1 := (bnd_le r).1
  have b2 := (bnd_le r).2
  refine r_assign 19 (e_comp (x := "k") (oc := false) (fvs := ["pieces", "cells", "sums", "bound"]) (vals := [some (.tup piecesPV), some (.lst (intsL [c0, c1, c2])), some (.lst (intsL (smsL r))), some (.int (bnd r))]) ⟨by kernel_rfl, by kernel_rfl, by kernel_rfl, fun n acc => by kernel_rfl, fun h => by kernel_rfl, by kernel_rfl, by kernel_rfl, by decide +kernel, by kernel_rfl⟩ (.cons 6 rfl rfl (.cons 3 rfl rfl (.cons 17 rfl rfl (.cons 18 rfl rfl .nil))))
    (ie_range (e_bui (by kernel_rfl) (G.nob _ (by decide +kernel)) (by kernel_rfl) (by decide +kernel) rfl) e_int (by decide) (by decide) rfl rfl) (fun _ => true) (onInt fun kk => .str (mk (rowC r p kk))) (Nat.le_of_ble_eq_true rfl) (fun p' hp L' hE' w' => ?_) (fun _ => rfl) (l := txts (rowsL r p)) (by unfold txts rowsL; rw [List.map_map]; exact map_rangeL _ 8)) ⟨rfl, .inr ⟨by kernel_rfl, by kernel_rfl⟩⟩ (.tail (.tail (.tail (.tail (.tail (.tail (.tail (.tail (.tail (.tail (.tail (.tail (.tail (.tail (.tail (.tail (.tail (.tail (.tail .head))))))))))))))))))) rfl ?_
  · obtain ⟨kk, hk8, rfl⟩ := mem_range hp
    have hk8 : kk < 8 := hk8
    have s1 := (sm_le r kk).1
    have s2 := (sm_le r kk).2
    have pl := pieceC_len ((p + kk) % 5)
    exact ⟨ta_nil, fun _ => (Evals.eq (e_bin (Evals.eq (e_bin (Evals.eq (e_bin (Evals.eq (e_bin (e_sub (e_var 1 rfl rfl rfl) (Evals.eq (e_bin (e_bin (e_sub (e_var 2 rfl rfl rfl) e_int (o_item_list (by lia) (by lia) (show _ = some (PV.int c2) from rfl) (fun _ _ => rfl))) (e_var 0 rfl rfl rfl) o_add_ii) e_int (o_mod_ii (by decide))) (congrArg PV.int (hp5 kk hk8))) (o_item_tup (n := (p + kk) % 5) (by lia) (by lia) (by rw [show piecesPV.length = 5 from rfl]; unfold seqIndex?; simp; lia) (piece_get (Nat.mod_lt _ (by decide))) (fun _ _ => rfl))) (Evals.eq (e_bin e_str (e_sub (e_var 3 rfl rfl rfl) (e_var 0 rfl rfl rfl) (o_item_list (by lia) (by lia) (smsL_get hk8) (fun _ _ => rfl))) (o_mul_si (mul_ok (by show 1 ≤ 100; decide) ⟨s1, by lia⟩))) (congrArg PV.str (mul1 _ _))) (o_add_ss (by rw [mk_len, mk_len]; simp only [List.length_append, List.length_replicate]; lia))) (congrArg PV.str (mk_app _ _))) (Evals.eq (e_bin e_str (e_var 4 rfl rfl rfl) (o_mul_si (mul_ok (by show 1 ≤ 100; decide) ⟨b1, by lia⟩))) (congrArg PV.str (mul1 _ _))) (o_add_ss (by rw [mk_len, mk_len]; simp only [List.length_append, List.length_replicate]; lia))) (congrArg PV.str (mk_app _ _))) (Evals.eq (e_bin e_str (e_var 4 rfl rfl rfl) (o_mul_si (mul_ok (by show 1 ≤ 100; decide) ⟨b1, by lia⟩))) (congrArg PV.str (mul1 _ _))) (o_add_ss (by rw [mk_len, mk_len]; simp only [List.length_append, List.length_replicate]; lia))) (congrArg PV.str (mk_app _ _))) (Evals.eq (e_bin e_str (e_sub (e_var 3 rfl rfl rfl) (e_var 0 rfl rfl rfl) (o_item_list (by lia) (by lia) (smsL_get hk8) (fun _ _ => rfl))) (o_mul_si (mul_ok (by show 1 ≤ 100; decide) ⟨s1, by lia⟩))) (congrArg PV.str (mul1 _ _))) (o_add_ss (by rw [mk_len, mk_len]; simp only [List.length_append, List.length_replicate]; lia))) (congrArg PV.str (mk_app _ _)))⟩
  · assumption
end
end Mine
namespace Mine
open PySem PySem.W PyProof.Rows

noncomputable def eolC (e : Nat) : List Nat := if e = 0 then [10] else [13, 10]
noncomputable def letterS (r p : Nat) : Str := Builtin.Str.glued "\n" (eqHex r :: rowsL r p)
theorem rowsL_len (r p : Nat) : (rowsL r p).length = 8 := by unfold rowsL; rw [List.length_map]; rfl
theorem txts_len (l : List Str) : (txts l).length = l.length := List.length_map _
theorem pvEq_txts : ∀ l m : List Str, pvEqs (txts l) (txts m) = (l == m)
  | [], [] => rfl
  | [], b :: m => rfl
  | a :: l, [] => rfl
  | a :: l, b :: m => by
    show ((a == b) && pvEqs (txts l) (txts m)) = _
    rw [pvEq_txts l m]; rfl
theorem eqOk_txts : ∀ l m : List Str, eqOks (txts l) (txts m) = true
  | [], [] => rfl
  | [], b :: m => rfl
  | a :: l, [] => rfl
  | a :: l, b :: m => by
    show (true && eqOks (txts l) (txts m)) = _
    rw [eqOk_txts l m]; rfl
theorem dep_txts : ∀ l : List Str, pvDeps (txts l) = 0
  | [] => rfl
  | a :: l => by
    show max 0 (pvDeps (txts l)) = 0
    rw [dep_txts l]; rfl
theorem both_len (r p : Nat) : ([PV.str (eqHex r)] : List PV).length + (txts (rowsL r p)).length ≤ sizeLine := by
  rw [txts_len, rowsL_len]; exact Nat.le_of_ble_eq_true rfl
noncomputable def onS (f : Str → PV) : PV → PV
  | .str x => f x
  | p => p
theorem map_txts (f : Str → PV) (l : List Str) : ((txts l).filter fun _ => true).map (onS f) = l.map f := by
  unfold txts
  rw [List.filter_eq_self.mpr (fun _ _ => rfl), List.map_map]
  rfl
theorem mem_txts {l : List Str} {p : PV} (h : p ∈ txts l) : ∃ x ∈ l, p = .str x := by
  obtain ⟨x, hx, rfl⟩ := List.mem_map.mp h
  exact ⟨x, hx, rfl⟩
theorem slice_txts1 (x : Str) (l : List Str) (h : (x :: l).length ≤ 100) : sliceL (txts (x :: l)) (some 1) none none = txts l := by
  rw [sliceL_from _ 1 1 rfl (by rw [txts_len]; simp)]
  rfl
theorem escQ_le2 : ∀ l : List Nat, (escQ l).length ≤ 2 * l.length
  | [] => Nat.le_refl _
  | n :: l => by
    have := escQ_le2 l
    rw [escQ_cons, List.length_append, List.length_cons]
    split <;> simp <;> lia
theorem fig_at {d : Nat} (h : d < 16) : (seqIndex? ((d : Nat) : Int) (Str.ofString "0123456789ABCDEF").length).bind ((Str.ofString "0123456789ABCDEF").cps[·]?) = some (hexUp d) := by
  have t : (List.range 16).all (fun d => decide ((seqIndex? ((d : Nat) : Int) (Str.ofString "0123456789ABCDEF").length).bind ((Str.ofString "0123456789ABCDEF").cps[·]?) = some (hexUp d))) = true := by decide +kernel
  exact of_decide_eq_true (List.all_eq_true.mp t d (List.mem_range.mpr h))
section
variable {c : Cx} {k : Nat} (G : Glob c) {f L : Addr} {hE : Heap} {X0 : List Addr} {fx : FX} {dflt : Value}
include G
set_option maxHeartbeats 1000000 in
theorem law_g1 {ns : List Int} {c0 c1 c2 hi sy : Int} {r mk' m m2 p wd e : Nat} {lt : Nat → Nat → PV} {al : Bool} {bl : List Nat} {P : Out → Prop} {fq : Addr} (Nq : FnName c "quote" fq) (Dq : DefAt c 24 fq) (Q : GConst c "_QUOPRI_MAP" (.lst qmapL)) (hr2 : r < 256) (hw : 4 + (c2.fdiv 5).fmod 40 = (wd : Int)) (he : (c2.fdiv 200).fmod 2 = (e : Int)) (he2 : e < 2)
    (hn : Runs c (k + 1) (lF f L hE X0 fx dflt) [some (.lst (intsL ns)), some (.tup [.int 226, .int 75, .int 1234]), some (.str "0123456789ABCDEF"), some (.lst (intsL [c0, c1, c2])), some (.int hi), some (.int sy), some (.tup piecesPV), some (.str ⟨#[mk']⟩), some (.str "peer"), some (.int (r : Int)), some (.lst (natsL (takenL r))), some (.lst (natsL (leftL r))), some (toB c.lo m (.lst (mixesOf lt (takenL r)))), some (toB m m2 (.lst (mixesOf lt (leftL r)))), some (.lst (intsL [cnt r 0, cnt r 1, cnt r 2])), some (.bool al), some (.lst (intsL (wgtL r))), some (.lst (intsL (smsL r))), some (.int (bnd r)), some (.lst (txts (rowsL r p))), some (.str (eqHex r)), some (.int (wd : Int)), some (.str (mk (eolC e))), none, none, none, none, none, none, none] none (lawSt 17) P) : Runs c (k + 1) (lF f L hE X0 fx dflt) [some (.lst (intsL ns)), some (.tup [.int 226, .int 75, .int 1234]), some (.str "0123456789ABCDEF"), some (.lst (intsL [c0, c1, c2])), some (.int hi), some (.int sy), some (.tup piecesPV), some (.str ⟨#[mk']⟩), some (.str "peer"), some (.int (r : Int)), some (.lst (natsL (takenL r))), some (.lst (natsL (leftL r))), some (toB c.lo m (.lst (mixesOf lt (takenL r)))), some (toB m m2 (.lst (mixesOf lt (leftL r)))), some (.lst (intsL [cnt r 0, cnt r 1, cnt r 2])), some (.bool al), some (.lst (intsL (wgtL r))), some (.lst (intsL (smsL r))), some (.int (bnd r)), some (.lst (txts (rowsL r p))), none, none, none, none, none, none, none, none, none, none] none (lawSt 16) P := by
  have hitem : ∃ n, seqIndex? ((c2.fdiv 200).fmod 2) ([.str "\n", .str "\r\n"] : List PV).length = some n ∧ ([.str "\n", .str "\r\n"] : List PV)[n]? = some (.str (mk (eolC e))) := by
    rw [he]
    match e, he2 with
    | 0, _ => exact ⟨0, rfl, rfl⟩
    | 1, _ => exact ⟨1, rfl, rfl⟩
  obtain ⟨n, i1, i2⟩ := hitem
  refine r_unpack (p := .tup [.str (eqHex r), .int (wd : Int), .str (mk (eolC e))]) (e_tup (l_cons (e_cf Nq (by kernel_rfl) rfl (l_cons (Evals.eq (e_cb (by kernel_rfl) (G.nob _ (by decide +kernel)) (by kernel_rfl) (by decide +kernel) rfl (l_cons (e_var 9 rfl rfl rfl) l_nil rfl) (b_chr (by simp; lia)) rfl (fun _ => ⟨_, _, rfl, rfl⟩) rfl) (congrArg PV.str (show _ = (⟨#[r]⟩ : Str) by rfl))) l_nil rfl) (fn_quote G Q hr2 Dq) rfl (fun _ => ⟨_, _, rfl, rfl⟩) rfl) (l_cons (Evals.eq (e_bin e_int (e_bin (e_bin (e_sub (e_var 3 rfl rfl rfl) e_int (o_item_list (by lia) (by lia) (show _ = some (PV.int c2) from rfl) (fun _ _ => rfl))) e_int (o_fdiv_ii (by decide) (by decide))) e_int (o_mod_ii (by decide))) o_add_ii) (congrArg PV.int hw)) (l_cons (e_sub (e_tup (l_cons e_str (l_cons e_str l_nil rfl) rfl) (Nat.le_of_ble_eq_true rfl)) (e_bin (e_bin (e_sub (e_var 3 rfl rfl rfl) e_int (o_item_list (by lia) (by lia) (show _ = some (PV.int c2) from rfl) (fun _ _ => rfl))) e_int (o_fdiv_ii (by decide) (by decide))) e_int (o_mod_ii (by decide))) (o_item_tup (n := n) (by rw [he]; lia) (by rw [he]; lia) i1 i2 (fun _ _ => rfl))) l_nil rfl) rfl) rfl) (Nat.le_of_ble_eq_true rfl)) (asg_tup Pack.tup (.cons (asg_name 20 ⟨rfl, .inl (by kernel_rfl)⟩ (.tail (.tail (.tail (.tail (.tail (.tail (.tail (.tail (.tail (.tail (.tail (.tail (.tail (.tail (.tail (.tail (.tail (.tail (.tail (.tail .head))))))))))))))))))))) rfl (.cons (asg_name 21 ⟨rfl, .inr ⟨by kernel_rfl, by kernel_rfl⟩⟩ (.tail (.tail (.tail (.tail (.tail (.tail (.tail (.tail (.tail (.tail (.tail (.tail (.tail (.tail (.tail (.tail (.tail (.tail (.tail (.tail (.tail .head)))))))))))))))))))))) rfl (.cons (asg_name 22 ⟨rfl, .inr ⟨by kernel_rfl, by kernel_rfl⟩⟩ (.tail (.tail (.tail (.tail (.tail (.tail (.tail (.tail (.tail (.tail (.tail (.tail (.tail (.tail (.tail (.tail (.tail (.tail (.tail (.tail (.tail (.tail .head))))))))))))))))))))))) rfl .nil)))) rfl (by kernel_rfl) ?_
  assumption
set_option maxHeartbeats 1000000 in
theorem law_g2 {ns : List Int} {c0 c1 c2 hi sy : Int} {r mk' m m2 p wd e : Nat} {lt : Nat → Nat → PV} {al : Bool} {bl : List Nat} {P : Out → Prop} {fb : Addr} (Nb : FnName c "body_encode" fb) (HB : Fn c (k + 1) fb [.str (letterS r p), .int (wd : Int), .str (mk (eolC e))] (.str (mk bl)))
    (htl : Builtin.Str.tooLong ((eqHex r :: rowsL r p).toArray.foldl (· + ·.length + ("\n" : Str).length) 0) = false) (hgl : (letterS r p).length ≤ sizeLine)
    (hn : Runs c (k + 1) (lF f L hE X0 fx dflt) [some (.lst (intsL ns)), some (.tup [.int 226, .int 75, .int 1234]), some (.str "0123456789ABCDEF"), some (.lst (intsL [c0, c1, c2])), some (.int hi), some (.int sy), some (.tup piecesPV), some (.str ⟨#[mk']⟩), some (.str "peer"), some (.int (r : Int)), some (.lst (natsL (takenL r))), some (.lst (natsL (leftL r))), some (toB c.lo m (.lst (mixesOf lt (takenL r)))), some (toB m m2 (.lst (mixesOf lt (leftL r)))), some (.lst (intsL [cnt r 0, cnt r 1, cnt r 2])), some (.bool al), some (.lst (intsL (wgtL r))), some (.lst (intsL (smsL r))), some (.int (bnd r)), some (.lst (txts (rowsL r p))), some (.str (eqHex r)), some (.int (wd : Int)), some (.str (mk (eolC e))), some (.str (mk bl)), none, none, none, none, none, none] none (lawSt 18) P) : Runs c (k + 1) (lF f L hE X0 fx dflt) [some (.lst (intsL ns)), some (.tup [.int 226, .int 75, .int 1234]), some (.str "0123456789ABCDEF"), some (.lst (intsL [c0, c1, c2])), some (.int hi), some (.int sy), some (.tup piecesPV), some (.str ⟨#[mk']⟩), some (.str "peer"), some (.int (r : Int)), some (.lst (natsL (takenL r))), some (.lst (natsL (leftL r))), some (toB c.lo m (.lst (mixesOf lt (takenL r)))), some (toB m m2 (.lst (mixesOf lt (leftL r)))), some (.lst (intsL [cnt r 0, cnt r 1, cnt r 2])), some (.bool al), some (.lst (intsL (wgtL r))), some (.lst (intsL (smsL r))), some (.int (bnd r)), some (.lst (txts (rowsL r p))), some (.str (eqHex r)), some (.int (wd : Int)), some (.str (mk (eolC e))), none, none, none, none, none, none, none] none (lawSt 17) P := by
  have big : 100 ≤ sizeLine := Nat.le_of_ble_eq_true rfl
  refine r_assign 23 (e_cf Nb (by kernel_rfl) rfl (l_cons (by
    with_reducible refine e_smeth (x := "\n") (ps := [.lst (txts (eqHex r :: rowsL r p))]) PySem.F.slot_str_join PySem.F.type_str_join ?_ ?_ ?_ ?_ ?_ ?_ ?_ ?_
    · exact e_str
    · exact l_cons (Evals.eq (e_bin (e_lst (l_cons (e_var 20 rfl rfl rfl) l_nil rfl) (Nat.le_of_ble_eq_true rfl)) (e_var 19 rfl rfl rfl) (o_add_ll (l := [.str (eqHex r)]) (m := txts (rowsL r p)) (both_len r p))) (congrArg PV.lst (show _ = txts (eqHex r :: rowsL r p) from rfl))) l_nil rfl
    · exact m_join (sep := "\n") (xs := eqHex r :: rowsL r p) htl hgl
    · rfl
    · rfl
    · rfl
    · exact fun _ => ⟨_, _, rfl, rfl⟩
    · rfl) (l_cons (e_var 21 rfl rfl rfl) (l_cons (e_var 22 rfl rfl rfl) l_nil rfl) rfl) rfl) HB rfl (fun _ => ⟨_, _, rfl, rfl⟩) rfl) ⟨rfl, .inl (by kernel_rfl)⟩ (.tail (.tail (.tail (.tail (.tail (.tail (.tail (.tail (.tail (.tail (.tail (.tail (.tail (.tail (.tail (.tail (.tail (.tail (.tail (.tail (.tail (.tail (.tail .head))))))))))))))))))))))) rfl ?_
  assumption
set_option maxHeartbeats 1000000 in
theorem law_g3 {ns : List Int} {c0 c1 c2 hi sy : Int} {r mk' m m2 p wd e : Nat} {lt : Nat → Nat → PV} {al : Bool} {bl : List Nat} {P : Out → Prop} {fp : Addr} (Np : FnName c "parse257" fp) (Dp : DefAt c 40 fp) (hsz : bl.length ≤ 20000) (hrep : Txt.replace (mk bl) "\"" "\"\"" = mk (escQ bl))
    (hn : Runs c (k + 1) (lF f L hE X0 fx dflt) [some (.lst (intsL ns)), some (.tup [.int 226, .int 75, .int 1234]), some (.str "0123456789ABCDEF"), some (.lst (intsL [c0, c1, c2])), some (.int hi), some (.int sy), some (.tup piecesPV), some (.str ⟨#[mk']⟩), some (.str "peer"), some (.int (r : Int)), some (.lst (natsL (takenL r))), some (.lst (natsL (leftL r))), some (toB c.lo m (.lst (mixesOf lt (takenL r)))), some (toB m m2 (.lst (mixesOf lt (leftL r)))), some (.lst (intsL [cnt r 0, cnt r 1, cnt r 2])), some (.bool al), some (.lst (intsL (wgtL r))), some (.lst (intsL (smsL r))), some (.int (bnd r)), some (.lst (txts (rowsL r p))), some (.str (eqHex r)), some (.int (wd : Int)), some (.str (mk (eolC e))), some (.str (mk bl)), some (.str (mk bl)), none, none, none, none, none] none (lawSt 19) P) : Runs c (k + 1) (lF f L hE X0 fx dflt) [some (.lst (intsL ns)), some (.tup [.int 226, .int 75, .int 1234]), some (.str "0123456789ABCDEF"), some (.lst (intsL [c0, c1, c2])), some (.int hi), some (.int sy), some (.tup piecesPV), some (.str ⟨#[mk']⟩), some (.str "peer"), some (.int (r : Int)), some (.lst (natsL (takenL r))), some (.lst (natsL (leftL r))), some (toB c.lo m (.lst (mixesOf lt (takenL r)))), some (toB m m2 (.lst (mixesOf lt (leftL r)))), some (.lst (intsL [cnt r 0, cnt r 1, cnt r 2])), some (.bool al), some (.lst (intsL (wgtL r))), some (.lst (intsL (smsL r))), some (.int (bnd r)), some (.lst (txts (rowsL r p))), some (.str (eqHex r)), some (.int (wd : Int)), some (.str (mk (eolC e))), some (.str (mk bl)), none, none, none, none, none, none] none (lawSt 18) P := by
  have big : 100000 ≤ sizeLine := Nat.le_of_ble_eq_true rfl
  have hq := escQ_le2 bl
  refine r_assign 24 (e_cf Np (by kernel_rfl) rfl (l_cons (Evals.eq (e_bin (Evals.eq (e_bin e_str (Evals.eq (e_replace (e_var 23 rfl rfl rfl) rfl (by rw [mk_len]; show _ + _ * 2 ≤ _; lia) rfl rfl rfl) (congrArg PV.str hrep)) (o_add_ss (by rw [mk_len (escQ bl)]; show 5 + _ ≤ _; lia))) (congrArg PV.str (show _ = mk ([50, 53, 55, 32, 34] ++ escQ bl) from mk_app _ _))) e_str (o_add_ss (by rw [mk_len, List.length_append]; show 5 + _ + 1 ≤ _; lia))) (congrArg PV.str (show _ = resp257 bl from mk_app _ [34]))) l_nil rfl) (fn_p257 G (by lia) Dp) rfl (fun _ => ⟨_, _, rfl, rfl⟩) rfl) ⟨rfl, .inl (by kernel_rfl)⟩ (.tail (.tail (.tail (.tail (.tail (.tail (.tail (.tail (.tail (.tail (.tail (.tail (.tail (.tail (.tail (.tail (.tail (.tail (.tail (.tail (.tail (.tail (.tail (.tail .head)))))))))))))))))))))))) rfl ?_
  assumption
set_option maxHeartbeats 1000000 in
theorem law_g4 {ns : List Int} {c0 c1 c2 hi sy : Int} {r mk' m m2 p wd e : Nat} {lt : Nat → Nat → PV} {al : Bool} {bl : List Nat} {P : Out → Prop} {fd : Addr} (Nd : FnName c "decode" fd) (HD : Fn c (k + 1) fd [.str (mk bl)] (.str (letterS r p))) (hgl : (letterS r p).length ≤ sizeLine) (hsp : splitS (letterS r p) "\n" = eqHex r :: rowsL r p)
    (hn : Runs c (k + 1) (lF f L hE X0 fx dflt) [some (.lst (intsL ns)), some (.tup [.int 226, .int 75, .int 1234]), some (.str "0123456789ABCDEF"), some (.lst (intsL [c0, c1, c2])), some (.int hi), some (.int sy), some (.tup piecesPV), some (.str ⟨#[mk']⟩), some (.str "peer"), some (.int (r : Int)), some (.lst (natsL (takenL r))), some (.lst (natsL (leftL r))), some (toB c.lo m (.lst (mixesOf lt (takenL r)))), some (toB m m2 (.lst (mixesOf lt (leftL r)))), some (.lst (intsL [cnt r 0, cnt r 1, cnt r 2])), some (.bool al), some (.lst (intsL (wgtL r))), some (.lst (intsL (smsL r))), some (.int (bnd r)), some (.lst (txts (rowsL r p))), some (.str (eqHex r)), some (.int (wd : Int)), some (.str (mk (eolC e))), some (.str (mk bl)), some (.str (mk bl)), some (.lst (txts (eqHex r :: rowsL r p))), none, none, none, none] none (lawSt 20) P) : Runs c (k + 1) (lF f L hE X0 fx dflt) [some (.lst (intsL ns)), some (.tup [.int 226, .int 75, .int 1234]), some (.str "0123456789ABCDEF"), some (.lst (intsL [c0, c1, c2])), some (.int hi), some (.int sy), some (.tup piecesPV), some (.str ⟨#[mk']⟩), some (.str "peer"), some (.int (r : Int)), some (.lst (natsL (takenL r))), some (.lst (natsL (leftL r))), some (toB c.lo m (.lst (mixesOf lt (takenL r)))), some (toB m m2 (.lst (mixesOf lt (leftL r)))), some (.lst (intsL [cnt r 0, cnt r 1, cnt r 2])), some (.bool al), some (.lst (intsL (wgtL r))), some (.lst (intsL (smsL r))), some (.int (bnd r)), some (.lst (txts (rowsL r p))), some (.str (eqHex r)), some (.int (wd : Int)), some (.str (mk (eolC e))), some (.str (mk bl)), some (.str (mk bl)), none, none, none, none, none] none (lawSt 19) P := by
  have big : 100 ≤ sizeLine := Nat.le_of_ble_eq_true rfl
  refine r_assign 25 (Evals.eq (e_smeth PySem.F.slot_str_split PySem.F.type_str_split (e_cf Nd (by kernel_rfl) rfl (l_cons (e_var 24 rfl rfl rfl) l_nil rfl) HD rfl (fun _ => ⟨_, _, rfl, rfl⟩) rfl) (l_cons e_str l_nil rfl) (m_split rfl hgl (by rw [hsp]; show (rowsL r p).length + 1 ≤ _; rw [rowsL_len]; lia)) rfl rfl rfl (fun _ => ⟨_, _, rfl, rfl⟩) rfl) (congrArg (fun l => PV.lst (txts l)) hsp)) ⟨rfl, .inl (by kernel_rfl)⟩ (.tail (.tail (.tail (.tail (.tail (.tail (.tail (.tail (.tail (.tail (.tail (.tail (.tail (.tail (.tail (.tail (.tail (.tail (.tail (.tail (.tail (.tail (.tail (.tail (.tail .head))))))))))))))))))))))))) rfl ?_
  assumption
set_option maxHeartbeats 1000000 in
theorem law_g5 {ns : List Int} {c0 c1 c2 hi sy : Int} {r mk' m m2 p wd e : Nat} {lt : Nat → Nat → PV} {al : Bool} {bl : List Nat} {P : Out → Prop} (hr2 : r < 256) (hn : Runs c (k + 1) (lF f L hE X0 fx dflt) [some (.lst (intsL ns)), some (.tup [.int 226, .int 75, .int 1234]), some (.str "0123456789ABCDEF"), some (.lst (intsL [c0, c1, c2])), some (.int hi), some (.int sy), some (.tup piecesPV), some (.str ⟨#[mk']⟩), some (.str "peer"), some (.int (r : Int)), some (.lst (natsL (takenL r))), some (.lst (natsL (leftL r))), some (toB c.lo m (.lst (mixesOf lt (takenL r)))), some (toB m m2 (.lst (mixesOf lt (leftL r)))), some (.lst (intsL [cnt r 0, cnt r 1, cnt r 2])), some (.bool al), some (.lst (intsL (wgtL r))), some (.lst (intsL (smsL r))), some (.int (bnd r)), some (.lst (txts (rowsL r p))), some (.str (eqHex r)), some (.int (wd : Int)), some (.str (mk (eolC e))), some (.str (mk bl)), some (.str (mk bl)), some (.lst (txts (eqHex r :: rowsL r p))), none, none, none, none] none (lawSt 21) P) : Runs c (k + 1) (lF f L hE X0 fx dflt) [some (.lst (intsL ns)), some (.tup [.int 226, .int 75, .int 1234]), some (.str "0123456789ABCDEF"), some (.lst (intsL [c0, c1, c2])), some (.int hi), some (.int sy), some (.tup piecesPV), some (.str ⟨#[mk']⟩), some (.str "peer"), some (.int (r : Int)), some (.lst (natsL (takenL r))), some (.lst (natsL (leftL r))), some (toB c.lo m (.lst (mixesOf lt (takenL r)))), some (toB m m2 (.lst (mixesOf lt (leftL r)))), some (.lst (intsL [cnt r 0, cnt r 1, cnt r 2])), some (.bool al), some (.lst (intsL (wgtL r))), some (.lst (intsL (smsL r))), some (.int (bnd r)), some (.lst (txts (rowsL r p))), some (.str (eqHex r)), some (.int (wd : Int)), some (.str (mk (eolC e))), some (.str (mk bl)), some (.str (mk bl)), some (.lst (txts (eqHex r :: rowsL r p))), none, none, none, none] none (lawSt 20) P := by
  have big : 100 ≤ sizeLine := Nat.le_of_ble_eq_true rfl
  have fd16 : (r : Int).fdiv 16 = ((r / 16 : Nat) : Int) := by rw [Int.fdiv_eq_ediv_of_nonneg _ (by decide)]; rfl
  have fm16 : (r : Int).fmod 16 = ((r % 16 : Nat) : Int) := by rw [Int.fmod_eq_emod_of_nonneg _ (by decide)]; rfl
  have ha : (seqIndex? ((r : Int).fdiv 16) (Str.ofString "0123456789ABCDEF").length).bind ((Str.ofString "0123456789ABCDEF").cps[·]?) = some (hexUp (r / 16)) := by
    rw [fd16]; exact fig_at (by lia)
  have hb : (seqIndex? ((r : Int).fmod 16) (Str.ofString "0123456789ABCDEF").length).bind ((Str.ofString "0123456789ABCDEF").cps[·]?) = some (hexUp (r % 16)) := by
    rw [fm16]; exact fig_at (by lia)
  refine r_if_f (Tests.eq (t_or (b := false) (t_cmp (e_var 20 rfl rfl rfl) (e_bin (e_bin e_str (e_sub (e_var 2 rfl rfl rfl) (e_bin (e_var 9 rfl rfl rfl) e_int (o_fdiv_ii (by decide) (by decide))) (o_item_str (by rw [fd16]; simp; lia) ha (fun _ _ => rfl))) (o_add_ss (Nat.le_of_ble_eq_true rfl))) (e_sub (e_var 2 rfl rfl rfl) (e_bin (e_var 9 rfl rfl rfl) e_int (o_mod_ii (by decide))) (o_item_str (by rw [fm16]; simp; lia) hb (fun _ _ => rfl))) (o_add_ss (Nat.le_of_ble_eq_true rfl))) o_ne_ss rfl) fun _ => (Tests.eq (t_or (b := false) (t_cmp (e_var 25 rfl rfl rfl) (Evals.eq (e_bin (e_lst (l_cons (e_var 20 rfl rfl rfl) l_nil rfl) (Nat.le_of_ble_eq_true rfl)) (e_var 19 rfl rfl rfl) (o_add_ll (l := [.str (eqHex r)]) (m := txts (rowsL r p)) (both_len r p))) (congrArg PV.lst (show _ = txts (eqHex r :: rowsL r p) from rfl))) (o_ne_seq (.inl ⟨_, _, rfl, rfl⟩) (by simp only [eqOk]; exact eqOk_txts _ _) (by simp only [pvDep]; rw [dep_txts]; lia)) rfl) fun _ => t_or_nil) (by simp only [pvEq]; rw [pvEq_txts]; simp))) ?_) (r_nil ?_)
  · have : (eqHex r != Str.ofString "=" ++ ⟨#[hexUp (r / 16)]⟩ ++ ⟨#[hexUp (r % 16)]⟩) = false := by
      have : Str.ofString "=" ++ ⟨#[hexUp (r / 16)]⟩ ++ ⟨#[hexUp (r % 16)]⟩ = eqHex r := rfl
      rw [this]; simp
    rw [this]; rfl
  · assumption
set_option maxHeartbeats 1000000 in
theorem law_g6 {ns : List Int} {c0 c1 c2 hi sy : Int} {r mk' m m2 p wd e : Nat} {lt : Nat → Nat → PV} {al : Bool} {bl : List Nat} {P : Out → Prop} {fw : Addr} (Nw : FnName c "_law_written" fw) (HW : ∀ x ∈ eqHex r :: rowsL r p, Fn c (k + 1) fw [.str x, .int (wd : Int), .str (mk (eolC e))] (.str (mk (writ x.cps.toList wd (eolC e)))))
    (hgl : Builtin.Str.glued (mk (eolC e)) ((eqHex r :: rowsL r p).map fun x => mk (writ x.cps.toList wd (eolC e))) = mk bl) (hsz : bl.length ≤ 20000)
    (htl : Builtin.Str.tooLong (((eqHex r :: rowsL r p).map fun x => mk (writ x.cps.toList wd (eolC e))).toArray.foldl (· + ·.length + (mk (eolC e)).length) 0) = false)
    (hn : Runs c (k + 1) (lF f L hE X0 fx dflt) [some (.lst (intsL ns)), some (.tup [.int 226, .int 75, .int 1234]), some (.str "0123456789ABCDEF"), some (.lst (intsL [c0, c1, c2])), some (.int hi), some (.int sy), some (.tup piecesPV), some (.str ⟨#[mk']⟩), some (.str "peer"), some (.int (r : Int)), some (.lst (natsL (takenL r))), some (.lst (natsL (leftL r))), some (toB c.lo m (.lst (mixesOf lt (takenL r)))), some (toB m m2 (.lst (mixesOf lt (leftL r)))), some (.lst (intsL [cnt r 0, cnt r 1, cnt r 2])), some (.bool al), some (.lst (intsL (wgtL r))), some (.lst (intsL (smsL r))), some (.int (bnd r)), some (.lst (txts (rowsL r p))), some (.str (eqHex r)), some (.int (wd : Int)), some (.str (mk (eolC e))), some (.str (mk bl)), some (.str (mk bl)), some (.lst (txts (eqHex r :: rowsL r p))), none, none, none, none] none (lawSt 22) P) : Runs c (k + 1) (lF f L hE X0 fx dflt) [some (.lst (intsL ns)), some (.tup [.int 226, .int 75, .int 1234]), some (.str "0123456789ABCDEF"), some (.lst (intsL [c0, c1, c2])), some (.int hi), some (.int sy), some (.tup piecesPV), some (.str ⟨#[mk']⟩), some (.str "peer"), some (.int (r : Int)), some (.lst (natsL (takenL r))), some (.lst (natsL (leftL r))), some (toB c.lo m (.lst (mixesOf lt (takenL r)))), some (toB m m2 (.lst (mixesOf lt (leftL r)))), some (.lst (intsL [cnt r 0, cnt r 1, cnt r 2])), some (.bool al), some (.lst (intsL (wgtL r))), some (.lst (intsL (smsL r))), some (.int (bnd r)), some (.lst (txts (rowsL r p))), some (.str (eqHex r)), some (.int (wd : Int)), some (.str (mk (eolC e))), some (.str (mk bl)), some (.str (mk bl)), some (.lst (txts (eqHex r :: rowsL r p))), none, none, none, none] none (lawSt 21) P := by
  have big : 100000 ≤ sizeLine := Nat.le_of_ble_eq_true rfl
  refine r_if_f (Tests.eq (t_or (b := false) (t_cmp (e_var 24 rfl rfl rfl) (e_var 23 rfl rfl rfl) o_ne_ss rfl) fun _ => (Tests.eq (t_or (b := false) (t_cmp (e_var 23 rfl rfl rfl) (Evals.eq (e_smeth PySem.F.slot_str_join PySem.F.type_str_join (e_var 22 rfl rfl rfl) (l_cons (Evals.eq (e_comp (x := "row") (oc := false) (fvs := ["width", "eol"]) (vals := [some (.int (wd : Int)), some (.str (mk (eolC e)))]) ⟨by kernel_rfl, by kernel_rfl, by kernel_rfl, fun n acc => by kernel_rfl, fun h => by kernel_rfl, by kernel_rfl, by kernel_rfl, by decide +kernel, by kernel_rfl⟩ (.cons 21 rfl rfl (.cons 22 rfl rfl .nil)) (ie_list (Evals.eq (e_bin (e_lst (l_cons (e_var 20 rfl rfl rfl) l_nil rfl) (Nat.le_of_ble_eq_true rfl)) (e_var 19 rfl rfl rfl) (o_add_ll (l := [.str (eqHex r)]) (m := txts (rowsL r p)) (both_len r p))) (congrArg PV.lst (show _ = txts (eqHex r :: rowsL r p) from rfl)))) (fun _ => true) (onS fun x => .str (mk (writ x.cps.toList wd (eolC e)))) (by rw [txts_len]; show (rowsL r p).length + 1 ≤ _; rw [rowsL_len]; lia) (fun p' hp L' hE' w' => by
      obtain ⟨x, hx, rfl⟩ := mem_txts hp
      exact ⟨ta_nil, fun _ => (e_cf Nw (by kernel_rfl) rfl (l_cons (e_var 0 rfl rfl rfl) (l_cons (e_var 1 rfl rfl rfl) (l_cons (e_var 2 rfl rfl rfl) l_nil rfl) rfl) rfl) (HW x hx) rfl (fun _ => ⟨_, _, rfl, rfl⟩) rfl)⟩) (fun _ => rfl) rfl) (congrArg PV.lst (show _ = txts ((eqHex r :: rowsL r p).map fun x => mk (writ x.cps.toList wd (eolC e))) by rw [map_txts]; unfold txts; rw [List.map_map]; rfl))) l_nil rfl) (m_join (sep := mk (eolC e)) htl (by rw [hgl, mk_len]; lia)) rfl rfl rfl (fun _ => ⟨_, _, rfl, rfl⟩) rfl) (congrArg PV.str hgl)) o_ne_ss rfl) fun _ => t_or_nil) (by simp))) (by simp)) (r_nil ?_)
  assumption
end
end Mine
namespace Mine
open PySem PySem.W PyProof.Rows

noncomputable def handedL (r p : Nat) : List Str := rowsL r p ++ [Str.ofString "(" ++ eqHex r]
noncomputable def keptL (r p : Nat) : List Str := (handedL r p).map ppvT
noncomputable def rowAt (r p k : Nat) : Str := mk (rowC r p k)
noncomputable def keptAt (r p k : Nat) : Str := ppvT (rowAt r p k)
noncomputable def weighL (r p : Nat) : List Int := ((List.range 8).filter fun k => keptAt r p k == rowAt r p k).map fun k => 1 * 2 ^ k
noncomputable def weighS (r p : Nat) : Int := (weighL r p).sum
noncomputable def dueAt (r p k : Nat) : Str := if decide (bnd r ≤ sm r k) = true then rowAt r p k else Str.ofString "('', '')"
noncomputable def duesL (r p : Nat) : List Str := (List.range 8).map (dueAt r p) ++ [Str.ofString "('', '')"]
theorem handed_len (r p : Nat) : (handedL r p).length = 9 := by unfold handedL; rw [List.length_append, rowsL_len]; rfl
theorem row_get {r p k : Nat} (h : k < 8) : (txts (rowsL r p))[((k : Nat) : Int).toNat]? = some (.str (rowAt r p k)) := by
  rw [Int.toNat_natCast]
  unfold txts rowsL rowAt
  rw [List.getElem?_map, List.getElem?_map, List.getElem?_range h]
  rfl
theorem kept_get {r p k : Nat} (h : k < 8) : (txts (keptL r p))[((k : Nat) : Int).toNat]? = some (.str (keptAt r p k)) := by
  rw [Int.toNat_natCast]
  unfold txts keptL handedL keptAt
  rw [List.getElem?_map, List.getElem?_map, List.getElem?_append_left (by rw [rowsL_len]; exact h)]
  unfold rowsL rowAt
  rw [List.getElem?_map, List.getElem?_range h]
  rfl
section
variable {c : Cx} {k : Nat} (G : Glob c) {f L : Addr} {hE : Heap} {X0 : List Addr} {fx : FX} {dflt : Value}
include G
set_option maxHeartbeats 1000000 in
theorem law_h1 {ns : List Int} {c0 c1 c2 hi sy : Int} {r mk' m m2 p wd e : Nat} {lt : Nat → Nat → PV} {al : Bool} {bl : List Nat} {a0 b0 : Addr} {P : Out → Prop} (hn : ∀ a0 : Addr, Runs c (k + 1) (lF f L hE X0 fx dflt) [some (.lst (intsL ns)), some (.tup [.int 226, .int 75, .int 1234]), some (.str "0123456789ABCDEF"), some (.lst (intsL [c0, c1, c2])), some (.int hi), some (.int sy), some (.tup piecesPV), some (.str ⟨#[mk']⟩), some (.str "peer"), some (.int (r : Int)), some (.lst (natsL (takenL r))), some (.lst (natsL (leftL r))), some (toB c.lo m (.lst (mixesOf lt (takenL r)))), some (toB m m2 (.lst (mixesOf lt (leftL r)))), some (.lst (intsL [cnt r 0, cnt r 1, cnt r 2])), some (.bool al), some (.lst (intsL (wgtL r))), some (.lst (intsL (smsL r))), some (.int (bnd r)), some (.lst (txts (rowsL r p))), some (.str (eqHex r)), some (.int (wd : Int)), some (.str (mk (eolC e))), some (.str (mk bl)), some (.str (mk bl)), some (.lst (txts (eqHex r :: rowsL r p))), some (.lsa a0 (txts (handedL r p))), none, none, none] none (lawSt 23) P) : Runs c (k + 1) (lF f L hE X0 fx dflt) [some (.lst (intsL ns)), some (.tup [.int 226, .int 75, .int 1234]), some (.str "0123456789ABCDEF"), some (.lst (intsL [c0, c1, c2])), some (.int hi), some (.int sy), some (.tup piecesPV), some (.str ⟨#[mk']⟩), some (.str "peer"), some (.int (r : Int)), some (.lst (natsL (takenL r))), some (.lst (natsL (leftL r))), some (toB c.lo m (.lst (mixesOf lt (takenL r)))), some (toB m m2 (.lst (mixesOf lt (leftL r)))), some (.lst (intsL [cnt r 0, cnt r 1, cnt r 2])), some (.bool al), some (.lst (intsL (wgtL r))), some (.lst (intsL (smsL r))), some (.int (bnd r)), some (.lst (txts (rowsL r p))), some (.str (eqHex r)), some (.int (wd : Int)), some (.str (mk (eolC e))), some (.str (mk bl)), some (.str (mk bl)), some (.lst (txts (eqHex r :: rowsL r p))), none, none, none, none] none (lawSt 22) P := by
  have big : 100 ≤ sizeLine := Nat.le_of_ble_eq_true rfl
  refine r_assign 26 (Evals.eq (e_bin (Evals.eq (e_slice_list (e_var 25 rfl rfl rfl) (p_some e_int) p_none p_none (by decide) (by rw [txts_len, List.length_cons, rowsL_len]; lia)) (congrArg PV.lst (slice_txts1 _ _ (by rw [List.length_cons, rowsL_len]; decide)))) (e_lst (l_cons (e_bin e_str (e_sub (e_var 25 rfl rfl rfl) e_int (o_item_list (by lia) (by lia) (show _ = some (PV.str (eqHex r)) from rfl) (fun _ _ => rfl))) (o_add_ss (Nat.le_of_ble_eq_true rfl))) l_nil rfl) (Nat.le_of_ble_eq_true rfl)) (o_add_ll (l := txts (rowsL r p)) (m := [.str (Str.ofString "(" ++ eqHex r)]) (by rw [txts_len, rowsL_len]; show 8 + 1 ≤ _; lia))) (congrArg PV.lst (show _ = txts (handedL r p) by unfold handedL; rw [txts_snoc]))) ⟨rfl, .inl (by kernel_rfl)⟩ (.tail (.tail (.tail (.tail (.tail (.tail (.tail (.tail (.tail (.tail (.tail (.tail (.tail (.tail (.tail (.tail (.tail (.tail (.tail (.tail (.tail (.tail (.tail (.tail (.tail (.tail .head)))))))))))))))))))))))))) rfl ?_
  exact r_pin 26 rfl (fun a0 => hn a0) ⟨_, rfl⟩
set_option maxHeartbeats 1000000 in
theorem law_h2 {ns : List Int} {c0 c1 c2 hi sy : Int} {r mk' m m2 p wd e : Nat} {lt : Nat → Nat → PV} {al : Bool} {bl : List Nat} {a0 b0 : Addr} {P : Out → Prop} {fv : Addr} (Nv : FnName c "_pre_parse_validation" fv) (HV : FnNew c (k + 1) fv [.lst (txts (handedL r p))] (.lst (txts (keptL r p))))
    (hn : ∀ b0 : Addr, a0 ≠ b0 → Runs c (k + 1) (lF f L hE X0 fx dflt) [some (.lst (intsL ns)), some (.tup [.int 226, .int 75, .int 1234]), some (.str "0123456789ABCDEF"), some (.lst (intsL [c0, c1, c2])), some (.int hi), some (.int sy), some (.tup piecesPV), some (.str ⟨#[mk']⟩), some (.str "peer"), some (.int (r : Int)), some (.lst (natsL (takenL r))), some (.lst (natsL (leftL r))), some (toB c.lo m (.lst (mixesOf lt (takenL r)))), some (toB m m2 (.lst (mixesOf lt (leftL r)))), some (.lst (intsL [cnt r 0, cnt r 1, cnt r 2])), some (.bool al), some (.lst (intsL (wgtL r))), some (.lst (intsL (smsL r))), some (.int (bnd r)), some (.lst (txts (rowsL r p))), some (.str (eqHex r)), some (.int (wd : Int)), some (.str (mk (eolC e))), some (.str (mk bl)), some (.str (mk bl)), some (.lst (txts (eqHex r :: rowsL r p))), some (.lsa a0 (txts (handedL r p))), some (.lsa b0 (txts (keptL r p))), none, none] none (lawSt 24) P) : Runs c (k + 1) (lF f L hE X0 fx dflt) [some (.lst (intsL ns)), some (.tup [.int 226, .int 75, .int 1234]), some (.str "0123456789ABCDEF"), some (.lst (intsL [c0, c1, c2])), some (.int hi), some (.int sy), some (.tup piecesPV), some (.str ⟨#[mk']⟩), some (.str "peer"), some (.int (r : Int)), some (.lst (natsL (takenL r))), some (.lst (natsL (leftL r))), some (toB c.lo m (.lst (mixesOf lt (takenL r)))), some (toB m m2 (.lst (mixesOf lt (leftL r)))), some (.lst (intsL [cnt r 0, cnt r 1, cnt r 2])), some (.bool al), some (.lst (intsL (wgtL r))), some (.lst (intsL (smsL r))), some (.int (bnd r)), some (.lst (txts (rowsL r p))), some (.str (eqHex r)), some (.int (wd : Int)), some (.str (mk (eolC e))), some (.str (mk bl)), some (.str (mk bl)), some (.lst (txts (eqHex r :: rowsL r p))), some (.lsa a0 (txts (handedL r p))), none, none, none] none (lawSt 23) P := by
  refine r_assign_new 27 26 (l := txts (keptL r p)) (fun A s R rel Q hq => ?_) rfl ⟨_, rfl⟩ ⟨rfl, .inr ⟨by kernel_rfl, by kernel_rfl⟩⟩ rfl (fun b0 hab => hn b0 hab)
  obtain ⟨o, fd, h1, h2⟩ := Nv.obj
  refine call_then (e_glob (by kernel_rfl) Nv.glob rfl) (.inr (.inr ⟨fv, o, fd, rfl, h1, h2⟩)) (l_cons (e_unpin (e_var 26 rfl rfl rfl)) l_nil rfl) rfl (fun _ => ⟨_, _, rfl, rfl⟩) rfl R rel fun vs s₁ e₁ rvs => ?_
  exact HV A _ s₁ vs R (rel.ext e₁).base (rel.ext e₁).xok rvs Q fun v s₂ e₂ rv ⟨b, hb, hf⟩ => hq v s₂ (e₁.trans e₂) rv ⟨b, hb, keep_none e₁.keep hf⟩
set_option maxHeartbeats 1000000 in
theorem law_h3 {ns : List Int} {c0 c1 c2 hi sy : Int} {r mk' m m2 p wd e : Nat} {lt : Nat → Nat → PV} {al : Bool} {bl : List Nat} {a0 b0 : Addr} {P : Out → Prop} (hn : Runs c (k + 1) (lF f L hE X0 fx dflt) [some (.lst (intsL ns)), some (.tup [.int 226, .int 75, .int 1234]), some (.str "0123456789ABCDEF"), some (.lst (intsL [c0, c1, c2])), some (.int hi), some (.int sy), some (.tup piecesPV), some (.str ⟨#[mk']⟩), some (.str "peer"), some (.int (r : Int)), some (.lst (natsL (takenL r))), some (.lst (natsL (leftL r))), some (toB c.lo m (.lst (mixesOf lt (takenL r)))), some (toB m m2 (.lst (mixesOf lt (leftL r)))), some (.lst (intsL [cnt r 0, cnt r 1, cnt r 2])), some (.bool al), some (.lst (intsL (wgtL r))), some (.lst (intsL (smsL r))), some (.int (bnd r)), some (.lst (txts (rowsL r p))), some (.str (eqHex r)), some (.int (wd : Int)), some (.str (mk (eolC e))), some (.str (mk bl)), some (.str (mk bl)), some (.lst (txts (eqHex r :: rowsL r p))), some (.lsa a0 (txts (handedL r p))), some (.lsa b0 (txts (keptL r p))), some (.int (weighS r p)), none] none (lawSt 25) P) : Runs c (k + 1) (lF f L hE X0 fx dflt) [some (.lst (intsL ns)), some (.tup [.int 226, .int 75, .int 1234]), some (.str "0123456789ABCDEF"), some (.lst (intsL [c0, c1, c2])), some (.int hi), some (.int sy), some (.tup piecesPV), some (.str ⟨#[mk']⟩), some (.str "peer"), some (.int (r : Int)), some (.lst (natsL (takenL r))), some (.lst (natsL (leftL r))), some (toB c.lo m (.lst (mixesOf lt (takenL r)))), some (toB m m2 (.lst (mixesOf lt (leftL r)))), some (.lst (intsL [cnt r 0, cnt r 1, cnt r 2])), some (.bool al), some (.lst (intsL (wgtL r))), some (.lst (intsL (smsL r))), some (.int (bnd r)), some (.lst (txts (rowsL r p))), some (.str (eqHex r)), some (.int (wd : Int)), some (.str (mk (eolC e))), some (.str (mk bl)), some (.str (mk bl)), some (.lst (txts (eqHex r :: rowsL r p))), some (.lsa a0 (txts (handedL r p))), some (.lsa b0 (txts (keptL r p))), none, none] none (lawSt 24) P := by
  refine r_assign 28 (e_cb (by kernel_rfl) (G.nob _ (by decide +kernel)) (by kernel_rfl) (by decide +kernel) rfl (l_cons (Evals.eq (e_comp (x := "k") (oc := false) (fvs := ["kept", "rows"]) (vals := [some (.lsa b0 (txts (keptL r p))), some (.lst (txts (rowsL r p)))]) ⟨by kernel_rfl, by kernel_rfl, by kernel_rfl, fun n acc => by kernel_rfl, fun h => by kernel_rfl, by kernel_rfl, by kernel_rfl, by decide +kernel, by kernel_rfl⟩ (.cons 27 rfl rfl (.cons 19 rfl rfl .nil)) (ie_range (e_bui (by kernel_rfl) (G.nob _ (by decide +kernel)) (by kernel_rfl) (by decide +kernel) rfl) e_int (by decide) (by decide) rfl rfl) (onB fun kk => keptAt r p kk == rowAt r p kk) (onInt fun kk => .int (1 * 2 ^ kk)) (Nat.le_of_ble_eq_true rfl) (fun p' hp L' hE' w' => by
      obtain ⟨kk, hk8, rfl⟩ := mem_range hp
      have hk8 : kk < 8 := hk8
      exact ⟨ta_one (t_cmp (e_sub (e_unpin (e_var 1 rfl rfl rfl)) (e_var 0 rfl rfl rfl) (o_item_list (by lia) (by lia) (kept_get hk8) (fun _ _ => rfl))) (e_sub (e_var 2 rfl rfl rfl) (e_var 0 rfl rfl rfl) (o_item_list (by lia) (by lia) (row_get hk8) (fun _ _ => rfl))) o_eq_ss rfl), fun _ => Evals.eq (e_bin e_int (e_var 0 rfl rfl rfl) (o_shl_ii (by lia) (by lia) (by decide))) (congrArg PV.int (show (1 : Int) * 2 ^ (((kk : Nat) : Int).toNat) = 1 * 2 ^ kk by rw [Int.toNat_natCast]))⟩) (fun _ => rfl) (pick_range' _ _ 8)) (congrArg PV.lst (show _ = intsL (weighL r p) by unfold intsL weighL; rw [List.map_map]; rfl))) l_nil rfl) (b_sum (fit_small (fun x hx => ?_) ?_)) rfl (fun _ => ⟨_, _, rfl, rfl⟩) rfl) ⟨rfl, .inl (by kernel_rfl)⟩ (.tail (.tail (.tail (.tail (.tail (.tail (.tail (.tail (.tail (.tail (.tail (.tail (.tail (.tail (.tail (.tail (.tail (.tail (.tail (.tail (.tail (.tail (.tail (.tail (.tail (.tail (.tail (.tail .head)))))))))))))))))))))))))))) rfl hn
  · unfold weighL at hx
    obtain ⟨kk, hk, rfl⟩ := List.mem_map.mp hx
    have hk := List.mem_range.mp (List.mem_filter.mp hk).1
    match kk, hk with
    | 0, _ | 1, _ | 2, _ | 3, _ | 4, _ | 5, _ | 6, _ | 7, _ => decide
  · unfold weighL
    rw [List.length_map]
    have := List.length_filter_le (fun k => keptAt r p k == rowAt r p k) (List.range 8)
    rw [List.length_range] at this
    lia
set_option maxHeartbeats 1000000 in
theorem law_h4 {ns : List Int} {c0 c1 c2 hi sy : Int} {r mk' m m2 p wd e : Nat} {lt : Nat → Nat → PV} {al : Bool} {bl : List Nat} {a0 b0 : Addr} {P : Out → Prop} {fu : Addr} (Nu : FnName c "unquote" fu) (Du : DefAt c 23 fu) (hr2 : r < 256) (hwg : (weighS r p == (r : Int)) = al) (hn : Runs c (k + 1) (lF f L hE X0 fx dflt) [some (.lst (intsL ns)), some (.tup [.int 226, .int 75, .int 1234]), some (.str "0123456789ABCDEF"), some (.lst (intsL [c0, c1, c2])), some (.int hi), some (.int sy), some (.tup piecesPV), some (.str ⟨#[mk']⟩), some (.str "peer"), some (.int (r : Int)), some (.lst (natsL (takenL r))), some (.lst (natsL (leftL r))), some (toB c.lo m (.lst (mixesOf lt (takenL r)))), some (toB m m2 (.lst (mixesOf lt (leftL r)))), some (.lst (intsL [cnt r 0, cnt r 1, cnt r 2])), some (.bool al), some (.lst (intsL (wgtL r))), some (.lst (intsL (smsL r))), some (.int (bnd r)), some (.lst (txts (rowsL r p))), some (.str (eqHex r)), some (.int (wd : Int)), some (.str (mk (eolC e))), some (.str (mk bl)), some (.str (mk bl)), some (.lst (txts (eqHex r :: rowsL r p))), some (.lsa a0 (txts (handedL r p))), some (.lsa b0 (txts (keptL r p))), some (.int (weighS r p)), none] none (lawSt 26) P) : Runs c (k + 1) (lF f L hE X0 fx dflt) [some (.lst (intsL ns)), some (.tup [.int 226, .int 75, .int 1234]), some (.str "0123456789ABCDEF"), some (.lst (intsL [c0, c1, c2])), some (.int hi), some (.int sy), some (.tup piecesPV), some (.str ⟨#[mk']⟩), some (.str "peer"), some (.int (r : Int)), some (.lst (natsL (takenL r))), some (.lst (natsL (leftL r))), some (toB c.lo m (.lst (mixesOf lt (takenL r)))), some (toB m m2 (.lst (mixesOf lt (leftL r)))), some (.lst (intsL [cnt r 0, cnt r 1, cnt r 2])), some (.bool al), some (.lst (intsL (wgtL r))), some (.lst (intsL (smsL r))), some (.int (bnd r)), some (.lst (txts (rowsL r p))), some (.str (eqHex r)), some (.int (wd : Int)), some (.str (mk (eolC e))), some (.str (mk bl)), some (.str (mk bl)), some (.lst (txts (eqHex r :: rowsL r p))), some (.lsa a0 (txts (handedL r p))), some (.lsa b0 (txts (keptL r p))), some (.int (weighS r p)), none] none (lawSt 25) P := by
  refine r_if_f (Tests.eq (t_or (b := false) (t_cmp (e_cmp (e_var 28 rfl rfl rfl) (e_var 9 rfl rfl rfl) o_eq_ii rfl) (e_var 15 rfl rfl rfl) o_isnot_bb rfl) fun _ => (Tests.eq (t_or (b := false) (t_cmp (e_cf Nu (by kernel_rfl) rfl (l_cons (e_sub (e_var 25 rfl rfl rfl) e_int (o_item_list (by lia) (by lia) (show _ = some (PV.str (eqHex r)) from rfl) (fun _ _ => rfl))) l_nil rfl) (fn_unquote G hr2 Du) rfl (fun _ => ⟨_, _, rfl, rfl⟩) rfl) (e_cb (by kernel_rfl) (G.nob _ (by decide +kernel)) (by kernel_rfl) (by decide +kernel) rfl (l_cons (e_var 9 rfl rfl rfl) l_nil rfl) (b_chr (by simp; lia)) rfl (fun _ => ⟨_, _, rfl, rfl⟩) rfl) o_ne_ss rfl) fun _ => t_or_nil) (by simp))) (by rw [hwg]; simp)) (r_nil ?_)
  assumption
set_option maxHeartbeats 1000000 in
theorem law_h5 {ns : List Int} {c0 c1 c2 hi sy : Int} {r mk' m m2 p wd e : Nat} {lt : Nat → Nat → PV} {al : Bool} {bl : List Nat} {a0 b0 : Addr} {P : Out → Prop} (hn : Runs c (k + 1) (lF f L hE X0 fx dflt) [some (.lst (intsL ns)), some (.tup [.int 226, .int 75, .int 1234]), some (.str "0123456789ABCDEF"), some (.lst (intsL [c0, c1, c2])), some (.int hi), some (.int sy), some (.tup piecesPV), some (.str ⟨#[mk']⟩), some (.str "peer"), some (.int (r : Int)), some (.lst (natsL (takenL r))), some (.lst (natsL (leftL r))), some (toB c.lo m (.lst (mixesOf lt (takenL r)))), some (toB m m2 (.lst (mixesOf lt (leftL r)))), some (.lst (intsL [cnt r 0, cnt r 1, cnt r 2])), some (.bool al), some (.lst (intsL (wgtL r))), some (.lst (intsL (smsL r))), some (.int (bnd r)), some (.lst (txts (rowsL r p))), some (.str (eqHex r)), some (.int (wd : Int)), some (.str (mk (eolC e))), some (.str (mk bl)), some (.str (mk bl)), some (.lst (txts (eqHex r :: rowsL r p))), some (.lsa a0 (txts (handedL r p))), some (.lsa b0 (txts (keptL r p))), some (.int (weighS r p)), some (.lst (txts (duesL r p)))] none (lawSt 27) P) : Runs c (k + 1) (lF f L hE X0 fx dflt) [some (.lst (intsL ns)), some (.tup [.int 226, .int 75, .int 1234]), some (.str "0123456789ABCDEF"), some (.lst (intsL [c0, c1, c2])), some (.int hi), some (.int sy), some (.tup piecesPV), some (.str ⟨#[mk']⟩), some (.str "peer"), some (.int (r : Int)), some (.lst (natsL (takenL r))), some (.lst (natsL (leftL r))), some (toB c.lo m (.lst (mixesOf lt (takenL r)))), some (toB m m2 (.lst (mixesOf lt (leftL r)))), some (.lst (intsL [cnt r 0, cnt r 1, cnt r 2])), some (.bool al), some (.lst (intsL (wgtL r))), some (.lst (intsL (smsL r))), some (.int (bnd r)), some (.lst (txts (rowsL r p))), some (.str (eqHex r)), some (.int (wd : Int)), some (.str (mk (eolC e))), some (.str (mk bl)), some (.str (mk bl)), some (.lst (txts (eqHex r :: rowsL r p))), some (.lsa a0 (txts (handedL r p))), some (.lsa b0 (txts (keptL r p))), some (.int (weighS r p)), none] none (lawSt 26) P := by
  have big : 100 ≤ sizeLine := Nat.le_of_ble_eq_true rfl
  refine r_assign 29 (Evals.eq (e_bin (Evals.eq (e_comp (x := "k") (oc := false) (fvs := ["rows", "sums", "bound"]) (vals := [some (.lst (txts (rowsL r p))), some (.lst (intsL (smsL r))), some (.int (bnd r))]) ⟨by kernel_rfl, by kernel_rfl, by kernel_rfl, fun n acc => by kernel_rfl, fun h => by kernel_rfl, by kernel_rfl, by kernel_rfl, by decide +kernel, by kernel_rfl⟩ (.cons 19 rfl rfl (.cons 17 rfl rfl (.cons 18 rfl rfl .nil))) (ie_range (e_bui (by kernel_rfl) (G.nob _ (by decide +kernel)) (by kernel_rfl) (by decide +kernel) rfl) e_int (by decide) (by decide) rfl rfl) (fun _ => true) (onInt fun kk => .str (dueAt r p kk)) (Nat.le_of_ble_eq_true rfl) (fun p' hp L' hE' w' => by
      obtain ⟨kk, hk8, rfl⟩ := mem_range hp
      have hk8 : kk < 8 := hk8
      refine ⟨ta_nil, fun _ => e_ite (a := decide (bnd r ≤ sm r kk)) (t_cmp (e_sub (e_var 2 rfl rfl rfl) (e_var 0 rfl rfl rfl) (o_item_list (by lia) (by lia) (smsL_get hk8) (fun _ _ => rfl))) (e_var 3 rfl rfl rfl) o_ge_ii rfl) (fun h => ?_) (fun h => ?_)⟩
      · show Evals _ _ _ _ (.str (dueAt r p kk))
        unfold dueAt; rw [if_pos h]
        exact e_sub (e_var 1 rfl rfl rfl) (e_var 0 rfl rfl rfl) (o_item_list (by lia) (by lia) (row_get hk8) (fun _ _ => rfl))
      · show Evals _ _ _ _ (.str (dueAt r p kk))
        unfold dueAt; rw [if_neg (by rw [h]; simp)]
        exact e_str) (fun _ => rfl) rfl) (congrArg PV.lst (show _ = txts ((List.range 8).map (dueAt r p)) by unfold txts; rw [List.map_map]; exact map_rangeL _ 8))) (e_lst (l_cons e_str l_nil rfl) (Nat.le_of_ble_eq_true rfl)) (o_add_ll (l := txts ((List.range 8).map (dueAt r p))) (m := [.str "('', '')"]) (by rw [txts_len, List.length_map, List.length_range]; show 8 + 1 ≤ _; lia))) (congrArg PV.lst (show _ = txts (duesL r p) by unfold duesL; rw [txts_snoc]))) ⟨rfl, .inl (by kernel_rfl)⟩ (.tail (.tail (.tail (.tail (.tail (.tail (.tail (.tail (.tail (.tail (.tail (.tail (.tail (.tail (.tail (.tail (.tail (.tail (.tail (.tail (.tail (.tail (.tail (.tail (.tail (.tail (.tail (.tail (.tail .head))))))))))))))))))))))))))))) rfl hn
set_option maxHeartbeats 1000000 in
theorem law_h6 {ns : List Int} {c0 c1 c2 hi sy : Int} {r mk' m m2 p wd e : Nat} {lt : Nat → Nat → PV} {al : Bool} {bl : List Nat} {a0 b0 : Addr} {P : Out → Prop} (hab : a0 ≠ b0) (hkd : keptL r p = duesL r p) (hP : P (.ret (.bool true) false)) : Runs c (k + 1) (lF f L hE X0 fx dflt) [some (.lst (intsL ns)), some (.tup [.int 226, .int 75, .int 1234]), some (.str "0123456789ABCDEF"), some (.lst (intsL [c0, c1, c2])), some (.int hi), some (.int sy), some (.tup piecesPV), some (.str ⟨#[mk']⟩), some (.str "peer"), some (.int (r : Int)), some (.lst (natsL (takenL r))), some (.lst (natsL (leftL r))), some (toB c.lo m (.lst (mixesOf lt (takenL r)))), some (toB m m2 (.lst (mixesOf lt (leftL r)))), some (.lst (intsL [cnt r 0, cnt r 1, cnt r 2])), some (.bool al), some (.lst (intsL (wgtL r))), some (.lst (intsL (smsL r))), some (.int (bnd r)), some (.lst (txts (rowsL r p))), some (.str (eqHex r)), some (.int (wd : Int)), some (.str (mk (eolC e))), some (.str (mk bl)), some (.str (mk bl)), some (.lst (txts (eqHex r :: rowsL r p))), some (.lsa a0 (txts (handedL r p))), some (.lsa b0 (txts (keptL r p))), some (.int (weighS r p)), some (.lst (txts (duesL r p)))] none (lawSt 27) P := by
  have big : 100 ≤ sizeLine := Nat.le_of_ble_eq_true rfl
  refine r_ret (p := .bool true) (Evals.eq (e_and (a := true) (b := true) (e_cmp (e_var 27 rfl rfl rfl) (e_var 26 rfl rfl rfl) (o_isnot_lsa (Ne.symm hab)) rfl) fun _ => e_and (a := true) (b := true) (Evals.eq (e_cmp (e_unpin (e_var 26 rfl rfl rfl)) (Evals.eq (e_bin (e_var 19 rfl rfl rfl) (e_lst (l_cons (e_bin e_str (e_var 20 rfl rfl rfl) (o_add_ss (Nat.le_of_ble_eq_true rfl))) l_nil rfl) (Nat.le_of_ble_eq_true rfl)) (o_add_ll (l := txts (rowsL r p)) (m := [.str (Str.ofString "(" ++ eqHex r)]) (by rw [txts_len, rowsL_len]; show 8 + 1 ≤ _; lia))) (congrArg PV.lst (show _ = txts (handedL r p) by unfold handedL; rw [txts_snoc]))) (o_eq_seq (.inl ⟨_, _, rfl, rfl⟩) (by simp only [eqOk]; exact eqOk_txts _ _) (by simp only [pvDep]; rw [dep_txts]; lia)) rfl) (congrArg PV.bool (show pvEqs _ _ = true by rw [pvEq_txts]; simp))) fun _ =>
    e_and1 (Evals.eq (e_cmp (e_unpin (e_var 27 rfl rfl rfl)) (e_var 29 rfl rfl rfl) (o_eq_seq (.inl ⟨_, _, rfl, rfl⟩) (by simp only [eqOk]; exact eqOk_txts _ _) (by simp only [pvDep]; rw [dep_txts]; lia)) rfl) (congrArg PV.bool (show pvEqs _ _ = true by rw [pvEq_txts, hkd]; simp)))) rfl) hP
end
end Mine
namespace Mine
open PySem PySem.W PyProof.Rows
noncomputable def rowAbs (j s b : Nat) : Str := mk (pieceC j ++ List.replicate s 40 ++ List.replicate b 41 ++ List.replicate b 40 ++ List.replicate s 41)
noncomputable def strangeS : Str := Str.ofString "('', '')"
noncomputable def stripB (a : Str) : Bool := decide (a.length ≤ 1000) && decide ((escGo a.cps.toList 0 false 0).length ≤ 1000) && (Builtin.Str.tooLong ((stripEnd a (stripFold a)).toArray.foldl (· + ·.length + ("" : Str).length) 0) == false) && decide ((Builtin.Str.glued "" (stripEnd a (stripFold a))).length ≤ sizeLine)
theorem strip_of {a : Str} (h : stripB a = true) : stripOk a := by
  unfold stripB at h
  simp only [Bool.and_eq_true, decide_eq_true_eq, beq_iff_eq] at h
  exact ⟨h.1.1.1, h.1.1.2, h.1.2, h.2⟩
noncomputable def parChk (j s b : Nat) : Bool := stripB (rowAbs j s b) && (parT (rowAbs j s b) == decide (b ≤ s)) && !(strangeS == rowAbs j s b)
noncomputable def wordChk (r : Nat) : Bool := stripB (Str.ofString "(" ++ eqHex r) && !(parT (Str.ofString "(" ++ eqHex r))
/-- whether the rule is its own twin alone -/
noncomputable def alR (r : Nat) : Bool := twinsOf ((takenL r).length + 16 * cnt r 0 + 256 * cnt r 1 + 4096 * cnt r 2) == [(r : Int)]
noncomputable def weigh0 (r : Nat) : Int := (((List.range 8).filter fun k => decide (bnd r ≤ sm r k)).map fun k => (1 : Int) * 2 ^ k).sum
/-- the rules of one number, looked for from the list's head on -/
noncomputable def twGo (t : Int) : List Int → Nat → List Int
  | [], _ => []
  | c :: l, i => cond (c == t) ((i : Int) :: twGo t l (i + 1)) (twGo t l (i + 1))
theorem twGo_eq (t : Int) : ∀ (l : List Int) (i : Nat), ((List.range' i l.length).filter fun r => l.getD (r - i) 0 == t).map (fun (r : Nat) => ((r : Nat) : Int)) = twGo t l i
  | [], i => rfl
  | c :: l, i => by
    rw [List.length_cons, List.range'_succ, List.filter_cons]
    have e : (List.range' (i + 1) l.length).filter (fun r => (c :: l).getD (r - i) 0 == t) = (List.range' (i + 1) l.length).filter (fun r => l.getD (r - (i + 1)) 0 == t) := by
      refine List.filter_congr fun r hr => ?_
      have := (List.mem_range'_1.mp hr).1
      rw [show r - i = (r - (i + 1)) + 1 by lia, List.getD_cons_succ]
    rw [e, Nat.sub_self, List.getD_cons_zero]
    show _ = cond (c == t) _ _
    cases c == t with
    | true => rw [if_pos rfl, List.map_cons, twGo_eq t l (i + 1)]; rfl
    | false => rw [if_neg Bool.false_ne_true, twGo_eq t l (i + 1)]; rfl
theorem twins_go (t : Int) : twinsOf t = twGo t twinCodes 0 := by
  rw [← twGo_eq, twin_len, ← List.range_eq_range']; rfl
noncomputable def alF (r : Nat) : Bool := twGo ((takenL r).length + 16 * cnt r 0 + 256 * cnt r 1 + 4096 * cnt r 2) twinCodes 0 == [(r : Int)]
theorem alR_eq (r : Nat) : alR r = alF r := by unfold alR alF; rw [twins_go]
noncomputable def smChk (r : Nat) : Bool := decide (bnd r ≤ 4) && ((List.range 8).all fun k => decide (sm r k ≤ 6)) && ((weigh0 r == (r : Int)) == alF r)
theorem blk8 {f : Nat → Bool} (h : ∀ j, j < 8 → ((List.range 32).all fun i => f (i + 32 * j)) = true) {r : Nat} (hr : r < 256) : f r = true := by
  have := List.all_eq_true.mp (h (r / 32) (by omega)) (r % 32) (List.mem_range.mpr (Nat.mod_lt _ (by decide)))
  rwa [Nat.mod_add_div] at this
theorem par_all : ((List.range 5).all fun j => (List.range 7).all fun s => (List.range 5).all fun b => parChk j s b) = true := by decide +kernel
theorem word_all : ((List.range 256).all wordChk) = true := by decide +kernel
theorem all_range {n : Nat} {f : Nat → Bool} (h : (List.range n).all f = true) {i : Nat} (hi : i < n) : f i = true := List.all_eq_true.mp h i (List.mem_range.mpr hi)
theorem sm_blk0 : ((List.range 32).all fun i => smChk (i + 32 * 0)) = true := by decide +kernel
theorem sm_blk1 : ((List.range 32).all fun i => smChk (i + 32 * 1)) = true := by decide +kernel
theorem sm_blk2 : ((List.range 32).all fun i => smChk (i + 32 * 2)) = true := by decide +kernel
theorem sm_blk3 : ((List.range 32).all fun i => smChk (i + 32 * 3)) = true := by decide +kernel
theorem sm_blk4 : ((List.range 32).all fun i => smChk (i + 32 * 4)) = true := by decide +kernel
theorem sm_blk5 : ((List.range 32).all fun i => smChk (i + 32 * 5)) = true := by decide +kernel
theorem sm_blk6 : ((List.range 32).all fun i => smChk (i + 32 * 6)) = true := by decide +kernel
theorem sm_blk7 : ((List.range 32).all fun i => smChk (i + 32 * 7)) = true := by decide +kernel
theorem eight {P : Nat → Prop} (h0 : P 0) (h1 : P 1) (h2 : P 2) (h3 : P 3) (h4 : P 4) (h5 : P 5) (h6 : P 6) (h7 : P 7) : ∀ j, j < 8 → P j := by
  intro j hj
  rcases (by omega : j = 0 ∨ j = 1 ∨ j = 2 ∨ j = 3 ∨ j = 4 ∨ j = 5 ∨ j = 6 ∨ j = 7) with rfl | rfl | rfl | rfl | rfl | rfl | rfl | rfl <;> assumption
theorem sm_all {r : Nat} (h : r < 256) : smChk r = true := blk8 (f := smChk) (eight sm_blk0 sm_blk1 sm_blk2 sm_blk3 sm_blk4 sm_blk5 sm_blk6 sm_blk7) h
theorem sm_is {r : Nat} (h : r < 256) : bnd r ≤ 4 ∧ (∀ k, k < 8 → sm r k ≤ 6) ∧ (weigh0 r == (r : Int)) = alR r := by
  have := sm_all h
  rw [alR_eq]
  unfold smChk at this
  simp only [Bool.and_eq_true] at this
  obtain ⟨⟨a, b⟩, d⟩ := this
  exact ⟨of_decide_eq_true a, fun k hk => of_decide_eq_true (all_range b hk), of_beq d⟩
theorem row_chk {r p k : Nat} (hr : r < 256) (hk : k < 8) : stripOk (rowAt r p k) ∧ parT (rowAt r p k) = decide (bnd r ≤ sm r k) ∧ (strangeS == rowAt r p k) = false := by
  obtain ⟨h1, h2, _⟩ := sm_is hr
  have h2 := h2 k hk
  have h3 := sm_le r k
  have h4 := bnd_le r
  have h := all_range (all_range (all_range par_all (Nat.mod_lt (p + k) (by decide : 0 < 5))) (show (sm r k).toNat < 7 by omega)) (show (bnd r).toNat < 5 by omega)
  have e : rowAbs ((p + k) % 5) (sm r k).toNat (bnd r).toNat = rowAt r p k := rfl
  unfold parChk at h
  rw [e] at h
  simp only [Bool.and_eq_true] at h
  obtain ⟨⟨a, b⟩, d⟩ := h
  refine ⟨strip_of a, ?_, by simpa using d⟩
  rw [of_beq b]
  apply decide_eq_decide.mpr
  omega
theorem word_chk {r : Nat} (hr : r < 256) : stripOk (Str.ofString "(" ++ eqHex r) ∧ parT (Str.ofString "(" ++ eqHex r) = false := by
  have h := all_range word_all hr
  unfold wordChk at h
  simp only [Bool.and_eq_true] at h
  exact ⟨strip_of h.1, by simpa using h.2⟩
theorem ppv_f {v : Str} (h : parT v = false) : ppvT v = strangeS := by unfold ppvT; rw [h]; rfl
theorem ppv_t {v : Str} (h : parT v = true) : ppvT v = v := by unfold ppvT; rw [h]; rfl
theorem ppv_row {r p k : Nat} (hr : r < 256) (hk : k < 8) : ppvT (rowAt r p k) = dueAt r p k := by
  obtain ⟨_, h, _⟩ := row_chk (p := p) hr hk
  unfold dueAt
  split
  · rename_i hb; rw [ppv_t (by rw [h]; exact hb)]
  · rename_i hb; rw [ppv_f (by rw [h]; simpa using hb)]; rfl
theorem kept_dues {r p : Nat} (hr : r < 256) : keptL r p = duesL r p := by
  unfold keptL handedL duesL rowsL
  rw [List.map_append, List.map_map]
  congr 1
  · exact List.map_congr_left fun k hk => ppv_row hr (List.mem_range.mp hk)
  · show [ppvT _] = _
    rw [ppv_f (word_chk hr).2]; rfl
theorem weigh_is {r p : Nat} (hr : r < 256) : (weighS r p == (r : Int)) = alR r := by
  rw [← (sm_is hr).2.2]
  have : weighL r p = ((List.range 8).filter fun k => decide (bnd r ≤ sm r k)).map fun k => (1 : Int) * 2 ^ k := by
    unfold weighL
    congr 1
    refine List.filter_congr fun k hk => ?_
    have hk := List.mem_range.mp hk
    obtain ⟨_, h1, h2⟩ := row_chk (p := p) hr hk
    unfold keptAt
    rw [← h1]
    cases hb : parT (rowAt r p k) with
    | true => rw [ppv_t hb]; exact beq_self_eq_true _
    | false => rw [ppv_f hb]; exact h2
  unfold weighS weigh0
  rw [this]
theorem handed_ok {r p : Nat} (hr : r < 256) : ∀ v ∈ handedL r p, stripOk v := by
  intro v hv
  unfold handedL rowsL at hv
  rcases List.mem_append.mp hv with h | h
  · obtain ⟨k, hk, rfl⟩ := List.mem_map.mp h
    exact (row_chk hr (List.mem_range.mp hk)).1
  · rw [List.mem_singleton.mp h]; exact (word_chk hr).1
end Mine
namespace Mine
open PySem PySem.W PyProof.Rows
/-- the signs that a letter bears -/
noncomputable def okC (n : Nat) : Bool := [34, 40, 41, 92, 107, 61].contains n || (48 ≤ n && n ≤ 57) || (65 ≤ n && n ≤ 70)
theorem okC_all : ((List.range 128).all fun n => !(okC n) || (!(Unicode.isLineBreak n) && !(Unicode.isSpace n) && !(n == 10) && !(n == 13) && !(n == 9) && !(n == 32))) = true := by decide +kernel
theorem okC_lt {n : Nat} (h : okC n = true) : n < 128 := by
  unfold okC at h
  simp only [Bool.or_eq_true, Bool.and_eq_true, decide_eq_true_eq, List.contains_iff_mem, List.mem_cons, List.not_mem_nil, or_false] at h
  lia
theorem okC_is {n : Nat} (h : okC n = true) : Unicode.isLineBreak n = false ∧ Unicode.isSpace n = false ∧ n ≠ 10 ∧ n ≠ 13 ∧ n ≠ 9 ∧ n ≠ 32 := by
  have := all_range okC_all (okC_lt h)
  rw [h] at this
  simp only [Bool.not_true, Bool.false_or, Bool.and_eq_true, Bool.not_eq_true', beq_eq_false_iff_ne] at this
  obtain ⟨⟨⟨⟨⟨a, b⟩, c⟩, d⟩, e⟩, f⟩ := this
  exact ⟨a, b, c, d, e, f⟩
theorem rstrip_same {p : List Nat} (h : ∀ n ∈ p, Unicode.isSpace n = false) : Txt.rstrip (mk p) = mk p := by
  have e : stripSame Unicode.isSpace false true (mk p) = true := by
    have e1 : ((mk p).cps.toList.drop 0).reverse.takeWhile Unicode.isSpace = [] := by
      rw [List.drop_zero]
      show (p.reverse).takeWhile _ = []
      cases q : p.reverse with
      | nil => rfl
      | cons a r =>
        have : a ∈ p := by rw [← List.mem_reverse, q]; exact List.mem_cons_self
        rw [List.takeWhile_cons, h a this]; rfl
    unfold stripSame stripHi stripLo
    simp only [Bool.false_eq_true, if_false, if_true]
    rw [e1]
    simp
  unfold Txt.rstrip Txt.stripBy
  rw [if_pos e]
theorem enc_chars (l : List Nat) (w : Nat) : ∀ (f st : Nat), ∀ p ∈ encGo l w f st, ∀ n ∈ p, n ∈ l ∨ n = 61
  | 0, st, p, hp, n, hn => by
    rw [List.mem_singleton.mp hp] at hn
    exact .inl (List.mem_of_mem_drop hn)
  | f + 1, st, p, hp, n, hn => by
    rw [encGo_succ] at hp
    split at hp
    · split at hp
      · rcases List.mem_cons.mp hp with rfl | hp
        · exact .inl (List.mem_of_mem_drop (List.mem_of_mem_take hn))
        · exact enc_chars l w f _ p hp n hn
      · split at hp
        · rcases List.mem_cons.mp hp with rfl | hp
          · exact .inl (List.mem_of_mem_drop (List.mem_of_mem_take hn))
          · exact enc_chars l w f _ p hp n hn
        · rcases List.mem_cons.mp hp with rfl | hp
          · rcases List.mem_append.mp hn with hn | hn
            · exact .inl (List.mem_of_mem_drop (List.mem_of_mem_take hn))
            · exact .inr (List.mem_singleton.mp hn)
          · exact enc_chars l w f _ p hp n hn
    · rw [List.mem_singleton.mp hp] at hn
      exact .inl (List.mem_of_mem_drop hn)
theorem enc_full (l : List Nat) (w : Nat) (hw : 4 ≤ w) : ∀ (f st : Nat), st < l.length → ∀ p ∈ encGo l w f st, p ≠ []
  | 0, st, h, p, hp => by
    rw [List.mem_singleton.mp hp]
    intro e; have := congrArg List.length e; simp at this; lia
  | f + 1, st, h, p, hp => by
    have hd : ∀ m, 0 < m → (l.drop st).take m ≠ [] := fun m hm e => by have := congrArg List.length e; simp at this; lia
    rw [encGo_succ] at hp
    split at hp
    · split at hp
      · rcases List.mem_cons.mp hp with rfl | hp
        · exact hd _ (by lia)
        · exact enc_full l w hw f _ (by lia) p hp
      · split at hp
        · rcases List.mem_cons.mp hp with rfl | hp
          · exact hd _ (by lia)
          · exact enc_full l w hw f _ (by lia) p hp
        · rcases List.mem_cons.mp hp with rfl | hp
          · simp
          · exact enc_full l w hw f _ (by lia) p hp
    · rw [List.mem_singleton.mp hp]
      intro e; have := congrArg List.length e; simp at this; lia
noncomputable def wtL (ps : List (List Nat)) : Nat := (ps.map fun p => p.length + 2).sum
theorem wtL_app (a b : List (List Nat)) : wtL (a ++ b) = wtL a + wtL b := by simp [wtL]
theorem enc_wt (l : List Nat) (w : Nat) : ∀ (f st : Nat), wtL (encGo l w f st) ≤ (f + 1) * (l.length + 3)
  | 0, st => by
    show (l.drop st).length + 2 + 0 ≤ _
    rw [List.length_drop]; lia
  | f + 1, st => by
    have hd : ∀ m, ((l.drop st).take m).length ≤ l.length := fun m => by simp; lia
    have ih : ∀ s, wtL (encGo l w f s) ≤ (f + 1) * (l.length + 3) := enc_wt l w f
    have e : (f + 1 + 1) * (l.length + 3) = (f + 1) * (l.length + 3) + (l.length + 3) := by rw [Nat.add_mul (f + 1) 1, Nat.one_mul]
    rw [encGo_succ, e]
    split
    · split
      · show (_ : List Nat).length + 2 + wtL _ ≤ _
        have := hd (w - 2); have := ih (st + w - 3); lia
      · split
        · show (_ : List Nat).length + 2 + wtL _ ≤ _
          have := hd (w - 1); have := ih (st + w - 2); lia
        · show (_ : List Nat).length + 2 + wtL _ ≤ _
          rw [List.length_append, List.length_singleton]
          have := hd (w - 1); have := ih (st + w - 1); lia
    · show (l.drop st).length + 2 + 0 ≤ _
      rw [List.length_drop]; lia
theorem dec_plain (l e : List Nat) (h : 61 ∉ l) : ∀ (m i : Nat), i + m = l.length → decGo l e m i = some (l.drop i ++ (if i < l.length then e else []))
  | 0, i, hi => by
    unfold decGo
    rw [if_neg (by lia), if_neg (by lia), List.drop_eq_nil_of_le (by lia)]; rfl
  | m + 1, i, hi => by
    unfold decGo
    have hlt : i < l.length := by lia
    have hne : ¬ l[i] = 61 := fun e => h (e ▸ List.getElem_mem hlt)
    simp only [dif_pos hlt, if_neg hne, if_pos hlt]
    rw [dec_plain l e h m (i + 1) (by lia), List.drop_eq_getElem_cons hlt]
    by_cases hl : i + 1 = l.length
    · rw [if_pos hl, if_neg (by lia), List.drop_eq_nil_of_le (by lia)]; simp
    · rw [if_neg hl, if_pos (by lia)]; rfl
theorem dec_soft (l e : List Nat) (h : 61 ∉ l) : ∀ (m i : Nat), i + m = l.length + 1 → decGo (l ++ [61]) e m i = some (l.drop i)
  | 0, i, hi => by
    unfold decGo
    rw [if_neg (by simp; lia), List.drop_eq_nil_of_le (by lia)]
  | m + 1, i, hi => by
    unfold decGo
    have hlt : i < (l ++ [61]).length := by simp; lia
    rw [dif_pos hlt]
    by_cases hl : i = l.length
    · subst hl
      have e1 : (l ++ [61])[l.length] = 61 := by simp
      simp only [e1, if_pos]
      rw [if_pos (by simp), dec_soft l e h m (l.length + 1) (by lia), List.drop_eq_nil_of_le (by lia), List.drop_eq_nil_of_le (by lia)]
    · have hlt2 : i < l.length := by lia
      have e1 : (l ++ [61])[i] = l[i] := List.getElem_append_left hlt2
      have hne : ¬ (l ++ [61])[i] = 61 := fun e => h (by rw [← e, e1]; exact List.getElem_mem hlt2)
      simp only [if_neg hne]
      rw [dec_soft l e h m (i + 1) (by lia), if_neg (by simp; lia), List.drop_eq_getElem_cons hlt2, e1]; rfl
theorem enc_dec (l e : List Nat) (w : Nat) (hw : 4 ≤ w) (h : 61 ∉ l) : ∀ (f st : Nat), st < l.length → l.length - st ≤ f → decAll e (encGo l w f st) = some (l.drop st ++ e)
  | 0, st, h1, h2 => by lia
  | f + 1, st, h1, h2 => by
    have hg : ∀ i, l[i]? ≠ some 61 := fun i hi => h (List.mem_of_getElem? hi)
    rw [encGo_succ]
    split
    · rw [if_neg (hg _), if_neg (hg _)]
      have ih := enc_dec l e w hw h f (st + w - 1) (by lia) (by lia)
      have hfr : 61 ∉ (l.drop st).take (w - 1) := fun m => h (List.mem_of_mem_drop (List.mem_of_mem_take m))
      have hd := dec_soft ((l.drop st).take (w - 1)) e hfr (((l.drop st).take (w - 1)).length + 1) 0 (by lia)
      show (decLine _ e).bind _ = _
      unfold decLine
      rw [if_neg (by simp), List.length_append, List.length_singleton, hd, List.drop_zero]
      show (decAll e _).map _ = _
      rw [ih]
      show some ((l.drop st).take (w - 1) ++ (l.drop (st + w - 1) ++ e)) = some _
      rw [← List.append_assoc, show l.drop (st + w - 1) = (l.drop st).drop (w - 1) by rw [List.drop_drop]; congr 1; lia, List.take_append_drop]
    · show (decLine _ e).bind _ = _
      unfold decLine
      have hfr : 61 ∉ l.drop st := fun m => h (List.mem_of_mem_drop m)
      rw [if_neg (by simp; lia), dec_plain _ e hfr _ 0 (by lia), if_pos (by simp; lia), List.drop_zero]
      show some ((l.drop st ++ e) ++ []) = _
      rw [List.append_nil]
noncomputable def wordC (r : Nat) : List Nat := [61, hexUp (r / 16), hexUp (r % 16)]
noncomputable def wordQ (r w : Nat) : Bool := decAll [10] (encLine (unitsOf (wordC r)).flatten w) == some (wordC r ++ [10])
/-- the list, each of its numbers reckoned first -/
noncomputable def frc {β : Type} : List Nat → (List Nat → β) → β
  | [], k => k []
  | a :: l, k => strictN a fun a => frc l fun l => k (a :: l)
theorem frc_eq {β : Type} : ∀ (l : List Nat) (k : List Nat → β), frc l k = k l
  | [], _ => rfl
  | a :: l, k => (strictN_eq _ _).trans (frc_eq l _)
noncomputable def frcs {β : Type} : List (List Nat) → (List (List Nat) → β) → β
  | [], k => k []
  | a :: l, k => frc a fun a => frcs l fun l => k (a :: l)
theorem frcs_eq {β : Type} : ∀ (l : List (List Nat)) (k : List (List Nat) → β), frcs l k = k l
  | [], _ => rfl
  | a :: l, k => (frc_eq _ _).trans (frcs_eq l _)
noncomputable def wordF (r w : Nat) : Bool := frc (wordC r) fun x => frcs (encLine (unitsOf x).flatten w) fun ls => decAll [10] ls == some (x ++ [10])
theorem wordF_eq (r w : Nat) : wordF r w = wordQ r w := by unfold wordF; rw [frc_eq, frcs_eq]; rfl
theorem wordf_all : ((List.range 256).all fun r => (List.range 2).all fun w => wordF r (w + 4)) = true := by decide +kernel
theorem wordq_all : ((List.range 256).all fun r => (List.range 2).all fun w => wordQ r (w + 4)) = true := by
  simp only [← wordF_eq]; exact wordf_all
theorem words_ok : ((List.range 256).all fun r => decide ((unitsOf (wordC r)).flatten.length ≤ 5) && (wordC r).all okC) = true := by decide +kernel
theorem enc_big {l : List Nat} {w : Nat} (h : l.length ≤ w) : encLine l w = [l] := by
  unfold encLine
  cases l with
  | nil => rfl
  | cons a l =>
    show encGo (a :: l) w (l.length + 1) 0 = _
    unfold encGo
    rw [if_neg (by lia)]
    rfl
/-- what is asked of a row at a width -/
structure RowQ (t : List Nat) (w : Nat) : Prop where
  dec : decAll [10] (encLine (unitsOf t).flatten w) = some (t ++ [10])
  ok : ∀ n ∈ t, okC n = true
  len : t.length ≤ 26
  ulen : (unitsOf t).flatten.length ≤ 26
theorem word_q {r w : Nat} (hr : r < 256) (hw : 4 ≤ w) : RowQ (wordC r) w := by
  have h := all_range wordq_all hr
  have h2 := all_range words_ok hr
  simp only [Bool.and_eq_true, decide_eq_true_eq] at h2
  refine ⟨?_, fun n hn => List.all_eq_true.mp h2.2 n hn, by show 3 ≤ 26; decide, by lia⟩
  by_cases h4 : w = 4
  · subst h4; exact eq_of_beq (all_range h (by decide : 0 < 2))
  · have := eq_of_beq (all_range h (by decide : 1 < 2))
    rw [enc_big (by lia)] at this ⊢
    exact this
theorem units_free : ∀ (t : List Nat), 61 ∉ t → (unitsOf t).flatten = t
  | [], _ => rfl
  | a :: t, h => by
    have h1 : ¬ a = 61 := fun e => h (e ▸ List.mem_cons_self)
    have ih := units_free t fun m => h (List.mem_cons_of_mem _ m)
    unfold unitsOf at ih ⊢
    rw [List.map_cons, if_neg h1, List.flatten_cons, ih]; rfl
theorem piece_ok : ((List.range 5).all fun j => (pieceC j).all fun n => okC n && !(n == 61)) = true := by decide +kernel
theorem row_chars {r p k n : Nat} (h : n ∈ rowC r p k) : okC n = true ∧ n ≠ 61 := by
  have h1 := all_range piece_ok (Nat.mod_lt (p + k) (by decide : 0 < 5))
  unfold rowC at h
  simp only [List.mem_append, List.mem_replicate] at h
  have o40 : okC 40 = true := by decide +kernel
  have o41 : okC 41 = true := by decide +kernel
  rcases h with (((h | ⟨_, rfl⟩) | ⟨_, rfl⟩) | ⟨_, rfl⟩) | ⟨_, rfl⟩
  · have := List.all_eq_true.mp h1 n h
    simpa using this
  · exact ⟨o40, by decide⟩
  · exact ⟨o41, by decide⟩
  · exact ⟨o40, by decide⟩
  · exact ⟨o41, by decide⟩
theorem row_q {r p k w : Nat} (hr : r < 256) (hk : k < 8) (hw : 4 ≤ w) : RowQ (rowC r p k) w := by
  obtain ⟨h1, h2, _⟩ := sm_is hr
  have h2 := h2 k hk
  have h3 := sm_le r k
  have h4 := bnd_le r
  have hp := pieceC_len ((p + k) % 5)
  have hf : 61 ∉ rowC r p k := fun h => (row_chars h).2 rfl
  have hl : (rowC r p k).length ≤ 26 := by
    unfold rowC
    simp only [List.length_append, List.length_replicate]
    lia
  refine ⟨?_, fun n hn => (row_chars hn).1, hl, by rw [units_free _ hf]; exact hl⟩
  rw [units_free _ hf]
  unfold encLine
  cases q : rowC r p k with
  | nil => rfl
  | cons a l =>
    rw [q] at hf
    exact enc_dec (a :: l) [10] w hw hf _ 0 (by simp) (by simp)
end Mine
namespace Mine
open PySem PySem.W PyProof.Rows
noncomputable def unitF (t : List Nat) : List Nat := (unitsOf t).flatten
noncomputable def pcs (w : Nat) (t : List Nat) : List (List Nat) := encLine (unitF t) w
theorem unitF_cons (a : Nat) (t : List Nat) : unitF (a :: t) = (if a = 61 then [61, 51, 68] else [a]) ++ unitF t := by
  unfold unitF unitsOf; rw [List.map_cons, List.flatten_cons]
theorem unitF_app (a b : List Nat) : unitF (a ++ b) = unitF a ++ unitF b := by unfold unitF unitsOf; rw [List.map_append, List.flatten_append]
theorem unitF_nil {t : List Nat} : unitF t = [] ↔ t = [] := by
  cases t with
  | nil => exact ⟨fun _ => rfl, fun _ => rfl⟩
  | cons a t =>
    rw [unitF_cons]
    refine ⟨fun h => ?_, fun h => by cases h⟩
    split at h <;> cases h
theorem unitF_ok : ∀ {t : List Nat}, (∀ n ∈ t, okC n = true) → ∀ n ∈ unitF t, okC n = true
  | [], _, n, hn => by cases hn
  | a :: t, h, n, hn => by
    rw [unitF_cons] at hn
    rcases List.mem_append.mp hn with hn | hn
    · split at hn
      · have : ∀ n ∈ ([61, 51, 68] : List Nat), okC n = true := by decide +kernel
        exact this n hn
      · rw [List.mem_singleton.mp hn]; exact h a List.mem_cons_self
    · exact unitF_ok (fun n hn => h n (List.mem_cons_of_mem _ hn)) n hn
theorem unitF_len : ∀ t : List Nat, (unitF t).length ≤ 3 * t.length
  | [] => by simp [unitF, unitsOf]
  | a :: t => by
    rw [unitF_cons, List.length_append, List.length_cons]
    have := unitF_len t
    split <;> simp <;> lia
theorem dropE_snoc : ∀ (init : List (List Nat)) (x : List Nat), dropE (init ++ [x]) = if x = [] then init else init ++ [x]
  | [], x => by show dropE [x] = _; unfold dropE; split <;> rfl
  | [a], x => by
    show a :: dropE [x] = _
    have := dropE_snoc [] x
    rw [show ([] : List (List Nat)) ++ [x] = [x] from rfl] at this
    rw [this]; split <;> rfl
  | a :: b :: r, x => by
    show a :: dropE ((b :: r) ++ [x]) = _
    rw [dropE_snoc (b :: r) x]; split <;> rfl
theorem glue_snoc (e : List Nat) : ∀ (init : List (List Nat)) (x : List Nat), init ≠ [] → glueL e (init ++ [x]) = glueL e init ++ e ++ x
  | [], _, h => absurd rfl h
  | [a], x, _ => rfl
  | a :: b :: r, x, _ => by
    show a ++ e ++ glueL e ((b :: r) ++ [x]) = a ++ e ++ glueL e (b :: r) ++ e ++ x
    rw [glue_snoc e (b :: r) x (List.cons_ne_nil _ _)]
    simp only [List.append_assoc]
theorem glue_len (e : List Nat) (he : e.length ≤ 2) : ∀ rows : List (List Nat), (glueL e rows).length ≤ wtL rows
  | [] => Nat.zero_le _
  | [x] => by show x.length ≤ x.length + 2 + 0; lia
  | x :: y :: r => by
    have ih := glue_len e he (y :: r)
    show (x ++ e ++ glueL e (y :: r)).length ≤ x.length + 2 + wtL (y :: r)
    simp only [List.length_append]
    lia
theorem glue_end (rows : List (List Nat)) (h : rows ≠ []) : rows.flatMap (· ++ [10]) = glueL [10] rows ++ [10] := by
  cases rows with
  | nil => exact absurd rfl h
  | cons x r =>
    rw [glueL_flat]
    have : ∀ (ys : List (List Nat)) (x : List Nat), (x :: ys).flatMap (· ++ [10]) = x ++ ys.flatMap ([10] ++ ·) ++ [10] := by
      intro ys
      induction ys with
      | nil => intro x; simp
      | cons y ys ih =>
        intro x
        rw [List.flatMap_cons, ih y, List.flatMap_cons]
        simp only [List.append_assoc]
    exact this r x
theorem glue_mem (e : List Nat) : ∀ (rows : List (List Nat)), ∀ n ∈ glueL e rows, n ∈ e ∨ ∃ x ∈ rows, n ∈ x
  | [], n, h => by cases h
  | [x], n, h => .inr ⟨x, List.mem_cons_self, h⟩
  | x :: y :: r, n, h => by
    have h : n ∈ x ++ e ++ glueL e (y :: r) := h
    rcases List.mem_append.mp h with h | h
    · rcases List.mem_append.mp h with h | h
      · exact .inr ⟨x, List.mem_cons_self, h⟩
      · exact .inl h
    · rcases glue_mem e (y :: r) n h with h | ⟨z, hz, h⟩
      · exact .inl h
      · exact .inr ⟨z, List.mem_cons_of_mem _ hz, h⟩
/-- what stands behind the translation -/
noncomputable def qmS (n : Nat) : Str := if n = 61 then mk [61, 51, 68] else mk [n]
theorem trans_unit (t : List Nat) : transS qmS (mk t) = mk (unitF t) := by
  have e : (t.map fun n => (qmS n).cps.toList) = unitsOf t := by
    unfold unitsOf
    exact List.map_congr_left fun n _ => by unfold qmS; split <;> rfl
  show (⟨(t.map fun n => (qmS n).cps.toList).flatten.toArray⟩ : Str) = _
  rw [e]; rfl
theorem unit_glue : ∀ rows : List (List Nat), unitF (glueL [10] rows) = glueL [10] (rows.map unitF)
  | [] => rfl
  | [x] => rfl
  | x :: y :: r => by
    rw [glue_two, unitF_app, unitF_cons, if_neg (by decide), unit_glue (y :: r)]
    show _ = glueL [10] (unitF x :: unitF y :: r.map unitF)
    rw [glue_two]; rfl
theorem fold_lenS (c : Nat) (xs : List Str) : ∀ a : Nat, xs.foldl (fun (a : Nat) (x : Str) => a + x.length + c) a = a + (xs.map fun x => x.length + c).sum := by
  induction xs with
  | nil => intro a; rfl
  | cons x xs ih => intro a; rw [List.foldl_cons, ih, List.map_cons, List.sum_cons]; lia
theorem long_mk {c : Nat} (hc : c ≤ 2) (rows : List (List Nat)) (h : wtL rows ≤ 20000) : Builtin.Str.tooLong ((rows.map mk).toArray.foldl (fun (a : Nat) (x : Str) => a + x.length + c) 0) = false := by
  have big : 20000 ≤ sizeLine := Nat.le_of_ble_eq_true rfl
  have e : (rows.map mk).toArray.foldl (fun (a : Nat) (x : Str) => a + x.length + c) 0 = (rows.map mk).foldl (fun (a : Nat) (x : Str) => a + x.length + c) 0 := by simp
  rw [e, fold_lenS]
  have : ∀ rows : List (List Nat), ((rows.map mk).map fun x => x.length + c).sum ≤ wtL rows := by
    intro rows
    induction rows with
    | nil => exact Nat.zero_le _
    | cons x r ih =>
      rw [List.map_cons, List.map_cons, List.sum_cons, mk_len]
      show _ ≤ x.length + 2 + wtL r
      lia
  have := this rows
  unfold Builtin.Str.tooLong
  exact decide_eq_false (by lia)
theorem pcs_ne (w : Nat) (t : List Nat) : pcs w t ≠ [] := encGo_ne _ _ _ _
theorem pcs_nil (w : Nat) : pcs w [] = [[]] := rfl
theorem glue_writ (e : List Nat) {w : Nat} (hw : 4 ≤ w) (R : List (List Nat)) : glueL e (R.flatMap (pcs w)) = glueL e (R.map fun t => writ t w e) := by
  rw [glueL_flatMap e (pcs w) (pcs_ne w)]
  congr 1
  exact List.map_congr_left fun t _ => row_written t w hw e
theorem pcs_wt {w : Nat} {t : List Nat} (h : (unitF t).length ≤ 26) : wtL (pcs w t) ≤ 783 := by
  have h1 := enc_wt (unitF t) w (unitF t).length 0
  have : ((unitF t).length + 1) * ((unitF t).length + 3) ≤ 27 * 29 := Nat.mul_le_mul (by lia) (by lia)
  exact Nat.le_trans h1 (by lia)
end Mine
namespace Mine
open PySem PySem.W PyProof.Rows
theorem last_at (Y : List Nat) (z : Nat) : (seqIndex? (-1) (mk (Y ++ [z])).length).bind ((mk (Y ++ [z])).cps[·]?) = some z := by
  have e : seqIndex? (-1) (mk (Y ++ [z])).length = some Y.length := by
    unfold seqIndex?
    rw [mk_len, List.length_append, List.length_singleton]
    simp only [show (-1 : Int) < 0 by decide, if_true]
    rw [if_pos (by simp; lia)]
    congr 1; lia
  rw [e]
  simp
theorem crlf_of (z : Nat) : (!(Builtin.Str.occurrences (Str.ofString "\r\n") ⟨#[z]⟩ 0 (Str.ofString "\r\n").length 1).isEmpty) = decide (z = 13 ∨ z = 10) := by
  rw [StrLaws.found_one]
  have e : (Str.ofString "\r\n").cps.toList = [13, 10] := by decide +kernel
  rw [e]
  apply decide_eq_decide.mpr
  simp
theorem white_of (z : Nat) : (!(Builtin.Str.occurrences (Str.ofString " \t") ⟨#[z]⟩ 0 (Str.ofString " \t").length 1).isEmpty) = decide (z = 32 ∨ z = 9) := by
  rw [StrLaws.found_one]
  have e : (Str.ofString " \t").cps.toList = [32, 9] := by decide +kernel
  rw [e]
  apply decide_eq_decide.mpr
  simp
theorem len_wt : ∀ ps : List (List Nat), ps.length ≤ wtL ps
  | [] => Nat.zero_le _
  | p :: r => by
    have ih := len_wt r
    show r.length + 1 ≤ p.length + 2 + wtL r
    lia
theorem mem_wt {p : List Nat} : ∀ {ps : List (List Nat)}, p ∈ ps → p.length ≤ wtL ps
  | q :: r, h => by
    show p.length ≤ q.length + 2 + wtL r
    rcases List.mem_cons.mp h with rfl | h
    · lia
    · have := mem_wt h; lia
theorem flat_wt {f : List Nat → List (List Nat)} {B : Nat} : ∀ {R : List (List Nat)}, (∀ t ∈ R, wtL (f t) ≤ B) → wtL (R.flatMap f) ≤ B * R.length
  | [], _ => Nat.zero_le _
  | t :: R, h => by
    have ih := flat_wt fun x hx => h x (List.mem_cons_of_mem _ hx)
    have h0 := h t List.mem_cons_self
    rw [List.flatMap_cons, wtL_app, List.length_cons, Nat.mul_add, Nat.mul_one]
    lia
theorem map_wt {B : Nat} : ∀ {R : List (List Nat)}, (∀ t ∈ R, t.length + 2 ≤ B) → wtL R ≤ B * R.length
  | [], _ => Nat.zero_le _
  | t :: R, h => by
    have ih := map_wt fun x hx => h x (List.mem_cons_of_mem _ hx)
    have h0 := h t List.mem_cons_self
    show t.length + 2 + wtL R ≤ _
    rw [List.length_cons, Nat.mul_add, Nat.mul_one]
    lia
theorem enc_all_eq {init : List (List Nat)} {x : List Nat} {w z : Nat} (hz : (x = [] ∧ z = 10) ∨ (x ≠ [] ∧ okC z = true)) :
    (dropE ((init ++ [x]).map unitF)).flatMap (fun y => encLine y w) ++ (if z = 13 ∨ z = 10 then [([] : List Nat)] else []) = (init ++ [x]).flatMap (pcs w) := by
  rw [List.map_append, List.map_singleton, dropE_snoc, List.flatMap_append]
  rcases hz with ⟨rfl, rfl⟩ | ⟨hx, hz⟩
  · rw [if_pos (unitF_nil.mpr rfl), if_pos (.inr rfl), List.flatMap_map]; rfl
  · have := okC_is hz
    rw [if_neg (fun h => hx (unitF_nil.mp h)), if_neg (by lia), List.append_nil, List.flatMap_append, List.flatMap_map]; rfl
theorem enc_ok {init : List (List Nat)} {x E : List Nat} {w : Nat} {l : List PV} (hi : init ≠ []) (hn : init.length ≤ 8) (hq : ∀ t ∈ init ++ [x], RowQ t w) (hw : 4 ≤ w ∧ w ≤ 1000) (hE : E = [10] ∨ E = [13, 10])
    (hl : ∀ n, (okC n = true ∨ n = 10) → l[n]? = some (.str (qmS n))) :
    ∃ z, EncOk (mk (glueL [10] (init ++ [x]))) (mk (glueL [10] ((init ++ [x]).map unitF))) (mk E) w (dropE ((init ++ [x]).map unitF)) qmS l z ∧ encAll (dropE ((init ++ [x]).map unitF)) w z = ((init ++ [x]).flatMap (pcs w)).map mk := by
  have hE2 : E.length ≤ 2 := by rcases hE with rfl | rfl <;> decide
  have hlast : glueL [10] ((init ++ [x]).map unitF) = glueL [10] (init.map unitF) ++ [10] ++ unitF x := by
    rw [List.map_append, List.map_singleton]
    exact glue_snoc _ _ _ (by simpa using hi)
  obtain ⟨Y, z, hL, hz⟩ : ∃ Y z, glueL [10] ((init ++ [x]).map unitF) = Y ++ [z] ∧ ((x = [] ∧ z = 10) ∨ (x ≠ [] ∧ okC z = true)) := by
    rw [hlast]
    by_cases hx : x = []
    · subst hx
      exact ⟨_, 10, by rw [unitF_nil.mpr rfl, List.append_nil], .inl ⟨rfl, rfl⟩⟩
    · have hu : unitF x ≠ [] := fun h => hx (unitF_nil.mp h)
      refine ⟨glueL [10] (init.map unitF) ++ [10] ++ (unitF x).dropLast, (unitF x).getLast hu, ?_, .inr ⟨hx, unitF_ok (hq x (by simp)).ok _ (List.getLast_mem hu)⟩⟩
      rw [List.append_assoc _ _ [_], List.dropLast_concat_getLast]
  have heq := enc_all_eq (init := init) (w := w) hz
  have hall : encAll (dropE ((init ++ [x]).map unitF)) w z = ((init ++ [x]).flatMap (pcs w)).map mk := by unfold encAll; rw [heq]
  have hwt : wtL ((init ++ [x]).flatMap (pcs w)) ≤ 783 * 9 := Nat.le_trans (flat_wt fun t ht => pcs_wt (hq t ht).ulen) (Nat.mul_le_mul_left _ (by simp; lia))
  have hR : (init ++ [x]).length ≤ 9 := by simp; lia
  have hmem : ∀ y ∈ dropE ((init ++ [x]).map unitF), ∃ t ∈ init ++ [x], y = unitF t := by
    intro y hy
    have : y ∈ (init ++ [x]).map unitF := by
      rw [List.map_append, List.map_singleton, dropE_snoc] at hy
      rw [List.map_append, List.map_singleton]
      split at hy
      · exact List.mem_append_left _ hy
      · exact hy
    obtain ⟨t, ht, rfl⟩ := List.mem_map.mp this
    exact ⟨t, ht, rfl⟩
  have hb : (glueL [10] (init ++ [x])).length ≤ 28 * 9 := Nat.le_trans (glue_len [10] (by decide) _) (Nat.le_trans (map_wt fun t ht => by have := (hq t ht).len; lia) (Nat.mul_le_mul_left _ hR))
  have htr : (glueL [10] ((init ++ [x]).map unitF)).length ≤ 28 * 9 := by
    refine Nat.le_trans (glue_len [10] (by decide) _) (Nat.le_trans (map_wt (B := 28) fun t ht => ?_) (Nat.mul_le_mul_left _ (by rw [List.length_map]; exact hR)))
    obtain ⟨y, hy, rfl⟩ := List.mem_map.mp ht
    have : (unitF y).length ≤ 26 := (hq y hy).ulen
    lia
  have big : 20000 ≤ sizeLine := Nat.le_of_ble_eq_true rfl
  refine ⟨z, ⟨hw, ?_, ?_, ?_, ?_, ?_, ?_, ?_, ?_, ?_, ?_, ?_, crlf_of z, ?_, ?_, ?_⟩, hall⟩
  · intro n hn
    have hn : n ∈ glueL [10] (init ++ [x]) := by simpa using hn
    have h : okC n = true ∨ n = 10 := by
      rcases glue_mem _ _ n hn with h | ⟨t, ht, h⟩
      · exact .inr (List.mem_singleton.mp h)
      · exact .inl ((hq t ht).ok n h)
    refine ⟨?_, hl n h⟩
    rcases h with h | rfl
    · exact okC_lt h
    · decide
  · rw [mk_len, glue_snoc _ _ _ hi]
    simp
  · rw [mk_len]; lia
  · rw [mk_len]; lia
  · rw [trans_unit, unit_glue]
  · rw [mk_len]; lia
  · have := lineCuts_le (mk (glueL [10] ((init ++ [x]).map unitF)))
    rw [mk_len] at this
    lia
  · refine lines_glue (.inl rfl) (by simp) fun y hy n hn => ?_
    obtain ⟨t, ht, rfl⟩ := List.mem_map.mp hy
    exact (okC_is (unitF_ok (hq t ht).ok n hn)).1
  · intro y hy
    obtain ⟨t, ht, rfl⟩ := hmem y hy
    have : (unitF t).length ≤ 26 := (hq t ht).ulen
    lia
  · intro y hy n hn
    obtain ⟨t, ht, rfl⟩ := hmem y hy
    have := okC_is (unitF_ok (hq t ht).ok n (List.mem_of_getLast? hn))
    rw [white_of]
    exact decide_eq_false (by lia)
  · rw [hL]; exact last_at Y z
  · have h1 := congrArg List.length heq
    have h2 := len_wt ((init ++ [x]).flatMap (pcs w))
    rw [List.length_append] at h1
    show ((dropE ((init ++ [x]).map unitF)).flatMap (fun y => encLine y w)).length + 1 ≤ _
    lia
  · rw [hall, mk_len]
    exact long_mk hE2 _ (by lia)
  · rw [hall, glued_mk, mk_len]
    have := glue_len E hE2 ((init ++ [x]).flatMap (pcs w))
    lia
theorem decAll_app (e : List Nat) : ∀ a b : List (List Nat), decAll e (a ++ b) = (decAll e a).bind fun x => (decAll e b).map (x ++ ·)
  | [], b => by
    show decAll e b = (decAll e b).map ([] ++ ·)
    cases decAll e b <;> rfl
  | l :: a, b => by
    show (decLine l e).bind (fun x => (decAll e (a ++ b)).map (x ++ ·)) = ((decLine l e).bind fun x => (decAll e a).map (x ++ ·)).bind _
    rw [decAll_app e a b]
    cases decLine l e with
    | none => rfl
    | some y =>
      show ((decAll e a).bind fun x => (decAll e b).map (x ++ ·)).map (y ++ ·) = ((decAll e a).map (y ++ ·)).bind _
      cases decAll e a with
      | none => rfl
      | some z =>
        show ((decAll e b).map (z ++ ·)).map (y ++ ·) = (decAll e b).map ((y ++ z) ++ ·)
        cases decAll e b with
        | none => rfl
        | some v => show some (y ++ (z ++ v)) = some (y ++ z ++ v); rw [List.append_assoc]
theorem dec_flat {w : Nat} : ∀ {R : List (List Nat)}, (∀ t ∈ R, decAll [10] (pcs w t) = some (t ++ [10])) → decAll [10] (R.flatMap (pcs w)) = some (R.flatMap (· ++ [10]))
  | [], _ => rfl
  | t :: R, h => by
    rw [List.flatMap_cons, decAll_app, h t List.mem_cons_self, dec_flat fun x hx => h x (List.mem_cons_of_mem _ hx)]
    rfl
theorem slice_last (G : List Nat) (z : Nat) : sliceS (mk (G ++ [z])) none (some (-((mk ([z] : List Nat)).length : Int))) = mk G := by
  have e2 : Builtin.Str.strSliceIndices none (some (-((mk ([z] : List Nat)).length : Int))) 1 (mk (G ++ [z])).length = Builtin.Str.strSliceIndices none (some ((G.length : Nat) : Int)) 1 (mk (G ++ [z])).length := by
    unfold Builtin.Str.strSliceIndices
    rw [mk_len, mk_len, List.length_append, List.length_singleton]
    have h2 : ¬ ((G.length : Int) < 0) := by lia
    simp only [h2, if_false, show (1 : Int) > 0 by decide, if_true]
    rw [if_pos (by decide)]
    congr 1
    lia
  have h := sliceS_to (mk (G ++ [z])) G.length (by rw [mk_len]; simp)
  unfold sliceS at h ⊢
  rw [e2, h]
  simp
theorem ends_last (G : List Nat) (z : Nat) : Txt.endswith (mk (G ++ [z])) (mk [z]) = true := by
  unfold Txt.endswith Builtin.Str.subAt
  rw [mk_len, mk_len]
  simp
theorem dec_ok {init : List (List Nat)} {x E : List Nat} {w : Nat} (hi : init ≠ []) (hn : init.length ≤ 8) (hq : ∀ t ∈ init ++ [x], RowQ t w) (hw : 4 ≤ w) (hE : E = [10] ∨ E = [13, 10]) :
    ∃ ls tot z, DecOk (mk (glueL E ((init ++ [x]).flatMap (pcs w)))) [10] ls ls tot z (mk (glueL [10] (init ++ [x]))) := by
  have hE2 : E.length ≤ 2 := by rcases hE with rfl | rfl <;> decide
  have hEl : ∃ E', E = E' ++ [10] := by rcases hE with rfl | rfl; exact ⟨[], rfl⟩; exact ⟨[13], rfl⟩
  have hR : (init ++ [x]).length ≤ 9 := by simp; lia
  have hwt : wtL ((init ++ [x]).flatMap (pcs w)) ≤ 783 * 9 := Nat.le_trans (flat_wt fun t ht => pcs_wt (hq t ht).ulen) (Nat.mul_le_mul_left _ hR)
  have hdec : ∀ t ∈ init ++ [x], decAll [10] (pcs w t) = some (t ++ [10]) := fun t ht => (hq t ht).dec
  have hch : ∀ p ∈ (init ++ [x]).flatMap (pcs w), ∀ n ∈ p, okC n = true := by
    intro p hp n hn
    obtain ⟨t, ht, hp⟩ := List.mem_flatMap.mp hp
    rcases enc_chars _ _ _ _ p hp n hn with h | rfl
    · exact unitF_ok (hq t ht).ok n h
    · decide +kernel
  have hI : init.flatMap (pcs w) ≠ [] := by
    cases init with
    | nil => exact absurd rfl hi
    | cons a r =>
      rw [List.flatMap_cons]
      intro h
      exact pcs_ne w a (List.append_eq_nil_iff.mp h).1
  obtain ⟨I, y, hP, hI2, hy⟩ : ∃ I y, (init ++ [x]).flatMap (pcs w) = I ++ [y] ∧ I ≠ [] ∧ ((x = [] ∧ y = [] ∧ I = init.flatMap (pcs w)) ∨ (x ≠ [] ∧ y ≠ [])) := by
    rw [List.flatMap_append, List.flatMap_singleton]
    by_cases hx : x = []
    · subst hx
      exact ⟨_, [], rfl, hI, .inl ⟨rfl, rfl, rfl⟩⟩
    · have hp := pcs_ne w x
      have hu : 0 < (unitF x).length := List.length_pos_iff.mpr fun h => hx (unitF_nil.mp h)
      refine ⟨init.flatMap (pcs w) ++ (pcs w x).dropLast, (pcs w x).getLast hp, by rw [List.append_assoc, List.dropLast_concat_getLast], fun h => hI (List.append_eq_nil_iff.mp h).1, .inr ⟨hx, ?_⟩⟩
      exact enc_full (unitF x) w hw _ 0 hu _ (List.getLast_mem hp)
  have hbl : glueL E ((init ++ [x]).flatMap (pcs w)) = glueL E I ++ E ++ y := by rw [hP]; exact glue_snoc _ _ _ hI2
  have hlen : (glueL E ((init ++ [x]).flatMap (pcs w))).length ≤ 783 * 9 := Nat.le_trans (glue_len E hE2 _) hwt
  have hdr : dropE ((init ++ [x]).flatMap (pcs w)) = if y = [] then I else I ++ [y] := by rw [hP]; exact dropE_snoc _ _
  have hsub : ∀ p ∈ dropE ((init ++ [x]).flatMap (pcs w)), p ∈ (init ++ [x]).flatMap (pcs w) := by
    intro p hp
    rw [hdr] at hp
    rw [hP]
    split at hp
    · exact List.mem_append_left _ hp
    · exact hp
  have htot : ∀ R : List (List Nat), (∀ t ∈ R, t.length ≤ 26) → R.length ≤ 9 → (R.flatMap (· ++ [10])).length ≤ 300 := by
    intro R h1 h2
    by_cases h0 : R = []
    · subst h0; decide
    · rw [glue_end R h0, List.length_append]
      have := glue_len [10] (by decide) R
      have := map_wt (B := 28) (R := R) fun t ht => by have := h1 t ht; lia
      have : 28 * R.length ≤ 28 * 9 := Nat.mul_le_mul_left _ h2
      simp; lia
  have hcut : (lineCuts (mk (glueL E ((init ++ [x]).flatMap (pcs w))))).length ≤ 100000 := by
    have := lineCuts_le (mk (glueL E ((init ++ [x]).flatMap (pcs w))))
    rw [mk_len] at this
    lia
  have hne : (mk (glueL E ((init ++ [x]).flatMap (pcs w)))).length ≠ 0 := by
    rw [mk_len, hbl]
    obtain ⟨E', rfl⟩ := hEl
    simp
  have hlin := lines_glue hE (rows := (init ++ [x]).flatMap (pcs w)) (by rw [hP]; simp) fun p hp n hn => (okC_is (hch p hp n hn)).1
  have hsz : ∀ p ∈ dropE ((init ++ [x]).flatMap (pcs w)), p.length ≤ 100000 := fun p hp => by have := mem_wt (hsub p hp); lia
  have hst : (dropE ((init ++ [x]).flatMap (pcs w))).map (fun l => Txt.rstrip (mk l)) = (dropE ((init ++ [x]).flatMap (pcs w))).map mk :=
    List.map_congr_left fun p hp => rstrip_same fun n hn => (okC_is (hch p (hsub p hp) n hn)).2.1
  rcases hy with ⟨rfl, rfl, rfl⟩ | ⟨hx, hy⟩
  · obtain ⟨E', hE'⟩ := hEl
    refine ⟨dropE ((init ++ [[]]).flatMap (pcs w)), init.flatMap (· ++ [10]), 10, hne, by rw [mk_len]; lia, hcut, hlin, hst, hsz, hsz, ?_, ?_, by decide, ?_, ?_⟩
    · rw [hdr, if_pos rfl]
      exact dec_flat fun t ht => hdec t (List.mem_append_left _ ht)
    · exact Nat.le_trans (htot init (fun t ht => (hq t (List.mem_append_left _ ht)).len) (by lia)) (by decide)
    · rw [hbl, List.append_nil, hE', ← List.append_assoc]; exact last_at _ _
    · rw [crlf_of, glue_end init hi, glue_snoc _ _ _ hi, List.append_nil]
      simp
  · have hyl : ∃ y' z, y = y' ++ [z] := ⟨y.dropLast, y.getLast hy, (List.dropLast_concat_getLast hy).symm⟩
    obtain ⟨y', z, rfl⟩ := hyl
    have hz : okC z = true := hch (y' ++ [z]) (by rw [hP]; simp) z (by simp)
    have hz2 := okC_is hz
    refine ⟨dropE ((init ++ [x]).flatMap (pcs w)), (init ++ [x]).flatMap (· ++ [10]), z, hne, by rw [mk_len]; lia, hcut, hlin, hst, hsz, hsz, ?_, ?_, by decide, ?_, ?_⟩
    · rw [hdr, if_neg hy, ← hP]
      exact dec_flat hdec
    · exact Nat.le_trans (htot _ (fun t ht => (hq t ht).len) hR) (by decide)
    · rw [hbl, ← List.append_assoc]; exact last_at _ _
    · rw [crlf_of, glue_end _ (by simp), ends_last, slice_last, decide_eq_false (show ¬ (z = 13 ∨ z = 10) by lia)]
      rfl
theorem dbl_esc : ∀ l : List Nat, StrLaws.dbl 34 l = escQ l
  | [] => rfl
  | a :: l => by
    rw [escQ_cons]
    show (if a = 34 then a :: a :: StrLaws.dbl 34 l else a :: StrLaws.dbl 34 l) = _
    rw [dbl_esc l]
    split
    · rename_i h; subst h; rfl
    · rfl
theorem repl_esc (l : List Nat) : Txt.replace (mk l) "\"" "\"\"" = mk (escQ l) := by
  rw [replace_dbl (mk l) "\"" "\"\"" 34 (by kernel_rfl) (by kernel_rfl)]
  show (⟨(StrLaws.dbl 34 l).toArray⟩ : Str) = _
  rw [dbl_esc]
end Mine
namespace Mine
open PySem PySem.W PyProof.Rows
theorem pick_len {α : Type} (l : List α) (idx : List Nat) : (picks l idx).length ≤ idx.length := by unfold picks; exact List.length_filterMap_le _ _
theorem mixes_len' {lt : Nat → Nat → PV} (l0 : List Nat) (h0 : l0.length ≤ 8) : ∀ l : List Nat, (l.flatMap fun (one : Nat) => (l0.filter fun (two : Nat) => decide ((one : Int) < (two : Int))).map (lt one)).length ≤ 8 * l.length
  | [] => by simp
  | a :: l => by
    have ih := mixes_len' (lt := lt) l0 h0 l
    rw [List.flatMap_cons, List.length_append, List.length_map, List.length_cons]
    have := List.length_filter_le (fun (two : Nat) => decide ((a : Int) < (two : Int))) l0
    omega
theorem mixes_len {lt : Nat → Nat → PV} (l : List Nat) (h : l.length ≤ 8) : (mixesOf lt l).length ≤ 100 := by
  have := mixes_len' (lt := lt) l h l
  unfold mixesOf
  omega
theorem range_len (a b : Int) (c : Int) (hc : 0 < c) : ((sliceRange a b c).length : Int) ≤ max 0 (b - a) := by
  unfold sliceRange
  simp only [List.length_map, List.length_range, if_pos hc]
  split
  · have : (b - a + c - 1) / c ≤ b - a := by
      rename_i hab
      have h2 : b - a + c - 1 < (b - a + 1) * c := by
        have : (b - a + 1) * c = (b - a) * c + c := by rw [Int.add_mul, Int.one_mul]
        have h3 : (b - a) * 1 ≤ (b - a) * c := Int.mul_le_mul_of_nonneg_left (by omega) (by omega)
        omega
      have := Int.ediv_lt_of_lt_mul hc h2
      omega
    omega
  · omega
theorem cut60 (n : Nat) : (sliceRange (sliceBounds none (some 60) none n).1 (sliceBounds none (some 60) none n).2.1 (sliceBounds none (some 60) none n).2.2).length ≤ 60 := by
  have h := range_len (sliceBounds none (some 60) none n).1 (sliceBounds none (some 60) none n).2.1 (sliceBounds none (some 60) none n).2.2 (by show (0 : Int) < 1; decide)
  have e1 : (sliceBounds none (some 60) none n).1 = 0 := rfl
  have e2 : (sliceBounds none (some 60) none n).2.1 = max 0 (min 60 (n : Int)) := rfl
  have e3 : max 0 ((sliceBounds none (some 60) none n).2.1 - (sliceBounds none (some 60) none n).1) ≤ 60 := by rw [e1, e2]; omega
  omega
theorem cut3 (j n : Nat) : (sliceRange (sliceBounds (some (j : Int)) none (some 3) n).1 (sliceBounds (some (j : Int)) none (some 3) n).2.1 (sliceBounds (some (j : Int)) none (some 3) n).2.2).length ≤ n := by
  have h := range_len (sliceBounds (some (j : Int)) none (some 3) n).1 (sliceBounds (some (j : Int)) none (some 3) n).2.1 (sliceBounds (some (j : Int)) none (some 3) n).2.2 (by show (0 : Int) < 3; decide)
  have e1 : (sliceBounds (some (j : Int)) none (some 3) n).1 = max 0 (min (if (j : Int) < 0 then (j : Int) + n else (j : Int)) (n : Int)) := rfl
  have e2 : (sliceBounds (some (j : Int)) none (some 3) n).2.1 = (n : Int) := rfl
  have e3 : max 0 ((sliceBounds (some (j : Int)) none (some 3) n).2.1 - (sliceBounds (some (j : Int)) none (some 3) n).1) ≤ n := by rw [e1, e2]; split <;> omega
  omega
theorem first60 (ns : List Int) : (picks ns (sliceRange (sliceBounds none (some 60) none ns.length).1 (sliceBounds none (some 60) none ns.length).2.1 (sliceBounds none (some 60) none ns.length).2.2)).length ≤ 60 := Nat.le_trans (pick_len _ _) (cut60 _)
theorem third_len (ns : List Int) (j : Nat) : (thirdL ns (j : Int)).length ≤ 60 := by
  unfold thirdL
  rw [List.length_map]
  exact Nat.le_trans (pick_len _ _) (Nat.le_trans (cut3 _ _) (first60 ns))
theorem third_small (ns : List Int) (j : Nat) : ∀ x ∈ thirdL ns (j : Int), 0 ≤ x ∧ x ≤ 10000000 := by
  intro x hx
  unfold thirdL at hx
  obtain ⟨y, _, rfl⟩ := List.mem_map.mp hx
  have e : y.fmod 1000000 = y % 1000000 := Int.fmod_eq_emod_of_nonneg _ (by decide)
  rw [e]
  omega
theorem cell_nonneg (ns : List Int) (k : Nat) (hk : k < 3) : 0 ≤ cellOf ns k := by
  have h := (sum_take_small (thirdL ns (k : Int)) (thirdL ns (k : Int)).length (third_small ns k)).1
  rw [List.take_of_length_le (Nat.le_refl _)] at h
  unfold cellOf
  have : 0 ≤ toldOf3 k := by
    clear h
    rcases (by lia : k = 0 ∨ k = 1 ∨ k = 2) with rfl | rfl | rfl <;> decide
  omega
/-- the numbers that the law works with -/
structure LawN where
  r : Nat
  m : Nat
  p : Nat
  wd : Nat
  e : Nat
  mk' : Nat
  hi : Int
  sy : Int
  lt : Nat → Nat → PV
  lc : PV
  bl : List Nat
/-- what the walk of the law asks of its numbers and of what it calls -/
structure LawP (c : Cx) (k : Nat) (ns : List Int) (d : LawN) : Prop where
  hr : (cellOf ns 0).fmod 256 = (d.r : Int)
  hr2 : d.r < 256
  hh : 1 + ((cellOf ns 1).fdiv 2).fmod 64 = d.hi
  hsy : (cellOf ns 1).fmod 2 = d.sy
  hm : ((cellOf ns 1).fdiv 128).fmod 6 = (d.m : Int)
  hm6 : d.m < 6
  hmk : marks6[d.m]? = some d.mk'
  ok : Ok229 d.mk' d.r
  LT : ∀ lo, ∀ one two : Nat, one < two → two < 8 → Fn (c.at lo) k 184 [.lst (intsL (pairC one two)), .int d.hi, .int d.sy] (d.lt one two)
  hlt : ∀ one two : Nat, one < two → two < 8 → IsTri (d.lt one two)
  hcom : ∀ lo m m2 : Nat, ((toBs lo m (mixesOf d.lt (takenL d.r))).filter fun p => (toBs m m2 (mixesOf d.lt (leftL d.r))).any fun q => pvEq q p).isEmpty = alR d.r
  LTc : Fn c (k + 1) 184 [.lst (intsL [cnt d.r 0, cnt d.r 1, cnt d.r 2]), .int d.hi, .int (1 - d.sy)] d.lc
  hlc : IsTri d.lc
  hp5 : ∀ kk : Nat, kk < 8 → (cellOf ns 2 + (kk : Int)).fmod 5 = (((d.p + kk) % 5 : Nat) : Int)
  hw : 4 + ((cellOf ns 2).fdiv 5).fmod 40 = (d.wd : Int)
  he : ((cellOf ns 2).fdiv 200).fmod 2 = (d.e : Int)
  he2 : d.e < 2
  HB : Fn c (k + 1) 92 [.str (letterS d.r d.p), .int (d.wd : Int), .str (mk (eolC d.e))] (.str (mk d.bl))
  hsz : d.bl.length ≤ 20000
  hrep : Txt.replace (mk d.bl) "\"" "\"\"" = mk (escQ d.bl)
  HD : Fn c (k + 1) 100 [.str (mk d.bl)] (.str (letterS d.r d.p))
  hgl : (letterS d.r d.p).length ≤ 20000
  hsp : splitS (letterS d.r d.p) "\n" = eqHex d.r :: rowsL d.r d.p
  HW : ∀ x ∈ eqHex d.r :: rowsL d.r d.p, Fn c (k + 1) 199 [.str x, .int (d.wd : Int), .str (mk (eolC d.e))] (.str (mk (writ x.cps.toList d.wd (eolC d.e))))
  hgl2 : Builtin.Str.glued (mk (eolC d.e)) ((eqHex d.r :: rowsL d.r d.p).map fun x => mk (writ x.cps.toList d.wd (eolC d.e))) = mk d.bl
  htl : Builtin.Str.tooLong ((eqHex d.r :: rowsL d.r d.p).toArray.foldl (· + ·.length + ("\n" : Str).length) 0) = false
  htl2 : Builtin.Str.tooLong (((eqHex d.r :: rowsL d.r d.p).map fun x => mk (writ x.cps.toList d.wd (eolC d.e))).toArray.foldl (· + ·.length + (mk (eolC d.e)).length) 0) = false
  HV : FnNew c (k + 1) 128 [.lst (txts (handedL d.r d.p))] (.lst (txts (keptL d.r d.p)))
end Mine
namespace Mine
open PySem PySem.W PyProof.Rows
theorem dec_pos {x : UInt64} (h : posF x = true) : ∃ m E : Nat, Float64.decode x = .fin false m ((E : Int) - 1074) ∧ x.toNat = E * 2 ^ 52 + m ∧ m < 2 ^ 53 ∧ (E = 0 ∨ 2 ^ 52 ≤ m) := by
  have h := Nat.le_of_ble_eq_true h
  unfold Float64.decode
  have h1 : (x.toNat / 2 ^ 63 == 1) = false := beq_eq_false_iff_ne.mpr (by lia)
  have h2 : x.toNat / 2 ^ 52 % 2048 = x.toNat / 2 ^ 52 := by lia
  simp only [h1, h2]
  rw [if_neg (by rw [beq_iff_eq]; lia)]
  by_cases h0 : x.toNat / 2 ^ 52 = 0
  · rw [if_pos (by rw [beq_iff_eq]; exact h0)]
    exact ⟨x.toNat % 2 ^ 52, 0, rfl, by lia, by lia, .inl rfl⟩
  · rw [if_neg (by rw [beq_iff_eq]; exact h0)]
    refine ⟨2 ^ 52 + x.toNat % 2 ^ 52, x.toNat / 2 ^ 52 - 1, ?_, by lia, by lia, .inr (by lia)⟩
    congr 1
    lia
theorem same_of {m E k F : Nat} (hm : m < 2 ^ 53) (hF : F = 0 ∨ 2 ^ 52 ≤ k) (hEF : E ≤ F) (h : m = k * 2 ^ (F - E)) : m = k ∧ E = F := by
  by_cases he : E = F
  · subst he
    rw [Nat.sub_self, Nat.pow_zero, Nat.mul_one] at h
    exact ⟨h, rfl⟩
  · have h1 : 2 ^ 1 ≤ 2 ^ (F - E) := Nat.pow_le_pow_right (by decide) (by lia)
    have h2 : k * 2 ≤ k * 2 ^ (F - E) := Nat.mul_le_mul_left k h1
    lia
theorem cmp_pos {x y : UInt64} (hx : posF x = true) (hy : posF y = true) : (Float64.cmp x y == some .eq) = decide (x = y) := by
  obtain ⟨m, E, dx, bx, lm, nm⟩ := dec_pos hx
  obtain ⟨k, F, dy, bY, lk, nk⟩ := dec_pos hy
  have hc : Float64.cmp x y = some (compare ((m * 2 ^ (((E : Int) - 1074) - min ((E : Int) - 1074) ((F : Int) - 1074)).toNat : Nat) : Int) ((k * 2 ^ (((F : Int) - 1074) - min ((E : Int) - 1074) ((F : Int) - 1074)).toNat : Nat) : Int)) := by
    unfold Float64.cmp
    rw [dx, dy]
    rfl
  rw [hc]
  by_cases hxy : x = y
  · subst hxy
    rw [dx] at dy
    injection dy with _ e1 e2
    subst e1
    have e3 : E = F := by lia
    subst e3
    simp
  · rw [decide_eq_false hxy]
    apply beq_eq_false_iff_ne.mpr
    intro he
    injection he with he
    have he := Int.ofNat.inj (Std.LawfulEqCmp.eq_of_compare he)
    apply hxy
    apply UInt64.toNat_inj.mp
    rw [bx, bY]
    by_cases hEF : E ≤ F
    · have e1 : (((E : Int) - 1074) - min ((E : Int) - 1074) ((F : Int) - 1074)).toNat = 0 := by lia
      have e2 : (((F : Int) - 1074) - min ((E : Int) - 1074) ((F : Int) - 1074)).toNat = F - E := by lia
      rw [e1, e2, Nat.pow_zero, Nat.mul_one] at he
      obtain ⟨a, b⟩ := same_of lm nk hEF he
      rw [a, b]
    · have e1 : (((F : Int) - 1074) - min ((E : Int) - 1074) ((F : Int) - 1074)).toNat = 0 := by lia
      have e2 : (((E : Int) - 1074) - min ((E : Int) - 1074) ((F : Int) - 1074)).toNat = E - F := by lia
      rw [e1, e2, Nat.pow_zero, Nat.mul_one] at he
      obtain ⟨a, b⟩ := same_of lk nm (by lia) he.symm
      rw [a, b]
end Mine
namespace Mine
open PySem PySem.W PyProof.Rows
/-- the pairs of colours, each as how often a lamp burns -/
noncomputable def pairsOf (cs : List Nat) : List (List Int) := cs.flatMap fun (one : Nat) => (cs.filter fun (two : Nat) => decide ((one : Int) < (two : Int))).map (pairC one)
noncomputable def comR (r : Nat) : Bool := ((pairsOf (takenL r)).filter fun t => (pairsOf (leftL r)).any fun u => u == t).isEmpty == alR r
noncomputable def inReach (t : List Int) : Bool := match t with
  | [a, b, d] => reachL.contains (a, b, d)
  | _ => false
theorem reach_small : (reachL.all fun t => decide (0 ≤ t.1 ∧ t.1 ≤ 8 ∧ 0 ≤ t.2.1 ∧ t.2.1 ≤ 8 ∧ 0 ≤ t.2.2 ∧ t.2.2 ≤ 8)) = true := by decide +kernel
theorem pair_all : ((List.range 8).all fun one => (List.range 8).all fun two => !(decide (one < two)) || inReach (pairC one two)) = true := by decide +kernel
noncomputable def comF (r : Nat) : Bool := (((pairsOf (takenL r)).filter fun t => (pairsOf (leftL r)).any fun u => u == t).isEmpty == alF r) && inReach [cnt r 0, cnt r 1, cnt r 2]
theorem com_blk0 : ((List.range 32).all fun i => comF (i + 32 * 0)) = true := by decide +kernel
theorem com_blk1 : ((List.range 32).all fun i => comF (i + 32 * 1)) = true := by decide +kernel
theorem com_blk2 : ((List.range 32).all fun i => comF (i + 32 * 2)) = true := by decide +kernel
theorem com_blk3 : ((List.range 32).all fun i => comF (i + 32 * 3)) = true := by decide +kernel
theorem com_blk4 : ((List.range 32).all fun i => comF (i + 32 * 4)) = true := by decide +kernel
theorem com_blk5 : ((List.range 32).all fun i => comF (i + 32 * 5)) = true := by decide +kernel
theorem com_blk6 : ((List.range 32).all fun i => comF (i + 32 * 6)) = true := by decide +kernel
theorem com_blk7 : ((List.range 32).all fun i => comF (i + 32 * 7)) = true := by decide +kernel
theorem com_all {r : Nat} (h : r < 256) : comR r = true ∧ inReach [cnt r 0, cnt r 1, cnt r 2] = true := by
  have := blk8 (f := comF) (eight com_blk0 com_blk1 com_blk2 com_blk3 com_blk4 com_blk5 com_blk6 com_blk7) h
  unfold comR
  rw [alR_eq]
  exact Bool.and_eq_true_iff.mp this
theorem pair_reach {one two : Nat} (h : one < two) (h2 : two < 8) : inReach (pairC one two) = true := by
  have := all_range (all_range pair_all (show one < 8 by lia)) h2
  rw [decide_eq_true h] at this
  simpa using this
theorem reach_is {t : List Int} (h : inReach t = true) : ∃ a b d, t = [a, b, d] ∧ (a, b, d) ∈ reachL ∧ (0 ≤ a ∧ a ≤ 8) ∧ (0 ≤ b ∧ b ≤ 8) ∧ (0 ≤ d ∧ d ≤ 8) := by
  unfold inReach at h
  split at h
  · rename_i a b d
    have hm : (a, b, d) ∈ reachL := by simpa using h
    have := of_decide_eq_true (List.all_eq_true.mp reach_small _ hm)
    exact ⟨a, b, d, rfl, hm, ⟨this.1, this.2.1⟩, ⟨this.2.2.1, this.2.2.2.1⟩, this.2.2.2.2⟩
  · cases h
/-- hue, share and level -/
noncomputable def litH (sy : Int) (t : List Int) (hi : Int) : UInt64 × UInt64 × UInt64 :=
  if sy = 1 then
    let r := hlsF (qF (t.getD 0 0 * hi) 256) (qF (t.getD 1 0 * hi) 256) (qF (t.getD 2 0 * hi) 256)
    (r.1, r.2.2, r.2.1)
  else hsvF (qF (t.getD 0 0 * hi) 256) (qF (t.getD 1 0 * hi) 256) (qF (t.getD 2 0 * hi) 256)
noncomputable def litV (sy : Int) (hi : Int) (t : List Int) : PV := tri (litH sy t hi)
theorem lit_ok {a b d hi : Int} (hm : (a, b, d) ∈ reachL) (h : 1 ≤ hi ∧ hi ≤ 64) : light1 (a * hi) (b * hi) (d * hi) = true ∧ light0 (a * hi) (b * hi) (d * hi) = true := by
  have h1 := lit_all _ hm
  unfold litAll at h1
  have h2 := all_range h1 (show (hi - 1).toNat < 64 by lia)
  have e : (((hi - 1).toNat : Nat) : Int) + 1 = hi := by lia
  simp only [e, Bool.and_eq_true] at h2
  exact ⟨light1_of h2.1, light0_of h2.2⟩
noncomputable def backF (sy : Int) (p : UInt64 × UInt64 × UInt64) : UInt64 × UInt64 × UInt64 := if sy = 1 then unhlsF p.1 p.2.2 p.2.1 else unhsvF p.1 p.2.1 p.2.2
theorem lit_told {sy a b d hi : Int} (hm : (a, b, d) ∈ reachL) (h : 1 ≤ hi ∧ hi ≤ 64) :
    posF (litH sy [a, b, d] hi).1 = true ∧ posF (litH sy [a, b, d] hi).2.1 = true ∧ posF (litH sy [a, b, d] hi).2.2 = true ∧
    [toldOf (backF sy (litH sy [a, b, d] hi)).1, toldOf (backF sy (litH sy [a, b, d] hi)).2.1, toldOf (backF sy (litH sy [a, b, d] hi)).2.2] = [a * hi, b * hi, d * hi] := by
  obtain ⟨h1, h0⟩ := lit_ok hm h
  unfold litH backF
  by_cases hs : sy = 1
  · rw [if_pos hs]
    unfold light1 litOk at h1
    simp only [Bool.and_eq_true] at h1
    simp only [if_pos hs]
    exact ⟨h1.2.1.1.1.1.1.1.1.1.1, h1.2.1.1.1.1.1.1.1.1.2, h1.2.1.1.1.1.1.1.1.2, eq_of_beq h1.2.2⟩
  · rw [if_neg hs]
    unfold light0 litOk at h0
    simp only [Bool.and_eq_true] at h0
    simp only [if_neg hs]
    exact ⟨h0.2.1.1.1.1.1.1.1.1.1, h0.2.1.1.1.1.1.1.1.1.2, h0.2.1.1.1.1.1.1.1.2, eq_of_beq h0.2.2⟩
theorem lit_tri {sy hi : Int} {t : List Int} (hr : inReach t = true) (h : 1 ≤ hi ∧ hi ≤ 64) : IsTri (litV sy hi t) := by
  obtain ⟨a, b, d, rfl, hm, _⟩ := reach_is hr
  obtain ⟨p1, p2, p3, _⟩ := lit_told (sy := sy) hm h
  exact ⟨_, _, _, rfl, by rw [cmp_pos p1 p1]; simp, by rw [cmp_pos p2 p2]; simp, by rw [cmp_pos p3 p3]; simp⟩
theorem lit_eq {sy hi : Int} {t u : List Int} (ht : inReach t = true) (hu : inReach u = true) (h : 1 ≤ hi ∧ hi ≤ 64) (i j k l : Nat) : pvEq (toB i j (litV sy hi u)) (toB k l (litV sy hi t)) = (u == t) := by
  obtain ⟨a, b, d, rfl, hm, _⟩ := reach_is ht
  obtain ⟨a', b', d', rfl, hm', _⟩ := reach_is hu
  obtain ⟨p1, p2, p3, p4⟩ := lit_told (sy := sy) hm h
  obtain ⟨q1, q2, q3, q4⟩ := lit_told (sy := sy) hm' h
  show ((Float64.cmp (litH sy [a', b', d'] hi).1 (litH sy [a, b, d] hi).1 == some .eq) && ((Float64.cmp (litH sy [a', b', d'] hi).2.1 (litH sy [a, b, d] hi).2.1 == some .eq) && ((Float64.cmp (litH sy [a', b', d'] hi).2.2 (litH sy [a, b, d] hi).2.2 == some .eq) && true))) = _
  rw [cmp_pos q1 p1, cmp_pos q2 p2, cmp_pos q3 p3]
  by_cases he : ([a', b', d'] : List Int) = [a, b, d]
  · rw [he]; simp
  · have e0 : (([a', b', d'] : List Int) == [a, b, d]) = false := beq_eq_false_iff_ne.mpr he
    rw [e0]
    apply Bool.eq_false_iff.mpr
    intro hh
    simp only [Bool.and_eq_true, decide_eq_true_eq] at hh
    obtain ⟨e1, e2, e3, _⟩ := hh
    have e : litH sy [a', b', d'] hi = litH sy [a, b, d] hi := Prod.ext e1 (Prod.ext e2 e3)
    rw [e, p4] at q4
    injection q4 with q1 q4
    injection q4 with q2 q4
    injection q4 with q3 _
    have hz : hi ≠ 0 := by lia
    exact he (by rw [Int.eq_of_mul_eq_mul_right hz q1.symm, Int.eq_of_mul_eq_mul_right hz q2.symm, Int.eq_of_mul_eq_mul_right hz q3.symm])
theorem mixes_are {L : List Int → PV} (cs : List Nat) : mixesOf (fun one two => L (pairC one two)) cs = (pairsOf cs).map L := by
  unfold mixesOf pairsOf
  rw [List.map_flatMap]
  congr 1
  funext one
  rw [List.map_map]; rfl
theorem pairs_reach {cs : List Nat} (h : ∀ n ∈ cs, n < 8) : ∀ t ∈ pairsOf cs, inReach t = true := by
  intro t ht
  unfold pairsOf at ht
  obtain ⟨one, h1, ht⟩ := List.mem_flatMap.mp ht
  obtain ⟨two, h2, rfl⟩ := List.mem_map.mp ht
  obtain ⟨h2, h3⟩ := List.mem_filter.mp h2
  have h3 := of_decide_eq_true h3
  exact pair_reach (by lia) (h two h2)
theorem com_of {r : Nat} {sy hi : Int} (hr : r < 256) (h : 1 ≤ hi ∧ hi ≤ 64) (lo m m2 : Nat) :
    ((toBs lo m (mixesOf (fun one two => litV sy hi (pairC one two)) (takenL r))).filter fun p => (toBs m m2 (mixesOf (fun one two => litV sy hi (pairC one two)) (leftL r))).any fun q => pvEq q p).isEmpty = alR r := by
  rw [mixes_are, mixes_are, toBs_map, toBs_map, List.map_map, List.map_map, List.filter_map, List.isEmpty_map]
  have hc := (com_all hr).1
  unfold comR at hc
  rw [← eq_of_beq hc]
  congr 1
  refine List.filter_congr fun t ht => ?_
  show (List.any _ _) = _
  rw [List.any_map]
  have key : ∀ us : List (List Int), (∀ u ∈ us, inReach u = true) → (us.any ((fun q => pvEq q (toB lo m (litV sy hi t))) ∘ (toB m m2 ∘ litV sy hi))) = us.any fun u => u == t := by
    intro us
    induction us with
    | nil => intro _; rfl
    | cons u us ih =>
      intro hus
      rw [List.any_cons, List.any_cons, ih fun v hv => hus v (List.mem_cons_of_mem _ hv)]
      congr 1
      exact lit_eq (pairs_reach (taken_lt r) t ht) (hus u List.mem_cons_self) h _ _ _ _
  exact key _ (pairs_reach (left_lt r))
end Mine
namespace Mine
open PySem PySem.W PyProof.Rows
theorem q256_all : ((List.range 513).all fun n => !(Float64.isInf (qFF (n : Int) 256))) = true := by decide +kernel
theorem q512_all : ((List.range 1025).all fun n => !(Float64.isInf (qFF (n : Int) 512))) = true := by decide +kernel
theorem q256 {n : Int} (h : 0 ≤ n ∧ n ≤ 512) : Float64.isInf (qF n 256) = false := by
  have := all_range q256_all (show n.toNat < 513 by lia)
  rw [show ((n.toNat : Nat) : Int) = n by lia, qFF_eq] at this
  simpa using this
theorem q512 {n : Int} (h : 0 ≤ n ∧ n ≤ 1024) : Float64.isInf (qF n 512) = false := by
  have := all_range q512_all (show n.toNat < 1025 by lia)
  rw [show ((n.toNat : Nat) : Int) = n by lia, qFF_eq] at this
  simpa using this
theorem inf12 : Float64.isInf (Float64.ofInt 12) = false := by decide +kernel
theorem inf512 : Float64.isInf (Float64.ofInt 512) = false := by decide +kernel
theorem lit_tail {na nb nd : Int} {hue share level due : UInt64} {space : Int} {back : UInt64 × UInt64 × UInt64} (h : litOk na nb nd hue share level due space back = true)
    (hb : -(2 ^ 62) < maxL [na, nb, nd] - minL [na, nb, nd] ∧ maxL [na, nb, nd] - minL [na, nb, nd] < 2 ^ 62) : LitTail na nb nd hue share level due space back := by
  unfold litOk at h
  simp only [Bool.and_eq_true, Bool.not_eq_true'] at h
  obtain ⟨⟨⟨⟨⟨⟨⟨hp, h1⟩, h2⟩, h3⟩, h4⟩, h5⟩, h6⟩, h7⟩ := h
  refine ⟨h1, fun ha => ?_, fun ha => ?_, inf12, h3, inf512, h4, hb, ⟨h5.1.1, h5.1.2, h5.2⟩, ?_, eq_of_beq h7⟩
  · rw [if_neg ha] at h2
    simp only [Bool.and_eq_true, Bool.not_eq_true'] at h2
    exact ⟨h2.1.1, h2.1.2, h2.2⟩
  · rw [if_pos ha] at h2
    simpa only [Bool.and_eq_true, Bool.not_eq_true'] using h2
  · have h6 := eq_of_beq h6
    have e : (if (maxL [na, nb, nd] - minL [na, nb, nd] != 0) = true then 6 * (maxL [na, nb, nd] - minL [na, nb, nd]) else 1) = if maxL [na, nb, nd] - minL [na, nb, nd] = 0 then 1 else 6 * (maxL [na, nb, nd] - minL [na, nb, nd]) := by
      by_cases h0 : maxL [na, nb, nd] - minL [na, nb, nd] = 0
      · rw [if_pos h0, if_neg (by rw [h0]; decide)]
      · rw [if_neg h0, if_pos (by simpa using h0)]
    rw [e]
    exact h6
section
variable {c : Cx} (G : Glob c) {k : Nat}
include G
theorem fn_lit {hi sy : Int} {t : List Int} {f4 f5 f6 f7 f8 fl : Addr} (hr : inReach t = true) (h : 1 ≤ hi ∧ hi ≤ 64) (hs : sy = 0 ∨ sy = 1) (N4 : FnName c "rgb_to_hls" f4) (D4 : DefAt c 4 f4) (N5 : FnName c "hls_to_rgb" f5) (D5 : DefAt c 5 f5)
    (N6 : FnName c "_v" f6) (D6 : DefAt c 6 f6) (N7 : FnName c "rgb_to_hsv" f7) (D7 : DefAt c 7 f7) (N8 : FnName c "hsv_to_rgb" f8) (D8 : DefAt c 8 f8) (D : DefAt c 42 fl) :
    Fn c (k + 3) fl [.lst (intsL t), .int hi, .int sy] (litV sy hi t) := by
  obtain ⟨a, b, d, rfl, hm, ha, hb, hd⟩ := reach_is hr
  obtain ⟨l1, l0⟩ := lit_ok hm h
  have mul : ∀ x : Int, 0 ≤ x ∧ x ≤ 8 → 0 ≤ x * hi ∧ x * hi ≤ 512 := fun x hx => ⟨Int.mul_nonneg hx.1 (by lia), by
    have h1 : x * hi ≤ 8 * hi := Int.mul_le_mul_of_nonneg_right hx.2 (by lia)
    lia⟩
  have mem : ∀ n ∈ [a * hi, b * hi, d * hi], 0 ≤ n ∧ n ≤ 512 := by
    intro n hn
    simp only [List.mem_cons, List.not_mem_nil, or_false] at hn
    rcases hn with rfl | rfl | rfl
    · exact mul a ha
    · exact mul b hb
    · exact mul d hd
  have hmax := mem _ (maxL_spec (l := [a * hi, b * hi, d * hi]) (by simp)).1
  have hmin := mem _ (minL_spec (l := [a * hi, b * hi, d * hi]) (by simp)).1
  have hsm : ∀ n ∈ [a, b, d], -(2 ^ 64) < n ∧ n < 2 ^ 64 := by
    intro n hn
    simp only [List.mem_cons, List.not_mem_nil, or_false] at hn
    rcases hn with rfl | rfl | rfl <;> lia
  have hinf : ∀ n ∈ [a * hi, b * hi, d * hi], Float64.isInf (qF n 256) = false := fun n hn => q256 (mem n hn)
  rcases hs with rfl | rfl
  · unfold light0 at l0
    simp only [Bool.and_eq_true] at l0
    have := fn_light0 G (k := k + 2) (a := a) (b := b) (d := d) (high := hi) (hue := (hsvF (qF (a * hi) 256) (qF (b * hi) 256) (qF (d * hi) 256)).1) (share := (hsvF (qF (a * hi) 256) (qF (b * hi) 256) (qF (d * hi) 256)).2.1) (level := (hsvF (qF (a * hi) 256) (qF (b * hi) 256) (qF (d * hi) 256)).2.2) N7 N8 rfl
      (fn_hsv G (k := k + 1) l0.1.1 D7) (fn_unhsv G (k := k + 1) l0.1.2 D8) (q256 hmax) (lit_tail l0.2 (by lia)) hsm hinf D
    exact this
  · unfold light1 at l1
    simp only [Bool.and_eq_true] at l1
    have := fn_light1 G (k := k + 2) (a := a) (b := b) (d := d) (high := hi) (hue := (hlsF (qF (a * hi) 256) (qF (b * hi) 256) (qF (d * hi) 256)).1) (level := (hlsF (qF (a * hi) 256) (qF (b * hi) 256) (qF (d * hi) 256)).2.1) (share := (hlsF (qF (a * hi) 256) (qF (b * hi) 256) (qF (d * hi) 256)).2.2) N4 N5 rfl
      (fn_hls G (k := k + 1) l1.1 D4) (fn_unhls G (k := k + 1) N6 (fun _ _ _ => fn_v G (k := k) D6) D5) (q512 (by lia)) (lit_tail l1.2 (by lia)) hsm hinf D
    exact this
end
end Mine
namespace Mine
open PySem PySem.W PyProof.Rows
/-- a function with two defaults -/
noncomputable def DefE (c : Cx) (n : Nat) (f : Addr) : Prop := ∃ fx T o m a b, FnAt c f (mkFd n fx (.ref T)) ∧ c.K.lookup T = some o ∧ o.data = .seq #[a, b] m
noncomputable def encS (n : Nat) : Str := if (32 ≤ n && n ≤ 126 && n != 61) || n == 9 || n == 10 || n == 13 then ⟨#[n]⟩ else ⟨#[61, hexUp (n / 16), hexUp (n % 16)]⟩
noncomputable def encL : List PV := (List.range 256).map fun n => .str (encS n)
theorem enc_signs : ((List.range 128).all fun n => !(okC n || n == 10) || (encS n == qmS n)) = true := by decide +kernel
theorem enc_get (n : Nat) (h : okC n = true ∨ n = 10) : encL[n]? = some (.str (qmS n)) := by
  have hn : n < 128 := by
    rcases h with h | rfl
    · exact okC_lt h
    · decide
  have h2 : (okC n || n == 10) = true := by
    rcases h with h | rfl
    · rw [h]; rfl
    · simp
  have := all_range enc_signs hn
  rw [h2] at this
  have e : encS n = qmS n := eq_of_beq (by simpa using this)
  unfold encL
  rw [List.getElem?_map, List.getElem?_range (by lia)]
  show some (PV.str (encS n)) = _
  rw [e]
section
variable {c : Cx} (G : Glob c) {k : Nat} {f : Addr}
include G
theorem fn_enc2 {body tr eol : Str} {w : Nat} {ls : List (List Nat)} {qm : Nat → Str} {l : List PV} {z : Nat} (M : GConst c "_QUOPRI_BODY_ENCODE_MAP" (.lst l)) (CR : GConst c "CRLF" (.str "\r\n")) (H : EncOk body tr eol w ls qm l z) (D : DefE c 28 f) : Fn c (k + 1) f [.str body, .int (w : Int), .str eol] (.str (Builtin.Str.glued eol (encAll ls w z))) := by
  obtain ⟨fx, T, o, m, a, b, FA, hT, ho⟩ := D
  refine fn_of (ps := ["body", "maxlinelen", "eol"]) (ls := ["soft_break", "maxlinelen1", "encoded_body", "append", "line", "start", "laststart", "stop", "room", "q"]) (dargs := []) (fr := false) FA rfl (fun s vals B hl => ⟨[], fun _ _ _ _ => Rds.nil, ?_⟩) rfl (by decide +kernel) ?_ (fun L hE X0 => ?_) (by kernel_rfl) (by kernel_rfl) (by kernel_rfl)
  · obtain ⟨a0, a1, a2, rfl⟩ := len3 hl
    exact BindsTo.of_defaults rfl (B.k _ _ hT) ho rfl rfl
  · show ∀ x ∈ (["body", "maxlinelen", "eol"] : List Str), (dScope (stAt 28)).names.lookup x = some .local ∨ ((dScope (stAt 28)).names.lookup x = some .cell ∧ ((cellsFrom 0 (dScope (stAt 28)).names []).lookup x).isSome = true)
    decide +kernel
  · exact run_enc G M CR H
end
/-- what the text's top has left -/
structure Scene (c : Cx) : Prop where
  g : Glob c
  glo : ∀ lo, Glob (c.at lo)
  n4 : FnName c "rgb_to_hls" 21 ∧ DefAt c 4 21
  n5 : FnName c "hls_to_rgb" 28 ∧ DefAt c 5 28
  n6 : FnName c "_v" 35 ∧ DefAt c 6 35
  n7 : FnName c "rgb_to_hsv" 42 ∧ DefAt c 7 42
  n8 : FnName c "hsv_to_rgb" 49 ∧ DefAt c 8 49
  n23 : FnName c "unquote" 72 ∧ DefAt c 23 72
  n24 : FnName c "quote" 79 ∧ DefAt c 24 79
  n28 : FnName c "body_encode" 92 ∧ DefE c 28 92
  n29 : FnName c "decode" 100 ∧ DefD c 29 100 (mk [10])
  n31 : FnName c "_iter_escaped_chars" 107 ∧ DefAt c 31 107
  n32 : FnName c "_strip_quoted_realnames" 114 ∧ DefAt c 32 114
  n33 : FnName c "_check_parenthesis" 121 ∧ DefAt c 33 121
  n34 : FnName c "_pre_parse_validation" 128 ∧ DefAt c 34 128
  n39 : FnName c "parse229" 172 ∧ DefAt c 39 172
  n40 : FnName c "parse257" 179 ∧ DefAt c 40 179
  n42 : FnName c "_law_light" 184 ∧ DefAt c 42 184
  n43 : FnName c "_law_mixes" 189 ∧ DefAt c 43 189
  n44 : FnName c "_law_twins" 194 ∧ DefAt c 44 194
  n45 : FnName c "_law_written" 199 ∧ DefAt c 45 199
  n46 : DefAt c 46 204
  qmap : GConst c "_QUOPRI_MAP" (.lst qmapL)
  emap : GConst c "_QUOPRI_BODY_ENCODE_MAP" (.lst encL)
  crlf : GConst c "CRLF" (.str "\r\n")
  hexd : GConst c "hexdigits" (.str hexS)
noncomputable def rowsC (r p : Nat) : List (List Nat) := wordC r :: (List.range 8).map (rowC r p)
theorem rows_mk (r p : Nat) : eqHex r :: rowsL r p = (rowsC r p).map mk := by
  unfold rowsC rowsL
  rw [List.map_cons, List.map_map]; rfl
theorem rows_snoc (r p : Nat) : rowsC r p = (wordC r :: (List.range 7).map (rowC r p)) ++ [rowC r p 7] := rfl
theorem rows_q {r p w : Nat} (hr : r < 256) (hw : 4 ≤ w) : ∀ t ∈ rowsC r p, RowQ t w := by
  intro t ht
  unfold rowsC at ht
  rcases List.mem_cons.mp ht with rfl | ht
  · exact word_q hr hw
  · obtain ⟨k, hk, rfl⟩ := List.mem_map.mp ht
    exact row_q hr (List.mem_range.mp hk) hw
theorem letter_mk (r p : Nat) : letterS r p = mk (glueL [10] (rowsC r p)) := by
  unfold letterS
  rw [rows_mk, show ("\n" : Str) = mk [10] by kernel_rfl, glued_mk]
theorem eolC_is {e : Nat} (h : e < 2) : eolC e = [10] ∨ eolC e = [13, 10] := by
  match e, h with
  | 0, _ => exact .inl rfl
  | 1, _ => exact .inr rfl
theorem law_ok {c : Cx} (S : Scene c) (ns : List Int) (k : Nat) : ∃ d, LawP c (k + 10) ns d := by
  have h0 := cell_nonneg ns 0 (by decide)
  have h1 := cell_nonneg ns 1 (by decide)
  have h2 := cell_nonneg ns 2 (by decide)
  generalize hc0 : cellOf ns 0 = c0 at h0
  generalize hc1 : cellOf ns 1 = c1 at h1
  generalize hc2 : cellOf ns 2 = c2 at h2
  have fm : ∀ a b : Int, 0 ≤ b → a.fmod b = a % b := fun a b hb => Int.fmod_eq_emod_of_nonneg a hb
  have fd : ∀ a b : Int, 0 ≤ b → a.fdiv b = a / b := fun a b hb => Int.fdiv_eq_ediv_of_nonneg a hb
  have hr2 : (c0 % 256).toNat < 256 := by lia
  have hw4 : 4 ≤ (4 + (c2 / 5) % 40).toNat ∧ (4 + (c2 / 5) % 40).toNat ≤ 1000 := by lia
  have he2 : ((c2 / 200) % 2).toNat < 2 := by lia
  have hhi : 1 ≤ 1 + (c1 / 2) % 64 ∧ 1 + (c1 / 2) % 64 ≤ 64 := by lia
  have hsy : c1 % 2 = 0 ∨ c1 % 2 = 1 := by lia
  have hm6 : ((c1 / 128) % 6).toNat < 6 := by lia
  obtain ⟨mk', hmk, hmem⟩ : ∃ mk', marks6[((c1 / 128) % 6).toNat]? = some mk' ∧ mk' ∈ marks6 := by
    have hl : ((c1 / 128) % 6).toNat < marks6.length := hm6
    exact ⟨marks6[((c1 / 128) % 6).toNat], List.getElem?_eq_getElem hl, List.getElem_mem hl⟩
  have er : ((c0 % 256).toNat : Int) = c0 % 256 := by lia
  have ew : ((4 + (c2 / 5) % 40).toNat : Int) = 4 + (c2 / 5) % 40 := by lia
  have ee : (((c2 / 200) % 2).toNat : Int) = (c2 / 200) % 2 := by lia
  have em : (((c1 / 128) % 6).toNat : Int) = (c1 / 128) % 6 := by lia
  have ep : ((c2 % 5).toNat : Int) = c2 % 5 := by lia
  generalize (c0 % 256).toNat = r at hr2 er
  generalize (4 + (c2 / 5) % 40).toNat = wd at hw4 ew
  generalize ((c2 / 200) % 2).toNat = e at he2 ee
  generalize ((c1 / 128) % 6).toNat = m at hm6 em hmk
  generalize hpp : (c2 % 5).toNat = p at ep
  generalize hhie : 1 + (c1 / 2) % 64 = hi at hhi
  generalize hsye : c1 % 2 = sy at hsy
  have hq := rows_q (p := p) hr2 hw4.1
  have hE := eolC_is he2
  have hE2 : (eolC e).length ≤ 2 := by rcases hE with h | h <;> rw [h] <;> decide
  rw [rows_snoc] at hq
  have hi7 : (wordC r :: (List.range 7).map (rowC r p)) ≠ [] := List.cons_ne_nil _ _
  have hl7 : (wordC r :: (List.range 7).map (rowC r p)).length ≤ 8 := by rw [List.length_cons, List.length_map, List.length_range]; exact Nat.le_refl _
  obtain ⟨z, hEnc, hAll⟩ := enc_ok (E := eolC e) (l := encL) hi7 hl7 hq hw4 hE enc_get
  obtain ⟨ls, tot, z2, hDec⟩ := dec_ok (E := eolC e) hi7 hl7 hq hw4.1 hE
  rw [← rows_snoc] at hq hEnc hAll hDec
  have hwt : wtL ((rowsC r p).flatMap (pcs wd)) ≤ 783 * 9 := flat_wt fun t ht => pcs_wt (hq t ht).ulen
  have hbl : glueL (eolC e) ((rowsC r p).flatMap (pcs wd)) = glueL (eolC e) ((rowsC r p).map fun t => writ t wd (eolC e)) := glue_writ _ hw4.1 _
  have hB : (glueL (eolC e) ((rowsC r p).flatMap (pcs wd))).length ≤ 783 * 9 := Nat.le_trans (glue_len _ hE2 _) hwt
  have hrw : wtL (rowsC r p) ≤ 28 * 9 := map_wt fun t ht => by have := (hq t ht).len; lia
  have hL : (letterS r p).length ≤ 28 * 9 := by
    rw [letter_mk, mk_len]
    exact Nat.le_trans (glue_len [10] (by decide) _) hrw
  have hxs : (eqHex r :: rowsL r p).map (fun x => mk (writ x.cps.toList wd (eolC e))) = ((rowsC r p).map fun t => writ t wd (eolC e)).map mk := by
    rw [rows_mk, List.map_map, List.map_map]; rfl
  have hww : wtL ((rowsC r p).map fun t => writ t wd (eolC e)) ≤ 785 * 9 := by
    refine Nat.le_trans (map_wt (B := 785) fun x hx => ?_) (by rw [List.length_map]; exact Nat.le_refl _)
    obtain ⟨t, ht, rfl⟩ := List.mem_map.mp hx
    rw [← row_written t wd hw4.1 (eolC e)]
    have h1 := glue_len (eolC e) hE2 (pcs wd t)
    have h2 := pcs_wt (w := wd) (hq t ht).ulen
    show (glueL (eolC e) (pcs wd t)).length + 2 ≤ 785
    lia
  have FL : ∀ (c' : Cx) (j : Nat), Glob c' → (∀ {x : Str} {f : Addr}, FnName c x f → FnName c' x f) → (∀ {n : Nat} {f : Addr}, DefAt c n f → DefAt c' n f) → ∀ (t : List Int) (sy : Int), inReach t = true → (sy = 0 ∨ sy = 1) → Fn c' (j + 3) 184 [.lst (intsL t), .int hi, .int sy] (litV sy hi t) :=
    fun c' j G' Nf Df t sy ht hs => fn_lit G' ht hhi hs (Nf S.n4.1) (Df S.n4.2) (Nf S.n5.1) (Df S.n5.2) (Nf S.n6.1) (Df S.n6.2) (Nf S.n7.1) (Df S.n7.2) (Nf S.n8.1) (Df S.n8.2) (Df S.n42.2)
  refine ⟨⟨r, m, p, wd, e, mk', hi, sy, fun one two => litV sy hi (pairC one two), litV (1 - sy) hi [cnt r 0, cnt r 1, cnt r 2], glueL (eolC e) ((rowsC r p).flatMap (pcs wd))⟩, ?_⟩
  constructor
  case hr => rw [hc0, fm _ _ (by decide)]; exact er.symm
  case hr2 => exact hr2
  case hh => rw [hc1, fm _ _ (by decide), fd _ _ (by decide)]; exact hhie
  case hsy => rw [hc1, fm _ _ (by decide)]; exact hsye
  case hm => rw [hc1, fm _ _ (by decide), fd _ _ (by decide)]; exact em.symm
  case hm6 => exact hm6
  case hmk => exact hmk
  case ok => exact ok229_all mk' hmem r hr2
  case LT => exact fun lo one two h12 h8 => FL (c.at lo) (k + 7) (S.glo lo) FnName.atLo DefAt.atLo _ _ (pair_reach h12 h8) hsy
  case hlt => exact fun one two h12 h8 => lit_tri (pair_reach h12 h8) hhi
  case hcom => exact fun lo m m2 => com_of hr2 hhi lo m m2
  case LTc => exact FL c (k + 8) S.g id id _ _ (com_all hr2).2 (by lia)
  case hlc => exact lit_tri (com_all hr2).2 hhi
  case hp5 =>
    intro kk hk
    rw [hc2, fm _ _ (by decide)]
    show (c2 + (kk : Int)) % 5 = (((p + kk) % 5 : Nat) : Int)
    push_cast
    rw [ep]
    lia
  case hw => rw [hc2, fm _ _ (by decide), fd _ _ (by decide)]; exact ew.symm
  case he => rw [hc2, fm _ _ (by decide), fd _ _ (by decide)]; exact ee.symm
  case he2 => exact he2
  case HB =>
    show Fn c (k + 10 + 1) 92 [.str (letterS r p), .int (wd : Int), .str (mk (eolC e))] (.str (mk (glueL (eolC e) ((rowsC r p).flatMap (pcs wd)))))
    rw [letter_mk]
    have := fn_enc2 S.g (k := k + 10) S.emap S.crlf hEnc S.n28.2
    rw [hAll, glued_mk] at this
    exact this
  case hsz => exact Nat.le_trans hB (by decide)
  case hrep => exact repl_esc _
  case HD =>
    show Fn c (k + 10 + 1) 100 [.str (mk (glueL (eolC e) ((rowsC r p).flatMap (pcs wd))))] (.str (letterS r p))
    rw [letter_mk]
    exact fn_dec S.g (k := k + 10) S.hexd S.n23.1 (fn_unquote S.g (k := k + 9) (by decide) S.n23.2) hDec S.n29.2
  case hgl => exact Nat.le_trans hL (by decide)
  case hsp =>
    show splitS (letterS r p) "\n" = eqHex r :: rowsL r p
    rw [letter_mk, rows_mk]
    exact split_glue (by rw [rows_snoc]; simp) fun t ht h => (okC_is ((hq t ht).ok 10 h)).2.2.1 rfl
  case HW =>
    intro x hx
    rw [rows_mk] at hx
    obtain ⟨t, ht, rfl⟩ := List.mem_map.mp hx
    exact fn_writ S.g (k := k + 10) (Nat.le_trans (hq t ht).len (by decide)) hE2 S.n45.2
  case hgl2 =>
    show Builtin.Str.glued (mk (eolC e)) ((eqHex r :: rowsL r p).map fun x => mk (writ x.cps.toList wd (eolC e))) = mk (glueL (eolC e) ((rowsC r p).flatMap (pcs wd)))
    rw [hxs, glued_mk, hbl]
  case htl =>
    show Builtin.Str.tooLong ((eqHex r :: rowsL r p).toArray.foldl (· + ·.length + ("\n" : Str).length) 0) = false
    rw [rows_mk]
    exact long_mk (by decide +kernel) _ (Nat.le_trans hrw (by decide))
  case htl2 =>
    show Builtin.Str.tooLong (((eqHex r :: rowsL r p).map fun x => mk (writ x.cps.toList wd (eolC e))).toArray.foldl (· + ·.length + (mk (eolC e)).length) 0) = false
    rw [hxs, mk_len]
    exact long_mk hE2 _ (Nat.le_trans hww (by decide))
  case HV => exact fn_ppv S.g (k := k + 10) S.n33.1 (fun v hv => fn_par S.g (k := k + 5) S.n31.2 S.n31.1 S.n32.2 S.n32.1 (handed_ok hr2 v hv) S.n33.2) (by rw [handed_len]; decide) S.n34.2
end Mine
namespace Mine
open PySem PySem.W PyProof.Rows
/-- the state once a mark has been given out -/
noncomputable abbrev tick (s : Shared) : Shared := { s with toks := s.toks + 1 }
section
variable {c : Cx} {k : Nat} {F : Frm}
/-- as Evals, but of the state it is only known that all is well once a mark has been given out -/
noncomputable def EvW (c : Cx) (k : Nat) (F : Frm) (e : Expr) (p : PV) : Prop :=
  ∀ A s, Room k A → Rel c F (tick s) → ∀ Q : Value → Shared → Prop, (∀ v s', Ext (tick s) s' → Rd c.lo F.X s' p v → Q v s') → wpAny c.M A (eval e F.env) Q (fun _ _ => False) s
noncomputable def EvWL (c : Cx) (k : Nat) (F : Frm) (es : List Expr) (ps : List PV) : Prop :=
  ∀ A s pos, Room k A → Rel c F (tick s) → ∀ Q : List Value → Shared → Prop, (∀ vs s', Ext (tick s) s' → Rds c.lo F.X s' ps vs → Q vs s') →
    wpAny c.M A (spliced (backTo pos (starEach es F.env))) Q (fun _ _ => False) s
theorem w_int {i : Int} {kd pos} : EvW c k F (.Constant (.int i) kd pos) (.int i) := fun _ s _ _ _ h => wpAny_Constant_int (h _ _ (Ext.refl _) (by simp only [Rd]; exact ⟨_, rfl⟩))
theorem w_cons {e : Expr} {es : List Expr} {p : PV} {ps : List PV} (h1 : EvW c k F e p) (h2 : EvalsL c k F es ps) (he : starEach (e :: es) F.env = (false, eval e F.env) :: starEach es F.env) : EvWL c k F (e :: es) (p :: ps) := by
  intro A s pos R r Q h
  refine spliced_more (h1 A s R r _ fun v s₁ e₁ rv => ?_) he
  exact h2 A s₁ pos R (r.ext e₁) _ fun vs s₂ e₂ rvs => h (v :: vs) s₂ (e₁.trans e₂) (Rds.cons (rv.ext e₂) rvs)
theorem w_tup {es : List Expr} {kd : Nat} {pos : Pos} {ps : List PV} (h1 : EvWL c k F es ps) (hsz : ps.length ≤ sizeLine) : EvW c k F (.Tuple es kd pos) (.tup ps) := by
  intro A s R r Q h
  refine Tuple_ (h1 A s pos R r _ fun vs s₁ e₁ rvs => ?_)
  exact (newTuple_does (r.xok.ext e₁) rvs hsz).mono e₁ h
noncomputable def RunsW (c : Cx) (k : Nat) (F : Frm) (ρ : List (Option PV)) (w : Ow) (sts : List Stmt) (P : Out → Prop) : Prop :=
  FrmSt F → ∀ A s, Room k A → Rel c (F.at ρ w) (tick s) → ∀ Q : Flow → Shared → Prop, (∀ o f s', P o → Step F.env w o.own (tick s) s' → EndRel c F o f s' → Q f s') → wpAny c.M A (execs sts F.env) Q (fun _ _ => False) s
theorem w_unpack {ρ ρ' : List (Option PV)} {w : Ow} {es : List Expr} {kd : Nat} {tpos pos : Pos} {e : Expr} {rest : List Stmt} {p : PV} {P : Out → Prop} (h1 : EvW c k (F.at ρ w) e p) (h2 : Asg c k F (.Tuple es kd tpos) p ρ ρ')
    (hs : swapsWithSole [.Tuple es kd tpos] e pos.line F.env = pure false) (hw : swappedStores [.Tuple es kd tpos] e F.env = pure none) (hn : Runs c k F ρ' w rest P) : RunsW c k F ρ w (.Assign [.Tuple es kd tpos] e pos :: rest) P := by
  intro S A s R r Q hq
  refine wpAny_execs_cons (Assign_Tuple (h1 A s R r _ fun v s₁ e₁ rv => ?_) hs hw)
  rw [X_on] at rv
  exact h2 S A s₁ w v R (r.ext e₁) rv _ fun s₂ e₂ r₂ => hn S A s₂ R r₂ Q fun o f s' p e q => hq o f s' p ((Step.trans e₁.s e₂).trans e) q
end
section
variable {c : Cx} {k : Nat} (G : Glob c) {f L : Addr} {hE : Heap} {X0 : List Addr} {fx : FX} {dflt : Value}
include G
set_option maxHeartbeats 1000000 in
theorem law_a1 {ns : List Int} (hlen : ns.length ≤ 63) {P : Out → Prop} (hfit : ∀ j : Nat, j < 3 → ∀ i, i < (thirdL ns (j : Int)).length → InLong ((thirdL ns (j : Int)).getD i 0) ∧ InLong ((thirdL ns (j : Int)).take (i + 1)).sum)
    (hth : ∀ j : Nat, j < 3 → (picks (picks ns (sliceRange (sliceBounds none (some 60) none ns.length).1 (sliceBounds none (some 60) none ns.length).2.1 (sliceBounds none (some 60) none ns.length).2.2)) (sliceRange (sliceBounds (some (j : Int)) none (some 3) (picks ns (sliceRange (sliceBounds none (some 60) none ns.length).1 (sliceBounds none (some 60) none ns.length).2.1 (sliceBounds none (some 60) none ns.length).2.2)).length).1 (sliceBounds (some (j : Int)) none (some 3) (picks ns (sliceRange (sliceBounds none (some 60) none ns.length).1 (sliceBounds none (some 60) none ns.length).2.1 (sliceBounds none (some 60) none ns.length).2.2)).length).2.1 (sliceBounds (some (j : Int)) none (some 3) (picks ns (sliceRange (sliceBounds none (some 60) none ns.length).1 (sliceBounds none (some 60) none ns.length).2.1 (sliceBounds none (some 60) none ns.length).2.2)).length).2.2)).length ≤ 100)
    (h60 : (picks ns (sliceRange (sliceBounds none (some 60) none ns.length).1 (sliceBounds none (some 60) none ns.length).2.1 (sliceBounds none (some 60) none ns.length).2.2)).length ≤ 100)
    (hn : Runs c k (lF f L hE X0 fx dflt) [some (.lst (intsL ns)), some (.tup [.int 226, .int 75, .int 1234]), some (.str "0123456789ABCDEF"), some (.lst (intsL [cellOf ns 0, cellOf ns 1, cellOf ns 2])), none, none, none, none, none, none, none, none, none, none, none, none, none, none, none, none, none, none, none, none, none, none, none, none, none, none] none (lawSt 2) P) :
    Runs c k (lF f L hE X0 fx dflt) [some (.lst (intsL ns)), some (.tup [.int 226, .int 75, .int 1234]), some (.str "0123456789ABCDEF"), none, none, none, none, none, none, none, none, none, none, none, none, none, none, none, none, none, none, none, none, none, none, none, none, none, none, none] none (lawSt 1) P := by
  have big : 100 ≤ sizeLine := Nat.le_of_ble_eq_true rfl
  refine r_assign 3 (e_comp (x := "k") (oc := false) (fvs := ["told", "script"]) (vals := [some (.tup [.int 226, .int 75, .int 1234]), some (.lst (intsL ns))]) ⟨by kernel_rfl, by kernel_rfl, by kernel_rfl, fun n acc => by kernel_rfl, fun h => by kernel_rfl, by kernel_rfl, by kernel_rfl, by decide +kernel, by kernel_rfl⟩ (.cons 1 rfl rfl (.cons 0 rfl rfl .nil))
    (ie_range (e_bui (by kernel_rfl) (G.nob _ (by decide +kernel)) (by kernel_rfl) (by decide +kernel) rfl) e_int (by decide) (by decide) rfl rfl) (fun _ => true) (onInt fun j => .int (cellOf ns j)) (Nat.le_of_ble_eq_true rfl) (fun p hp L' hE' w' => ?_) (fun _ => rfl) (l := intsL [cellOf ns 0, cellOf ns 1, cellOf ns 2]) rfl) ⟨rfl, .inr ⟨by kernel_rfl, by kernel_rfl⟩⟩ (.tail (.tail (.tail .head))) rfl ?_
  · obtain ⟨j, hj, rfl⟩ := mem_range hp
    have hj3 : j < 3 := hj
    refine ⟨ta_nil, fun _ => ?_⟩
    have htold : ∃ n, seqIndex? (j : Int) ([.int 226, .int 75, .int 1234] : List PV).length = some n ∧ ([.int 226, .int 75, .int 1234] : List PV)[n]? = some (.int (toldOf3 j)) := by
      match j, hj3 with
      | 0, _ => exact ⟨0, rfl, rfl⟩
      | 1, _ => exact ⟨1, rfl, rfl⟩
      | 2, _ => exact ⟨2, rfl, rfl⟩
    obtain ⟨n, h1, h2⟩ := htold
    refine e_bin (e_sub (e_var 1 rfl rfl rfl) (e_var 0 rfl rfl rfl) (o_item_tup (n := n) (by lia) (by lia) h1 h2 (fun _ _ => rfl))) (e_cb (by kernel_rfl) (G.nob _ (by decide +kernel)) (by kernel_rfl) (by decide +kernel) rfl (l_cons (Evals.eq (e_comp (x := "x") (oc := false) (fvs := []) (vals := []) ⟨by kernel_rfl, by kernel_rfl, by kernel_rfl, fun n acc => by kernel_rfl, fun h => by kernel_rfl, by kernel_rfl, by kernel_rfl, by decide +kernel, by kernel_rfl⟩ .nil
      (ie_list (Evals.eq (e_slice_list (Evals.eq (e_slice_list (e_var 2 rfl rfl rfl) p_none (p_some e_int) p_none (by decide) (by rw [intsL_len]; lia)) (congrArg PV.lst (slice_ints' ns _ _ _))) (p_some (e_var 0 rfl rfl rfl)) p_none (p_some e_int) (by decide) (by rw [intsL_len]; lia)) (congrArg PV.lst (slice_ints' _ _ _ _))))
      (fun _ => true) (onI fun x => .int (x.fmod 1000000)) (by rw [intsL_len]; have := hth j hj3; lia) (fun p hp L' hE' w' => ?_) (fun _ => rfl) rfl) (congrArg PV.lst (show _ = intsL (thirdL ns (j : Int)) from ?_))) l_nil rfl) (b_sum (hfit j hj3)) rfl (fun _ => ⟨_, _, rfl, rfl⟩) rfl) o_add_ii
    · obtain ⟨x, hx, rfl⟩ := mem_intsL hp
      exact ⟨ta_nil, fun _ => e_bin (e_var 0 rfl rfl rfl) e_int (o_mod_ii (by decide))⟩
    · rw [map_intsL]
      unfold thirdL intsL
      rw [List.map_map]
      rfl
  · assumption
set_option maxHeartbeats 2000000 in
theorem run_law1 {ns : List Int} {d : LawN} (S : Scene c) (hlen : ns.length ≤ 63) (H : LawP c k ns d) : Runs c (k + 1) (lF f L hE X0 fx dflt) [some (.lst (intsL ns)), some (.tup [.int 226, .int 75, .int 1234]), some (.str "0123456789ABCDEF"), none, none, none, none, none, none, none, none, none, none, none, none, none, none, none, none, none, none, none, none, none, none, none, none, none, none, none] none (lawSt 1) (fun o => o = .ret (.bool true) false) := by
  have big : 20000 ≤ sizeLine := Nat.le_of_ble_eq_true rfl
  have hz1 := mixes_len (lt := d.lt) (takenL d.r) (taken_len d.r)
  have hz2 := mixes_len (lt := d.lt) (leftL d.r) (Nat.le_trans (List.length_filter_le _ _) (by rw [List.length_range]; exact Nat.le_refl 8))
  refine law_a1 G hlen (fun j hj => fit_small (third_small ns j) (Nat.le_trans (third_len ns j) (by decide))) (fun j hj => ?_) ?_ ?_
  · exact Nat.le_trans (pick_len _ _) (Nat.le_trans (cut3 _ _) (Nat.le_trans (first60 ns) (by decide)))
  · exact Nat.le_trans (first60 ns) (by decide)
  with_reducible refine law_b G S.n39.1 S.n39.2 H.hr H.hr2 H.hh H.hsy H.hm H.hm6 H.hmk H.ok ?_
  refine law_c1 G ?_
  refine law_c2 G S.n43.1 S.n42.1 S.n43.2 S.glo H.LT hz1 hz2 fun m m2 hmm => ?_
  refine law_d1 G ?_
  refine law_d2 G (al := alR d.r) S.n44.1 S.n44.2 rfl ?_
  refine law_e1 G H.hlt hz1 (H.hcom _ _ _) ?_
  refine law_e2 G S.n42.1 H.LTc H.hlc H.hlt ?_
  refine law_f1 G (p := d.p) ?_
  refine law_f2 G (p := d.p) ?_
  refine law_f3 G (p := d.p) ?_
  refine law_f4 G H.hp5 ?_
  refine law_g1 G (bl := d.bl) S.n24.1 S.n24.2 S.qmap H.hr2 H.hw H.he H.he2 ?_
  refine law_g2 G S.n28.1 H.HB H.htl (Nat.le_trans H.hgl big) ?_
  refine law_g3 G S.n40.1 S.n40.2 H.hsz H.hrep ?_
  refine law_g4 G S.n29.1 H.HD (Nat.le_trans H.hgl big) H.hsp ?_
  refine law_g5 G H.hr2 ?_
  refine law_g6 G S.n45.1 H.HW H.hgl2 H.hsz H.htl2 ?_
  refine law_h1 G (a0 := 0) (b0 := 0) fun a0 => ?_
  refine law_h2 G (b0 := 0) S.n34.1 H.HV fun b0 hab => ?_
  refine law_h3 G ?_
  refine law_h4 G S.n23.1 S.n23.2 H.hr2 (weigh_is H.hr2) ?_
  refine law_h5 G ?_
  exact law_h6 G hab (kept_dues H.hr2) rfl
theorem run_law0 {ns : List Int} {d : LawN} (S : Scene c) (hlen : ns.length ≤ 63) (H : LawP c k ns d) : RunsW c (k + 1) (lF f L hE X0 fx dflt) (start [.lst (intsL ns)] 29) none (dBody (stAt 46)) (fun o => o = .ret (.bool true) false) := by
  show RunsW c (k + 1) (lF f L hE X0 fx dflt) _ none (lawSt 0) _
  refine w_unpack (p := .tup [.tup [.int 226, .int 75, .int 1234], .str "0123456789ABCDEF"]) (w_tup (w_cons (w_tup (w_cons w_int (l_cons e_int (l_cons e_int l_nil rfl) rfl) rfl) (Nat.le_of_ble_eq_true rfl)) (l_cons e_str l_nil rfl) rfl) (Nat.le_of_ble_eq_true rfl)) (asg_tup Pack.tup (.cons (asg_name 1 ⟨rfl, .inr ⟨by kernel_rfl, by kernel_rfl⟩⟩ (.tail .head)) rfl (.cons (asg_name 2 ⟨rfl, .inl (by kernel_rfl)⟩ (.tail (.tail .head))) rfl .nil))) rfl (by kernel_rfl) ?_
  exact run_law1 G S hlen H
end
end Mine
namespace Mine
open PySem PySem.W PyProof.Rows
theorem fn_weak {c : Cx} {k : Nat} {f : Addr} {fd : FuncData} {body : List Stmt} {ps ls : List Str} {args dargs : List PV} {p : PV} {fr : Bool} (hlo : c.lo = 1) (F : FnAt c f fd) (hb : fd.body = .stmts body)
    (hbind : HBind c fd ps args dargs) (hlen : (args ++ dargs).length = ps.length) (hnd : (ps ++ ls).Nodup)
    (hkind : ∀ x ∈ ps, fd.scope.names.lookup x = some .local ∨ (fd.scope.names.lookup x = some .cell ∧ ((cellsFrom 0 fd.scope.names []).lookup x).isSome = true))
    (run : ∀ L hE X0, RunsW c k (fnFrm fd f L hE (ps ++ ls) X0) (start (args ++ dargs) ls.length) none body (fun o => o = .ret p fr))
    (hco : fd.scope.isCoroutine = false) (hgen : fd.scope.isGenerator = false) (hk : fd.scope.kind = .function) :
    ∀ A s vs, Room (k + 1) A → Base c s.heap → AllBare s.gens → Rds c.lo [] s args vs → ∀ Q : Value → Shared → Prop, (∀ v s', Keep s.heap s'.heap → s'.os = s.os → AllBare s'.gens → Rd c.lo [] s' p v → Q v s') →
      wpAny c.M A (call (.ref f) vs) Q (fun _ _ => False) s := by
  intro A s vs R B hbare rvs Q hq
  obtain ⟨o, ho, hd⟩ := F.obj
  have hps : ps.Nodup := (List.nodup_append.mp hnd).1
  have hl : vs.length = args.length := rvs.length
  obtain ⟨dv, hdv, hbt⟩ := hbind s vs B hl
  replace rvs := rvs.append (hdv [] s B.k fun a m => (nomatch m))
  clear hl
  refine wpAny_call (call_cells (by have := R.depth; lia) (B.k _ _ ho) hd B.nolimit (F.code _ B.k) hb hbt F.clo ?_ (fun s₁ le x => ?_) hco hgen hk)
  · intro x hx
    obtain ⟨a, b⟩ := x
    have hm : a ∈ ps := (List.of_mem_zip hx).1
    rcases hkind a hm with h | ⟨h1, h2⟩
    · exact .inl h
    · refine .inr ⟨h1, ?_⟩
      have e := cellsFrom_names fd.scope.names 0 (s.heap.objs.size + 1) [] [] rfl
      have key : ∀ {l l' : List (Str × Addr)}, l.map (·.1) = l'.map (·.1) → (l.lookup a).isSome = true → (l'.lookup a).isSome = true := by
        intro l
        induction l with
        | nil => intro l' _ h; simp at h
        | cons y l ih =>
          intro l' e h
          cases l' with
          | nil => simp at e
          | cons z l' =>
            simp only [List.map_cons, List.cons.injEq] at e
            obtain ⟨y1, y2⟩ := y
            obtain ⟨z1, z2⟩ := z
            simp only at e
            rw [List.lookup_cons] at h ⊢
            rw [← e.1]
            cases hh : a == y1 with
            | true => rfl
            | false => rw [hh] at h; exact ih e.2 h
      exact key e h2
  · have hL : (callEnvC fd s.heap.objs.size f).locals = s.heap.objs.size := rfl
    obtain ⟨h₁, tk, hs₁⟩ := x.toInCall.same
    have hb₁ : AllBare s₁.gens := by rw [hs₁]; exact hbare
    have FS : FrmSt (fnFrm fd f s.heap.objs.size s.heap (ps ++ ls) []) := by
      refine ⟨hnd, get_size_none _, fun y a e => ?_⟩
      have := x.above y a (mem_of_lookup e)
      cases q : s.heap.get? a with
      | none => exact q
      | some o' => exact absurd (Nat.lt_trans this (Heap.lt_size q)) (Nat.lt_irrefl _)
    have REL : Rel c ((fnFrm fd f s.heap.objs.size s.heap (ps ++ ls) []).at (start (args ++ dargs) ls.length) none) (tick s₁) := by
      refine ⟨B, x.toInCall.keep, ⟨hk, F.glob, F.bui, fun y z a e1 e2 => name_of_addr x.apart (mem_of_lookup e1) (mem_of_lookup e2)⟩, ⟨_, x.toInCall.ns, fun i y q h1 h2 => ?_⟩, fun a l e => (nomatch e), fun y a e => ⟨_, x.cell y a e⟩, (fun _ m => (nomatch m)), ⟨hb₁, Nat.succ_pos _⟩, by rw [hlo]; exact Nat.succ_le_succ (Nat.zero_le _)⟩
      have hi := start_get h2
      obtain ⟨v, hv, rv⟩ := rvs.get hi
      have hlt : i < ps.length := by
        rw [← hlen]
        exact (List.getElem?_eq_some_iff.mp hi).1
      have hy : ps[i]? = some y := by
        have h1' : (ps ++ ls)[i]? = some y := h1
        rwa [List.getElem?_append_left hlt] at h1'
      refine ⟨v, ?_, rv.keep (s' := tick s₁) x.toInCall.keep (Nat.le_succ_of_le le)⟩
      rcases hkind y (List.mem_of_getElem? hy) with h | ⟨h, h'⟩
      · exact .inl ⟨h, bindL_at hps hy hv h⟩
      · refine .inr (.inl ⟨h, ?_⟩)
        have hcs : (((callEnvC fd s.heap.objs.size f).cells).lookup y).isSome = true := by
          have e := cellsFrom_names fd.scope.names 0 (s.heap.objs.size + 1) [] [] rfl
          have key : ∀ {l l' : List (Str × Addr)}, l.map (·.1) = l'.map (·.1) → (l.lookup y).isSome = true → (l'.lookup y).isSome = true := by
            intro l
            induction l with
            | nil => intro l' _ h; simp at h
            | cons u l ih =>
              intro l' e h
              cases l' with
              | nil => simp at e
              | cons z l' =>
                simp only [List.map_cons, List.cons.injEq] at e
                obtain ⟨y1, y2⟩ := u
                obtain ⟨z1, z2⟩ := z
                simp only at e
                rw [List.lookup_cons] at h ⊢
                rw [← e.1]
                cases hh : y == y1 with
                | true => rfl
                | false => rw [hh] at h; exact ih e.2 h
          exact key e h'
        obtain ⟨ca, hca⟩ := Option.isSome_iff_exists.mp hcs
        refine ⟨ca, hca, ?_⟩
        have := x.cell y ca hca
        rwa [bindC_at hps hy hv h] at this
    refine mono0 (run s.heap.objs.size s.heap [] FS _ s₁ (R.deeper) REL _ fun o fl s' ho' st er => ?_)
    subst ho'
    obtain ⟨v, rfl, kp, rd, fresh⟩ := er
    refine hq v s' kp ?_ ?_ rd
    · rw [st.os]; show s₁.os = _; rw [hs₁]
    · exact st.bare hb₁

theorem law_call {c : Cx} (hlo : c.lo = 1) (S : Scene c) {ns : List Int} (hlen : ns.length ≤ 63) {A : Around} {s : Shared} {vs : List Value} (R : Room 12 A) (B : Base c s.heap) (hbare : AllBare s.gens) (rvs : Rds c.lo [] s [.lst (intsL ns)] vs)
    {Q : Value → Shared → Prop} (hq : ∀ s', Keep s.heap s'.heap → s'.os = s.os → AllBare s'.gens → Q (.bool true) s') : wpAny c.M A (call (.ref 204) vs) Q (fun _ _ => False) s := by
  obtain ⟨fx, FA⟩ := S.n46
  refine fn_weak (k := 11) (ps := ["script"]) (ls := LL.drop 1) (args := [.lst (intsL ns)]) (dargs := []) (p := .bool true) (fr := false) hlo FA rfl (HBind.plain fun vals hl => ?_) rfl (by decide +kernel) ?_ (fun L hE X0 => ?_) (by kernel_rfl) (by kernel_rfl) (by kernel_rfl) A s vs R B hbare rvs Q fun v s' k1 k2 k3 rd => ?_
  · obtain ⟨a0, rfl⟩ := len1 hl
    unfold bindArgs; kernel_rfl
  · show ∀ x ∈ (["script"] : List Str), (dScope (stAt 46)).names.lookup x = some .local ∨ ((dScope (stAt 46)).names.lookup x = some .cell ∧ ((cellsFrom 0 (dScope (stAt 46)).names []).lookup x).isSome = true)
    decide +kernel
  · obtain ⟨d, H⟩ := law_ok S ns 0
    exact run_law0 S.g S hlen H
  · simp only [Rd] at rd
    subst rd
    exact hq s' k1 k2 k3
end Mine
namespace Mine
open PySem PySem.W PyProof.Rows PySem.Calls
noncomputable abbrev HP : Program := PySem.Challenge.pw_if0011_01

noncomputable abbrev tSeg := @PySem.W.Fast.tw10110043849684766642
theorem tSeg_eq : @segRunT = tSeg := PySem.W.Fast.te10110043849684766642
noncomputable abbrev tGo := @PySem.W.Fast.tw15667345088766844465
theorem tGo_eq : @topGo = tGo := PySem.W.Fast.te15667345088766844465
noncomputable abbrev tTab := PySem.W.Fast.tw14364793385576792824
theorem tTab_eq : treeTable = tTab := PySem.W.Fast.te14364793385576792824
noncomputable abbrev tDen := @PySem.W.Fast.tw11892475500146522536
theorem tDen_eq : @denote = tDen := PySem.W.Fast.te11892475500146522536
noncomputable abbrev tExecs := @PySem.W.Fast.tw12563942051412417395
theorem tExecs_eq : @execs = tExecs := PySem.W.Fast.te12563942051412417395

noncomputable def hEnv : Env := { scope := HP.main.scope, locals := mainNs, globals := mainNs, cells := [], code := .ref 13, frame := some 14 }
noncomputable def hCode : Code := .body (behindTheImports HP) hEnv
noncomputable def hF : List Frame := [topFrame ⟨0, 0, 0, 0⟩]
noncomputable abbrev hAnn : Option Value := some (.ref 6)
noncomputable def hThr (l : List Stmt) (p : Pos) : Thread := ⟨(tExecs l hEnv).wrap doneF deadEnd id id, hCode, p, hF⟩
theorem hThr_eq (l : List Stmt) (p : Pos) : hThr l p = piecesOf l hEnv hCode p [topFrame ⟨0, 0, 0, 0⟩] := by unfold hThr; rw [← tExecs_eq]; rfl

/-- a tree of a list of objects -/
noncomputable def treeOf (l : List Obj) : BT := (l.foldl (fun (p : BT × Nat) o => (p.1.ins p.2 o, p.2 + 1)) (BT.nil, 0)).1

noncomputable def Sh0 (w : World) (os : OsState) : Shared := ⟨boot_heap w.params, Array.mk [], boot_drawn, boot_toks, os⟩
noncomputable def Go0 (w : World) (os : OsState) := tGo tTab HP w 11 hAnn 12 (Sh0 w os) (topStub HP)
noncomputable def Sa (w : World) (os : OsState) : Shared := match Go0 w os with
  | some r => r.1
  | none => Sh0 w os
noncomputable def Sb (w : World) (os : OsState) : SharedT := ⟨treeOf (Sa w os).heap.objs.toList, 15, (Sa w os).heap.life, (Sa w os).gens, (Sa w os).drawn, (Sa w os).toks, (Sa w os).os⟩
theorem go0 (w : World) (os : OsState) : Go0 w os = some (Sa w os, ⟨tDen tTab hCode, hCode, ⟨0, 0, 0, 0⟩, hF⟩) := by kernel_rfl
theorem sb_abs (w : World) (os : OsState) : (Sb w os).abs = Sa w os := by kernel_rfl
noncomputable def R10 (w : World) (os : OsState) := tSeg tTab HP w 11 hAnn 1 300 (Sb w os) (hThr (HP.main.body.take 11) ⟨0, 0, 0, 0⟩)
noncomputable def S10 (w : World) (os : OsState) : SharedT := match R10 w os with
  | some r => r.2.1
  | none => Sb w os
theorem r10 (w : World) (os : OsState) : R10 w os = some (.next, S10 w os, hCode, ⟨87, 0, 87, 2⟩) := by kernel_rfl
end Mine
namespace Mine
open PySem PySem.W PyProof.Rows PySem.Calls

noncomputable def hexD (d : Nat) : Nat := if d < 10 then 48 + d else 55 + d
/-- the texts of _QUOPRI_MAP, with their marks -/
noncomputable def mapVs : Array Value := ((List.range 256).map fun r => Value.str ⟨#[61, hexD (r / 16), hexD (r % 16)]⟩ (282 + 4 * r)).toArray
noncomputable def o50 : Obj := { cls := .type "range", data := .fields #[.int 0 277, .int 256 276, .int 1 278] }
noncomputable def o51 : Obj := { cls := .type "range_iterator", data := .fields #[.int 256 0, .int 0 0, .int 1 0] }
noncomputable def o52 : Obj := { cls := .type "list", data := .seq mapVs 256 }
noncomputable def o53 : Obj := { cls := .type "dict", data := .dict #[] 2 }
noncomputable def o54 : Obj := { cls := .type "tuple", data := .seq #[] 0 }
noncomputable def o55 : Obj := { cls := .type "StopIteration", data := .fields #[.ref 54, .none, .none, .none, .bool false, .none] }
/-- the top's names, one more -/
noncomputable def addMap (P : Params) (o : Obj) : Obj := match o.data with
  | .dict es n => { o with data := .dict (es.push ⟨PyData.keyHash P "_QUOPRI_MAP", .str "_QUOPRI_MAP" 1303, .ref 52⟩) 20 }
  | _ => o
noncomputable def R11 (w : World) (os : OsState) := tSeg tTab HP w 11 hAnn 1 9600 (S10 w os) (hThr ((HP.main.body.drop 11).take 1) ⟨87, 0, 87, 2⟩)
noncomputable abbrev tGoT := @PySem.W.Fast.tw10295753902157049106
theorem tGoT_eq : @segGoT = tGoT := PySem.W.Fast.te10295753902157049106
noncomputable def G11 (n : Nat) (w : World) (os : OsState) := tGoT tTab HP w 11 hAnn 1 n (S10 w os) (hThr ((HP.main.body.drop 11).take 1) ⟨87, 0, 87, 2⟩)
noncomputable def wff (w : World) : World := (w.withFollow "comprehension-iter-twice" false).withFollow "special-get-raises" false
noncomputable def wft (w : World) : World := (w.withFollow "comprehension-iter-twice" false).withFollow "special-get-raises" true
noncomputable def wtf (w : World) : World := (w.withFollow "comprehension-iter-twice" true).withFollow "special-get-raises" false
noncomputable def wtt (w : World) : World := (w.withFollow "comprehension-iter-twice" true).withFollow "special-get-raises" true
/-- the run of the list behind both rows, which it asks no more -/
noncomputable def onward {β : Type} (f : SharedT → Thread → Option β) (o : Option (SharedT × Thread)) : Option β := match o with
  | some q => f q.1 q.2
  | none => none
noncomputable def R11' (w : World) (os : OsState) := onward (tSeg tTab HP w 11 hAnn 1 9530) (G11 70 (wff w) os)
section
variable {tb : String → Option Builtin} {p : Program} {w : World} {n₀ : Nat} {ann : Option Value} {b : Nat}
theorem go_run : ∀ {a n : Nat} {s : SharedT} {t : Thread} {q : SharedT × Thread}, segGoT tb p w n₀ ann b a s t = some q → segRunT tb p w n₀ ann b (a + n) s t = segRunT tb p w n₀ ann b n q.1 q.2
  | 0, n, s, t, q, h => by cases h; rw [Nat.zero_add]
  | a + 1, n, s, t, q, h => by
    unfold segGoT at h
    rw [show a + 1 + n = (a + n) + 1 by lia]
    conv => lhs; unfold segRunT
    cases he : endAt b t with
    | some f => rw [he] at h; cases h
    | none =>
      rw [he] at h
      dsimp only at h ⊢
      cases hk : stepOk n₀ ann t with
      | false => rw [hk] at h; cases h
      | true =>
        rw [hk] at h
        dsimp only at h ⊢
        cases hs : stepT (denote tb) p w s t with
        | none => rw [hs] at h; cases h
        | some r => rw [hs] at h; exact go_run h
theorem run_more : ∀ {n k : Nat} {s : SharedT} {t : Thread} {r : Flow × SharedT × Code × Pos}, segRunT tb p w n₀ ann b n s t = some r → segRunT tb p w n₀ ann b (n + k) s t = some r
  | 0, k, s, t, r, h => by cases h
  | n + 1, k, s, t, r, h => by
    rw [show n + 1 + k = (n + k) + 1 by lia]
    unfold segRunT at h ⊢
    cases he : endAt b t with
    | some f => rw [he] at h; exact h
    | none =>
      rw [he] at h
      dsimp only at h ⊢
      cases hk : stepOk n₀ ann t with
      | false => rw [hk] at h; cases h
      | true =>
        rw [hk] at h
        dsimp only at h ⊢
        cases hs : stepT (denote tb) p w s t with
        | none => rw [hs] at h; cases h
        | some r => rw [hs] at h; exact run_more h
theorem run_glue {n m k N : Nat} {s : SharedT} {t : Thread} {o : Option (SharedT × Thread)} {r : Flow × SharedT × Code × Pos} (hg : segGoT tb p w n₀ ann b n s t = o) (h : onward (segRunT tb p w n₀ ann b m) o = some r) (hn : n + (m + k) = N) : segRunT tb p w n₀ ann b N s t = some r := by
  subst hn
  cases o with
  | none => cases h
  | some q => rw [go_run hg]; exact run_more h
end
noncomputable def S11 (w : World) (os : OsState) : SharedT :=
  ⟨((((((((S10 w os).tree.ins 50 o50).ins 51 o51).ins 52 o52).ins 53 o53).ins 54 o54).ins 55 o55).set 3 (addMap w.params)), 56, (S10 w os).life, (S10 w os).gens, (S10 w os).drawn, 1304, (S10 w os).os⟩
end Mine
namespace Mine
open PySem PySem.W PyProof.Rows PySem.Calls
theorem r11_rest (w : World) (os : OsState) : R11' w os = some (.next, S11 w os, hCode, ⟨88, 0, 88, 11⟩) := by kernel_rfl
theorem g_ff (w : World) (os : OsState) : G11 70 (wff w) os = G11 70 (wff (wff w)) os := by kernel_rfl
theorem g_ft (w : World) (os : OsState) : G11 70 (wft w) os = G11 70 (wff (wft w)) os := by kernel_rfl
theorem g_tf (w : World) (os : OsState) : G11 60 (wtf w) os = G11 70 (wff (wtf w)) os := by kernel_rfl
theorem g_tt (w : World) (os : OsState) : G11 60 (wtt w) os = G11 70 (wff (wtt w)) os := by kernel_rfl
theorem r11_of {w : World} {os : OsState} {n k : Nat} (h : G11 n w os = G11 70 (wff w) os) (hn : n + (9530 + k) = 9600) : R11 w os = some (.next, S11 w os, hCode, ⟨88, 0, 88, 11⟩) := by
  have h1 : onward (tSeg tTab HP w 11 hAnn 1 9530) (G11 n w os) = some (.next, S11 w os, hCode, ⟨88, 0, 88, 11⟩) := (congrArg (onward _) h).trans (r11_rest w os)
  rw [← tSeg_eq] at h1
  unfold R11
  rw [← tSeg_eq]
  exact run_glue (by rw [tGoT_eq]; rfl) h1 hn
theorem r11_ff (w : World) (os : OsState) : R11 (wff w) os = some (.next, S11 (wff w) os, hCode, ⟨88, 0, 88, 11⟩) := r11_of (k := 0) (g_ff w os) rfl
theorem r11_ft (w : World) (os : OsState) : R11 (wft w) os = some (.next, S11 (wft w) os, hCode, ⟨88, 0, 88, 11⟩) := r11_of (k := 0) (g_ft w os) rfl
theorem r11_tf (w : World) (os : OsState) : R11 (wtf w) os = some (.next, S11 (wtf w) os, hCode, ⟨88, 0, 88, 11⟩) := r11_of (k := 10) (g_tf w os) rfl
theorem r11_tt (w : World) (os : OsState) : R11 (wtt w) os = some (.next, S11 (wtt w) os, hCode, ⟨88, 0, 88, 11⟩) := r11_of (k := 10) (g_tt w os) rfl
end Mine
namespace Mine
open PySem PySem.W PyProof.Rows PySem.Calls
noncomputable abbrev tOpenSeen := @PySem.W.Fast.tw4187177175401517315
theorem tOpenSeen_eq : @openSeen = tOpenSeen := PySem.W.Fast.te4187177175401517315
/-- the view: law alone -/
noncomputable def qv : Program := view HP [46]
noncomputable def looseV : List Str := (["ONE_THIRD", "ONE_SIXTH", "TWO_THIRD", "rgb_to_hls", "hls_to_rgb", "_v", "rgb_to_hsv", "hsv_to_rgb", "CRLF", "NL", "_QUOPRI_MAP", "_QUOPRI_HEADER_MAP", "_QUOPRI_BODY_MAP", "ascii_lowercase", "ascii_uppercase", "ascii_letters", "digits", "hexdigits",
  "unquote", "quote", "_QUOPRI_BODY_ENCODE_MAP", "body_encode", "decode", "_iter_escaped_chars", "_strip_quoted_realnames", "_check_parenthesis", "_pre_parse_validation", "Error", "error_reply", "error_proto", "parse229", "parse257", "_law_light", "_law_mixes", "_law_twins", "_law_written"] : List String).map Str.ofString
noncomputable def xtV : Shared → Bool := fun s => recOk [] s
noncomputable def R12 (w : World) (os : OsState) := tSeg tTab HP w 11 hAnn 1 9300 (S11 w os) (hThr (HP.main.body.drop 12) ⟨88, 0, 88, 11⟩)
noncomputable def S46 (w : World) (os : OsState) : SharedT := match R12 w os with
  | some r => r.2.1
  | none => S11 w os
noncomputable def Sf (w : World) (os : OsState) : Shared := (S46 w os).abs
end Mine
namespace Mine
open PySem PySem.W PyProof.Rows PySem.Calls

noncomputable def fdOf (T : BT) (a : Addr) : FuncData := match T.get a with
  | some ⟨_, _, .func fd, _⟩ => fd
  | _ => default
noncomputable def codeName : Option Obj → Option Str
  | some ⟨_, _, .fields vs, _⟩ => match (vs[1]? : Option Value) with
    | some (Value.str q _) => some q
    | _ => none
  | _ => none
noncomputable def fltOf : Option Value → Option UInt64
  | some (.float x _) => some x
  | _ => none
noncomputable def strOf : Option Value → Option Str
  | some (.str x _) => some x
  | _ => none
noncomputable def strsV : List Value → Option (List Str)
  | [] => some []
  | .str x _ :: r => (strsV r).map (x :: ·)
  | _ => none
noncomputable def listOf? : Option Obj → Option (List Str)
  | some ⟨.type "list", _, .seq xs _, _⟩ => strsV xs.toList
  | _ => none
noncomputable def seqOf : Option Obj → Option (Array Value)
  | some ⟨_, _, .seq xs _, _⟩ => some xs
  | _ => none
noncomputable def FnF (T : BT) (n fa ca : Nat) (dflt : Value) : Prop :=
  (T.get fa).map (·.data) = some (.func (mkFd n ⟨(fdOf T fa).name, (fdOf T fa).qualname, (fdOf T fa).kwdefaults, (fdOf T fa).doc, (fdOf T fa).pyModule, (fdOf T fa).annotations, .ref ca, (fdOf T fa).closureTuple⟩ dflt)) ∧ codeName (T.get ca) = some (fdOf T fa).qualname
noncomputable def hexStr (n : Nat) : Str := ⟨#[61, hexD (n / 16), hexD (n % 16)]⟩
/-- what body_encode makes of a sign -/
noncomputable def encSign (n : Nat) : Str := if (32 ≤ n && n ≤ 126 && n != 61) || n == 9 || n == 10 || n == 13 then ⟨#[n]⟩ else hexStr n
noncomputable def kAddrs : List Addr := [21, 20, 28, 27, 35, 34, 42, 41, 49, 48, 72, 71, 79, 78, 92, 91, 100, 99, 107, 106, 114, 113, 121, 120, 128, 127, 172, 171, 179, 178, 184, 183, 189, 188, 194, 193, 199, 198, 204, 203, 52, 81, 85, 93]
/-- what the walk asks of the top's end -/
structure Facts (H : Heap) (S : SharedT) : Prop where
  size : S.n = 205
  look : (staticsOk [] H S.abs.heap && namesBound HP S.abs.heap && gensDone S.abs && laidKept H S.abs.heap) = true
  seen : tOpenSeen qv looseV [] xtV true S.abs = openGood qv looseV
  f4 : FnF S.tree 4 21 20 .none
  f5 : FnF S.tree 5 28 27 .none
  f6 : FnF S.tree 6 35 34 .none
  f7 : FnF S.tree 7 42 41 .none
  f8 : FnF S.tree 8 49 48 .none
  f23 : FnF S.tree 23 72 71 .none
  f24 : FnF S.tree 24 79 78 .none
  f28 : FnF S.tree 28 92 91 (.ref 85)
  f29 : FnF S.tree 29 100 99 (.ref 93)
  f31 : FnF S.tree 31 107 106 .none
  f32 : FnF S.tree 32 114 113 .none
  f33 : FnF S.tree 33 121 120 .none
  f34 : FnF S.tree 34 128 127 .none
  f39 : FnF S.tree 39 172 171 .none
  f40 : FnF S.tree 40 179 178 .none
  f42 : FnF S.tree 42 184 183 .none
  f43 : FnF S.tree 43 189 188 .none
  f44 : FnF S.tree 44 194 193 .none
  f45 : FnF S.tree 45 199 198 .none
  f46 : FnF S.tree 46 204 203 .none
  names : (["rgb_to_hls", "hls_to_rgb", "_v", "rgb_to_hsv", "hsv_to_rgb", "unquote", "quote", "body_encode", "decode", "_iter_escaped_chars", "_strip_quoted_realnames", "_check_parenthesis", "_pre_parse_validation", "parse229", "parse257", "_law_light", "_law_mixes", "_law_twins", "_law_written", "law"] : List String).map (fun x => S.abs.heap.nsMap mainGlobals (Str.ofString x)) = [some (.ref 21), some (.ref 28), some (.ref 35), some (.ref 42), some (.ref 49), some (.ref 72), some (.ref 79), some (.ref 92), some (.ref 100), some (.ref 107), some (.ref 114), some (.ref 121), some (.ref 128), some (.ref 172), some (.ref 179), some (.ref 184), some (.ref 189), some (.ref 194), some (.ref 199), some (.ref 204)]
  flts : (["ONE_THIRD", "ONE_SIXTH", "TWO_THIRD"] : List String).map (fun x => fltOf (S.abs.heap.nsMap mainGlobals (Str.ofString x))) = [some 0x3fd5555555555555, some 0x3fc5555555555555, some 0x3fe5555555555555]
  txts : (["CRLF", "NL", "hexdigits"] : List String).map (fun x => strOf (S.abs.heap.nsMap mainGlobals (Str.ofString x))) = [some (Str.ofString "\r\n"), some (Str.ofString "\n"), some (Str.ofString "0123456789abcdefABCDEF")]
  tabs : (["_QUOPRI_MAP", "_QUOPRI_BODY_ENCODE_MAP"] : List String).map (fun x => S.abs.heap.nsMap mainGlobals (Str.ofString x)) = [some (.ref 52), some (.ref 81)]
  map : listOf? (S.tree.get 52) = some ((List.range 256).map hexStr)
  enc : listOf? (S.tree.get 81) = some ((List.range 256).map encSign)
  d1 : (seqOf (S.tree.get 85)).map (fun a => (a.size, strOf a[1]?)) = some (2, some (Str.ofString "\n"))
  d2 : (seqOf (S.tree.get 93)).map (fun a => (a.size, strOf a[0]?)) = some (1, some (Str.ofString "\n"))
  main : S.abs.heap.isNs mainGlobals = true
  stat : S.abs.heap.isNs cStatics = true
  booked : S.abs.heap.nsMap cStatics sharingNotToldKey = none
end Mine
namespace Mine
open PySem PySem.W PyProof.Rows PySem.Calls
theorem end_false (w : World) (os : OsState) : R12 (w.withFollow "special-get-raises" false) os = some (.next, S46 (w.withFollow "special-get-raises" false) os, hCode, ⟨309, 0, 343, 82⟩) ∧ Facts (boot_heap (w.withFollow "special-get-raises" false).params) (S46 (w.withFollow "special-get-raises" false) os) :=
  ⟨by kernel_rfl, ⟨by kernel_rfl, by kernel_rfl, by kernel_rfl, ⟨by kernel_rfl, by kernel_rfl⟩, ⟨by kernel_rfl, by kernel_rfl⟩, ⟨by kernel_rfl, by kernel_rfl⟩, ⟨by kernel_rfl, by kernel_rfl⟩, ⟨by kernel_rfl, by kernel_rfl⟩, ⟨by kernel_rfl, by kernel_rfl⟩, ⟨by kernel_rfl, by kernel_rfl⟩, ⟨by kernel_rfl, by kernel_rfl⟩, ⟨by kernel_rfl, by kernel_rfl⟩, ⟨by kernel_rfl, by kernel_rfl⟩, ⟨by kernel_rfl, by kernel_rfl⟩, ⟨by kernel_rfl, by kernel_rfl⟩, ⟨by kernel_rfl, by kernel_rfl⟩, ⟨by kernel_rfl, by kernel_rfl⟩, ⟨by kernel_rfl, by kernel_rfl⟩, ⟨by kernel_rfl, by kernel_rfl⟩, ⟨by kernel_rfl, by kernel_rfl⟩, ⟨by kernel_rfl, by kernel_rfl⟩, ⟨by kernel_rfl, by kernel_rfl⟩, ⟨by kernel_rfl, by kernel_rfl⟩, by kernel_rfl, by kernel_rfl, by kernel_rfl, by kernel_rfl, by kernel_rfl, by kernel_rfl, by kernel_rfl, by kernel_rfl, by kernel_rfl, by kernel_rfl, by kernel_rfl⟩⟩
end Mine
namespace Mine
open PySem PySem.W PyProof.Rows PySem.Calls
theorem end_true (w : World) (os : OsState) : R12 (w.withFollow "special-get-raises" true) os = some (.next, S46 (w.withFollow "special-get-raises" true) os, hCode, ⟨309, 0, 343, 82⟩) ∧ Facts (boot_heap (w.withFollow "special-get-raises" true).params) (S46 (w.withFollow "special-get-raises" true) os) :=
  ⟨by kernel_rfl, ⟨by kernel_rfl, by kernel_rfl, by kernel_rfl, ⟨by kernel_rfl, by kernel_rfl⟩, ⟨by kernel_rfl, by kernel_rfl⟩, ⟨by kernel_rfl, by kernel_rfl⟩, ⟨by kernel_rfl, by kernel_rfl⟩, ⟨by kernel_rfl, by kernel_rfl⟩, ⟨by kernel_rfl, by kernel_rfl⟩, ⟨by kernel_rfl, by kernel_rfl⟩, ⟨by kernel_rfl, by kernel_rfl⟩, ⟨by kernel_rfl, by kernel_rfl⟩, ⟨by kernel_rfl, by kernel_rfl⟩, ⟨by kernel_rfl, by kernel_rfl⟩, ⟨by kernel_rfl, by kernel_rfl⟩, ⟨by kernel_rfl, by kernel_rfl⟩, ⟨by kernel_rfl, by kernel_rfl⟩, ⟨by kernel_rfl, by kernel_rfl⟩, ⟨by kernel_rfl, by kernel_rfl⟩, ⟨by kernel_rfl, by kernel_rfl⟩, ⟨by kernel_rfl, by kernel_rfl⟩, ⟨by kernel_rfl, by kernel_rfl⟩, ⟨by kernel_rfl, by kernel_rfl⟩, by kernel_rfl, by kernel_rfl, by kernel_rfl, by kernel_rfl, by kernel_rfl, by kernel_rfl, by kernel_rfl, by kernel_rfl, by kernel_rfl, by kernel_rfl, by kernel_rfl⟩⟩
end Mine
namespace Mine
open PySem PySem.W PyProof.Rows PySem.Calls

theorem go0' (w : World) (os : OsState) : topGo treeTable HP w 11 hAnn 12 (Sh0 w os) (topStub HP) = some (Sa w os, ⟨denote treeTable (.body (behindTheImports HP) hEnv), hCode, ⟨0, 0, 0, 0⟩, [topFrame ⟨0, 0, 0, 0⟩]⟩) := by
  have h := go0 w os
  unfold Go0 at h
  rw [← tGo_eq, ← tTab_eq, ← tDen_eq] at h
  exact h
theorem block0 (w : World) (s : Shared) : segRun treeTable HP w 11 hAnn 1 1 s (blockOf (behindTheImports HP) hEnv hCode ⟨0, 0, 0, 0⟩ [topFrame ⟨0, 0, 0, 0⟩]) = some (.next, s, hCode, ⟨0, 0, 0, 0⟩) := by kernel_rfl
theorem fin0 (w : World) (s : Shared) (p : Pos) : topRun treeTable HP w 11 hAnn 2 s ⟨doneF .next, hCode, p, [topFrame ⟨0, 0, 0, 0⟩]⟩ = some s := by kernel_rfl
theorem behind : behindTheImports HP = HP.main.body := by kernel_rfl
theorem seg10 (w : World) (os : OsState) : segRun treeTable HP w 11 hAnn 1 300 (Sa w os) (piecesOf (HP.main.body.take 11) hEnv hCode ⟨0, 0, 0, 0⟩ [topFrame ⟨0, 0, 0, 0⟩]) = some (.next, (S10 w os).abs, hCode, ⟨87, 0, 87, 2⟩) := by
  have h := r10 w os
  unfold R10 at h
  rw [← tSeg_eq, ← tTab_eq, hThr_eq] at h
  rw [← sb_abs]
  exact segRun_of h
theorem seg11 {w : World} {os : OsState} (h : R11 w os = some (.next, S11 w os, hCode, ⟨88, 0, 88, 11⟩)) : segRun treeTable HP w 11 hAnn 1 9600 (S10 w os).abs (piecesOf ((HP.main.body.drop 11).take 1) hEnv hCode ⟨87, 0, 87, 2⟩ [topFrame ⟨0, 0, 0, 0⟩]) = some (.next, (S11 w os).abs, hCode, ⟨88, 0, 88, 11⟩) := by
  unfold R11 at h
  rw [← tSeg_eq, ← tTab_eq, hThr_eq] at h
  exact segRun_of h
theorem seg12 {w : World} {os : OsState} (h : R12 w os = some (.next, S46 w os, hCode, ⟨309, 0, 343, 82⟩)) : segRun treeTable HP w 11 hAnn 1 9300 (S11 w os).abs (piecesOf (HP.main.body.drop 12) hEnv hCode ⟨88, 0, 88, 11⟩ [topFrame ⟨0, 0, 0, 0⟩]) = some (.next, (S46 w os).abs, hCode, ⟨309, 0, 343, 82⟩) := by
  unfold R12 at h
  rw [← tSeg_eq, ← tTab_eq, hThr_eq] at h
  exact segRun_of h
theorem body_cut : HP.main.body.take 11 ++ ((HP.main.body.drop 11).take 1 ++ (HP.main.body.drop 12 ++ [])) = behindTheImports HP := by
  rw [behind, List.append_nil]
  have : HP.main.body.drop 12 = (HP.main.body.drop 11).drop 1 := by rw [List.drop_drop]
  rw [this, List.take_append_drop, List.take_append_drop]
theorem run0 {w : World} {os : OsState} (h1 : R11 w os = some (.next, S11 w os, hCode, ⟨88, 0, 88, 11⟩)) (h2 : R12 w os = some (.next, S46 w os, hCode, ⟨309, 0, 343, 82⟩)) :
    topRun treeTable HP w 11 hAnn (12 + (1 + (300 + (9600 + (9300 + 2))))) (Sh0 w os) (topStub HP) = some (Sf w os) := by
  refine go_top (go0' w os) (piece_block (block0 w _) ?_)
  rw [← body_cut]
  exact piece_app (seg10 w os) (piece_app (seg11 h1) (piece_app (seg12 h2) (piece_nil (fin0 w _ _))))
noncomputable abbrev tImp := @PySem.W.Fast.tw10274390034422433532
theorem tImp_eq : @importEnds = tImp := PySem.W.Fast.te10274390034422433532
noncomputable abbrev tStart := @PySem.W.Fast.tw1435165496053646825
theorem tStart_eq : @PySem.start = tStart := PySem.W.Fast.te1435165496053646825
theorem imp0 (w : World) : tImp tTab (opening HP) w 600 (tStart (opening HP)).1 (tStart (opening HP)).2 = some ⟨boot_heap w.params, Array.mk [], boot_drawn, boot_toks, (tStart (opening HP)).1.os⟩ := by kernel_rfl
theorem imp1 (w : World) : importEnds treeTable (opening HP) w 600 (PySem.start (opening HP)).1 (PySem.start (opening HP)).2 = some ⟨boot_heap w.params, Array.mk [], boot_drawn, boot_toks, (PySem.start (opening HP)).1.os⟩ := by
  rw [tImp_eq, tTab_eq, tStart_eq]
  exact imp0 w
theorem fence0 (w : World) : (fun os => (fenceModules? HP ⟨boot_heap w.params, Array.mk [], boot_drawn, boot_toks, os⟩).map (fun s => (s.heap, s.gens, s.drawn, s.toks))) = fun _ => some (boot_heap w.params, Array.mk [], boot_drawn, boot_toks) := by kernel_rfl
theorem open0 : ∀ w : World, (fencedOpening treeTable HP w 20000).map (fun s => (s.heap, s.gens, s.drawn, s.toks)) = some (boot_heap w.params, Array.mk [], boot_drawn, boot_toks) :=
  open_cut imp1 (by kernel_rfl) fence0
theorem size0 (w : World) : ((boot_heap w.params).isNs mainGlobals && (Array.mk [] : Array GenState).size == 0, (boot_heap w.params).objs.size, (boot_heap w.params).nsMap mainGlobals "__annotations__") = (true, 11, hAnn) := by kernel_rfl
theorem mods0 : importedModules HP.main.body = [] := by kernel_rfl

theorem open_of {tb : String → Option Builtin} {p : Program} {w : World} {N : Nat} {s₀ s₁ : Shared} (e : fencedOpening tb p w N = some s₀) (z1 : (s₀.heap.isNs mainGlobals && s₀.gens.size == 0) = true)
    (r : topRun tb p w s₀.heap.objs.size (s₀.heap.nsMap mainGlobals "__annotations__") N s₀ (topStub p) = some s₁) (l : (staticsOk (importedModules p.main.body) s₀.heap s₁.heap && namesBound p s₁.heap && gensDone s₁ && laidKept s₀.heap s₁.heap) = true) : openEnds tb p w N = some s₁ := by
  unfold openEnds
  rw [e]
  show topFrom tb p w N s₀ = _
  unfold topFrom
  rw [z1]
  dsimp only
  rw [r]
  show (match staticsOk (importedModules p.main.body) s₀.heap s₁.heap && namesBound p s₁.heap && gensDone s₁ && laidKept s₀.heap s₁.heap with | true => some s₁ | false => none) = _
  rw [l]
/-- the top's end, and what is asked of it -/
theorem ends_of {w : World} (H : ∀ os, R11 w os = some (.next, S11 w os, hCode, ⟨88, 0, 88, 11⟩) ∧ R12 w os = some (.next, S46 w os, hCode, ⟨309, 0, 343, 82⟩) ∧ Facts (boot_heap w.params) (S46 w os)) :
    ∃ S : SharedT, openEnds treeTable HP w 20000 = some S.abs ∧ Facts (boot_heap w.params) S := by
  obtain ⟨⟨h, gs, d, k, os⟩, e, e'⟩ := Option.map_eq_some_iff.mp (open0 w)
  obtain ⟨rfl, rfl, rfl, rfl⟩ : h = boot_heap w.params ∧ gs = Array.mk [] ∧ d = boot_drawn ∧ k = boot_toks := by simpa using e'
  obtain ⟨h1, h2, hF⟩ := H os
  obtain ⟨z1, z2, z3⟩ : _ ∧ _ ∧ _ := by simpa only [Prod.mk.injEq] using size0 w
  have r := topRun_mono (20000 - (12 + (1 + (300 + (9600 + (9300 + 2)))))) _ _ _ _ (run0 h1 h2)
  rw [show 12 + (1 + (300 + (9600 + (9300 + 2)))) + (20000 - (12 + (1 + (300 + (9600 + (9300 + 2)))))) = 20000 by decide] at r
  refine ⟨S46 w os, open_of e z1 ?_ ?_, hF⟩
  · dsimp only
    rw [z2, z3]
    exact r
  · rw [mods0]
    exact hF.look
end Mine
namespace Mine
open PySem PySem.W PyProof.Rows PySem.Calls

theorem r11_all (os : OsState) (w : World) : R11 w os = some (.next, S11 w os, hCode, ⟨88, 0, 88, 11⟩) :=
  byRow2 "special-get-raises" (P := fun w => R11 w os = some (.next, S11 w os, hCode, ⟨88, 0, 88, 11⟩))
    (byRow2 "comprehension-iter-twice" (P := fun w => R11 (w.withFollow "special-get-raises" false) os = some (.next, S11 (w.withFollow "special-get-raises" false) os, hCode, ⟨88, 0, 88, 11⟩)) (fun w => r11_ff w os) (fun w => r11_tf w os))
    (byRow2 "comprehension-iter-twice" (P := fun w => R11 (w.withFollow "special-get-raises" true) os = some (.next, S11 (w.withFollow "special-get-raises" true) os, hCode, ⟨88, 0, 88, 11⟩)) (fun w => r11_ft w os) (fun w => r11_tt w os)) w
theorem r12_all (os : OsState) (w : World) : R12 w os = some (.next, S46 w os, hCode, ⟨309, 0, 343, 82⟩) ∧ Facts (boot_heap w.params) (S46 w os) :=
  byRow2 "special-get-raises" (P := fun w => R12 w os = some (.next, S46 w os, hCode, ⟨309, 0, 343, 82⟩) ∧ Facts (boot_heap w.params) (S46 w os)) (fun w => end_false w os) (fun w => end_true w os) w
theorem ends_all (w : World) : ∃ S : SharedT, openEnds treeTable HP w 20000 = some S.abs ∧ Facts (boot_heap w.params) S :=
  ends_of fun os => ⟨r11_all os w, r12_all os w⟩
noncomputable def heapOr (d : Heap) (o : Option Shared) : Heap := match o with
  | some s => s.heap
  | none => d
noncomputable def endH (w : World) : Heap := heapOr (boot_heap w.params) (openEnds treeTable HP w 20000)
theorem endH_of {w : World} {S : SharedT} (h : openEnds treeTable HP w 20000 = some S.abs) : endH w = S.abs.heap := congrArg (heapOr (boot_heap w.params)) h
/-- the top's end lies in h -/
noncomputable def Says (w : World) (h : Heap) : Prop := ∃ S : SharedT, Facts (boot_heap w.params) S ∧ ∀ b o, S.abs.heap.get? b = some o → h.get? b = some o
theorem left0 : LeftO HP qv looseV xtV (fun s => s.heap) endH 20000 := fun w => by
  obtain ⟨S, h, F⟩ := ends_all w
  rw [endH_of h, h, mods0]
  have hs := F.seen
  rw [← tOpenSeen_eq] at hs
  show some (openSeen qv looseV [] xtV true S.abs, S.abs.heap) = _
  rw [hs]
theorem says_of (w : World) (s : Shared) (e : s.heap = endH w) : Says w s.heap := by
  obtain ⟨S, h, F⟩ := ends_all w
  refine ⟨S, F, fun b o q => ?_⟩
  rw [e, endH_of h]
  exact q

theorem dLaw_some : (defOf qv (Str.ofString "law")).isSome = true := by kernel_rfl
noncomputable def dLaw : DefRec × List (Str × PySem.Expr) := (defOf qv "law").get dLaw_some
theorem dLaw_is : defOf qv "law" = some (dLaw.1, dLaw.2) := (Option.some_get dLaw_some).symm

theorem head0 (call : WalkO qv looseV (fun _ _ => True) Says PySem.Challenge.rw_if0011_01.row.toRowW dLaw.1 dLaw.2 fun f vs => PySem.call f vs) (said : PySem.Challenge.rw_if0011_01.row.wellSaid = true) (pr : PySem.Challenge.rw_if0011_01.row.toRowW.promised) : PySem.Challenge.rw_if0011_01.row.Holds := by
  refine PySem.W.holds_open (q := qv) (loose := looseV) (Xt := xtV) (XP := fun _ _ => True) (Yf := fun s => s.heap) (Ya := endH) (YP := Says) (N := 20000) left0 says_of (fun w h h' ⟨S, F, k⟩ k' => ⟨S, F, fun b o e => k' b o (k b o e)⟩) (fun _ _ => trivial) (fun _ _ _ _ _ => trivial) dLaw_is ?_ ?_ (fun s e => recFacts_of e) ?_ said ?_ ?_ pr call
  · kernel_rfl
  · kernel_rfl
  · kernel_rfl
  · decide +kernel
  · exact ⟨rfl, rfl, rfl, rfl, rfl, by decide +kernel⟩
theorem names_eq : @namesResolve = @PySem.W.Fast.tw8377067652309620493 := PySem.W.Fast.te8377067652309620493
theorem said0 : PySem.Challenge.rw_if0011_01.wellSaid = true := by
  unfold OpenLaw.wellSaid OpenRow.wellSaid OpenRow.partSaid looksOpen
  repeat' with_reducible refine look_both ?_ ?_
  all_goals first
    | (with_reducible rw [names_eq]; decide +kernel)
    | decide +kernel
theorem wit0 : PySem.Challenge.rw_if0011_01.row.toRowW.promised := ⟨[.list []], by decide +kernel, by decide +kernel⟩
theorem head1 (call : WalkO qv looseV (fun _ _ => True) Says PySem.Challenge.rw_if0011_01.row.toRowW dLaw.1 dLaw.2 fun f vs => PySem.call f vs) : PySem.Challenge.rw_if0011_01.Holds := holds_law said0 fun said => head0 call said wit0
end Mine
namespace Mine
open PySem PySem.W PyProof.Rows
noncomputable def kOf (S : SharedT) : Frag := kAddrs.filterMap fun a => (S.abs.heap.get? a).map fun o => (a, o)
theorem fm_look {h : Heap} {a : Addr} {o : Obj} (q : h.get? a = some o) : ∀ l : List Addr, a ∈ l → (l.filterMap fun a => (h.get? a).map fun o => (a, o)).lookup a = some o
  | b :: l, m => by
    by_cases e : a = b
    · subst e
      rw [List.filterMap_cons, q]
      simp
    · have m := (List.mem_cons.mp m).resolve_left e
      rw [List.filterMap_cons]
      cases h.get? b with
      | none => exact fm_look q l m
      | some ob =>
        show ((b, ob) :: _).lookup a = _
        rw [List.lookup_cons, show (a == b) = false from beq_eq_false_iff_ne.mpr e]
        exact fm_look q l m
theorem fm_back {h : Heap} {a : Addr} {o : Obj} : ∀ l : List Addr, (l.filterMap fun a => (h.get? a).map fun o => (a, o)).lookup a = some o → h.get? a = some o
  | [], m => by cases m
  | b :: l, m => by
    rw [List.filterMap_cons] at m
    cases q : h.get? b with
    | none => rw [q] at m; exact fm_back l m
    | some ob =>
      rw [q] at m
      have m : ((b, ob) :: (l.filterMap fun a => (h.get? a).map fun o => (a, o))).lookup a = some o := m
      rw [List.lookup_cons] at m
      by_cases e : a = b
      · subst e
        simp at m
        rw [q, m]
      · rw [show (a == b) = false from beq_eq_false_iff_ne.mpr e] at m
        exact fm_back l m
section
variable {H0 : Heap} {S : SharedT} (F : Facts H0 S)
include F
theorem get_of {a : Addr} {o : Obj} (ha : a < 205) (h : S.tree.get a = some o) (hd : o.data ≠ .freed) : S.abs.heap.get? a = some o := by
  have := abs_get (life := S.life) (show a < S.n by rw [F.size]; exact ha) h
  show (absHeap S.tree S.n S.life).get? a = some o
  rw [this]
  obtain ⟨c, d, dt, sl⟩ := o
  cases dt <;> first | rfl | exact absurd rfl hd
theorem k_of {a : Addr} {o : Obj} (hm : a ∈ kAddrs) (ha : a < 205) (h : S.tree.get a = some o) (hd : o.data ≠ .freed) : (kOf S).lookup a = some o := fm_look (get_of F ha h hd) _ hm
/-- where the walk stands -/
noncomputable abbrev cxOf (S : SharedT) (w : World) : Cx := { prog := HP, w := w, mg := S.abs.heap.nsMap mainGlobals, K := kOf S, lo := 1 }
variable {w : World}
theorem fn_at {n fa ca : Nat} {d : Value} (h : FnF S.tree n fa ca d) (m1 : fa ∈ kAddrs) (l1 : fa < 205) (m2 : ca ∈ kAddrs) (l2 : ca < 205) :
    ∃ fx, FnAt (cxOf S w) fa (mkFd n fx d) := by
  obtain ⟨h1, h2⟩ := h
  refine ⟨⟨(fdOf S.tree fa).name, (fdOf S.tree fa).qualname, (fdOf S.tree fa).kwdefaults, (fdOf S.tree fa).doc, (fdOf S.tree fa).pyModule, (fdOf S.tree fa).annotations, .ref ca, (fdOf S.tree fa).closureTuple⟩, ⟨?_, fun hh hI => ?_, rfl, rfl, rfl⟩⟩
  · obtain ⟨o, ho, hd⟩ := Option.map_eq_some_iff.mp h1
    exact ⟨o, k_of F m1 l1 ho (by rw [hd]; exact fun e => nomatch e), hd⟩
  · cases q : S.tree.get ca with
    | none => rw [q] at h2; cases h2
    | some oc =>
      obtain ⟨cl, di, dt, sl⟩ := oc
      rw [q] at h2
      unfold codeName at h2
      cases dt with
      | fields vs =>
        dsimp only at h2
        have hg := hI _ _ (k_of F m2 l2 q (fun e => nomatch e))
        split at h2
        · rename_i q' t' hv
          injection h2 with h2
          subst h2
          exact ⟨ca, _, vs, t', rfl, hg, rfl, hv⟩
        · cases h2
      | _ => cases h2
theorem def_at {n fa ca : Nat} (h : FnF S.tree n fa ca .none) (m1 : fa ∈ kAddrs) (l1 : fa < 205) (m2 : ca ∈ kAddrs) (l2 : ca < 205) : DefAt (cxOf S w) n fa := by
  obtain ⟨fx, X⟩ := fn_at F (w := w) h m1 l1 m2 l2
  exact ⟨fx, X⟩
theorem fn_name {x : Str} {n fa ca : Nat} {d : Value} (h : FnF S.tree n fa ca d) (m1 : fa ∈ kAddrs) (l1 : fa < 205) (hx : S.abs.heap.nsMap mainGlobals x = some (.ref fa)) : FnName (cxOf S w) x fa := by
  obtain ⟨o, ho, hd⟩ := Option.map_eq_some_iff.mp h.1
  exact ⟨hx, o, _, k_of F m1 l1 ho (by rw [hd]; exact fun e => nomatch e), hd⟩
end
theorem flt_const {c : Cx} {x : Str} {b : UInt64} (h : fltOf (c.mg x) = some b) : GConst c x (.gfl b) := by
  unfold fltOf at h
  split at h
  · rename_i b' t hv
    injection h with h
    subst h
    exact ⟨_, hv, fun X s _ _ => by simp only [Rd]; exact ⟨t, rfl⟩⟩
  · cases h
theorem str_const {c : Cx} {x : Str} {b : Str} (h : strOf (c.mg x) = some b) : GConst c x (.str b) := by
  unfold strOf at h
  split at h
  · rename_i b' t hv
    injection h with h
    subst h
    exact ⟨_, hv, fun X s _ _ => by simp only [Rd]; exact ⟨t, rfl⟩⟩
  · cases h
theorem strsV_rds {lo : Nat} {X : List Addr} {s : Shared} : ∀ {vs : List Value} {xs : List Str}, strsV vs = some xs → Rds lo X s (xs.map PV.str) vs
  | [], xs, h => by
    injection h with h
    subst h
    exact Rds.nil
  | v :: r, xs, h => by
    cases v with
    | str x t =>
      obtain ⟨ys, hy, rfl⟩ := Option.map_eq_some_iff.mp (show (strsV r).map (x :: ·) = some xs from h)
      exact Rds.cons rdS (strsV_rds hy)
    | _ => cases h
theorem list_const {H0 : Heap} {S : SharedT} (F : Facts H0 S) {w : World} {lo : Nat} {x : Str} {a : Addr} {xs : List Str} (hx : S.abs.heap.nsMap mainGlobals x = some (.ref a)) (m : a ∈ kAddrs) (l : a < 205) (h : listOf? (S.tree.get a) = some xs) :
    GConst ((cxOf S w).at lo) x (.lst (xs.map PV.str)) := by
  refine ⟨_, hx, fun X s hI hX => ?_⟩
  unfold listOf? at h
  split at h
  · rename_i di vs m' sl hv
    have hk := k_of F m l hv (fun e => nomatch e)
    have hg := hI _ _ hk
    simp only [Rd]
    refine ⟨a, vs.toList, rfl, fun ma => ?_, ⟨_, hg, rfl, m', by simp⟩, strsV_rds h⟩
    have := hX a ma
    have e : (kOf S).lookup a = none := this
    rw [hk] at e; cases e
  · cases h
theorem hexs_are : (List.range 256).map hexStr = (List.range 256).map eqHex := by decide +kernel
theorem encs_are : (List.range 256).map encSign = (List.range 256).map encS := by decide +kernel
theorem nob_all : ((["max", "min", "sum", "len", "abs", "chr", "ord", "int", "str", "range", "enumerate"] : List Str).all fun x => !(startupNames.contains x) && !(HP.boundNames.contains x)) = true := by decide +kernel
theorem scene_of {H0 : Heap} {S : SharedT} (F : Facts H0 S) (w : World) : Scene (cxOf S w) := by
  have a4 : S.abs.heap.nsMap mainGlobals (Str.ofString "rgb_to_hls") = some (.ref 21) := Option.some.inj (congrArg (fun l => l[0]?) F.names)
  have a5 : S.abs.heap.nsMap mainGlobals (Str.ofString "hls_to_rgb") = some (.ref 28) := Option.some.inj (congrArg (fun l => l[1]?) F.names)
  have a6 : S.abs.heap.nsMap mainGlobals (Str.ofString "_v") = some (.ref 35) := Option.some.inj (congrArg (fun l => l[2]?) F.names)
  have a7 : S.abs.heap.nsMap mainGlobals (Str.ofString "rgb_to_hsv") = some (.ref 42) := Option.some.inj (congrArg (fun l => l[3]?) F.names)
  have a8 : S.abs.heap.nsMap mainGlobals (Str.ofString "hsv_to_rgb") = some (.ref 49) := Option.some.inj (congrArg (fun l => l[4]?) F.names)
  have a23 : S.abs.heap.nsMap mainGlobals (Str.ofString "unquote") = some (.ref 72) := Option.some.inj (congrArg (fun l => l[5]?) F.names)
  have a24 : S.abs.heap.nsMap mainGlobals (Str.ofString "quote") = some (.ref 79) := Option.some.inj (congrArg (fun l => l[6]?) F.names)
  have a28 : S.abs.heap.nsMap mainGlobals (Str.ofString "body_encode") = some (.ref 92) := Option.some.inj (congrArg (fun l => l[7]?) F.names)
  have a29 : S.abs.heap.nsMap mainGlobals (Str.ofString "decode") = some (.ref 100) := Option.some.inj (congrArg (fun l => l[8]?) F.names)
  have a31 : S.abs.heap.nsMap mainGlobals (Str.ofString "_iter_escaped_chars") = some (.ref 107) := Option.some.inj (congrArg (fun l => l[9]?) F.names)
  have a32 : S.abs.heap.nsMap mainGlobals (Str.ofString "_strip_quoted_realnames") = some (.ref 114) := Option.some.inj (congrArg (fun l => l[10]?) F.names)
  have a33 : S.abs.heap.nsMap mainGlobals (Str.ofString "_check_parenthesis") = some (.ref 121) := Option.some.inj (congrArg (fun l => l[11]?) F.names)
  have a34 : S.abs.heap.nsMap mainGlobals (Str.ofString "_pre_parse_validation") = some (.ref 128) := Option.some.inj (congrArg (fun l => l[12]?) F.names)
  have a39 : S.abs.heap.nsMap mainGlobals (Str.ofString "parse229") = some (.ref 172) := Option.some.inj (congrArg (fun l => l[13]?) F.names)
  have a40 : S.abs.heap.nsMap mainGlobals (Str.ofString "parse257") = some (.ref 179) := Option.some.inj (congrArg (fun l => l[14]?) F.names)
  have a42 : S.abs.heap.nsMap mainGlobals (Str.ofString "_law_light") = some (.ref 184) := Option.some.inj (congrArg (fun l => l[15]?) F.names)
  have a43 : S.abs.heap.nsMap mainGlobals (Str.ofString "_law_mixes") = some (.ref 189) := Option.some.inj (congrArg (fun l => l[16]?) F.names)
  have a44 : S.abs.heap.nsMap mainGlobals (Str.ofString "_law_twins") = some (.ref 194) := Option.some.inj (congrArg (fun l => l[17]?) F.names)
  have a45 : S.abs.heap.nsMap mainGlobals (Str.ofString "_law_written") = some (.ref 199) := Option.some.inj (congrArg (fun l => l[18]?) F.names)
  have b1 : fltOf (S.abs.heap.nsMap mainGlobals (Str.ofString "ONE_THIRD")) = some 0x3fd5555555555555 := Option.some.inj (congrArg (fun l => l[0]?) F.flts)
  have b2 : fltOf (S.abs.heap.nsMap mainGlobals (Str.ofString "ONE_SIXTH")) = some 0x3fc5555555555555 := Option.some.inj (congrArg (fun l => l[1]?) F.flts)
  have b3 : fltOf (S.abs.heap.nsMap mainGlobals (Str.ofString "TWO_THIRD")) = some 0x3fe5555555555555 := Option.some.inj (congrArg (fun l => l[2]?) F.flts)
  have t1 : strOf (S.abs.heap.nsMap mainGlobals (Str.ofString "CRLF")) = some (Str.ofString "\r\n") := Option.some.inj (congrArg (fun l => l[0]?) F.txts)
  have t3 : strOf (S.abs.heap.nsMap mainGlobals (Str.ofString "hexdigits")) = some (Str.ofString "0123456789abcdefABCDEF") := Option.some.inj (congrArg (fun l => l[2]?) F.txts)
  have l1 : S.abs.heap.nsMap mainGlobals (Str.ofString "_QUOPRI_MAP") = some (.ref 52) := Option.some.inj (congrArg (fun l => l[0]?) F.tabs)
  have l2 : S.abs.heap.nsMap mainGlobals (Str.ofString "_QUOPRI_BODY_ENCODE_MAP") = some (.ref 81) := Option.some.inj (congrArg (fun l => l[1]?) F.tabs)
  have hnob : ∀ x : Str, (["max", "min", "sum", "len", "abs", "chr", "ord", "int", "str", "range", "enumerate"] : List Str).contains x = true → S.abs.heap.nsMap mainGlobals x = none := by
    intro x hx
    have h1 := List.all_eq_true.mp nob_all x (by simpa using hx)
    simp only [Bool.and_eq_true, Bool.not_eq_true'] at h1
    cases q : S.abs.heap.nsMap mainGlobals x with
    | none => rfl
    | some v =>
      have hb : namesBound HP S.abs.heap = true := by
        have := F.look
        simp only [Bool.and_eq_true] at this
        exact this.1.1.2
      rcases names_of_bound hb x v (by rw [Pin.globalOf_eq F.main]; exact q) with h | h
      · have := List.contains_iff_mem.mpr h
        rw [h1.1] at this; cases this
      · have := List.contains_iff_mem.mpr h
        rw [h1.2] at this; cases this
  have glo : ∀ lo, Glob ((cxOf S w).at lo) := fun lo => ⟨flt_const (c := (cxOf S w).at lo) b1, flt_const (c := (cxOf S w).at lo) b2, flt_const (c := (cxOf S w).at lo) b3, hnob⟩
  refine ⟨glo 1, glo, ⟨fn_name F F.f4 ?_ ?_ a4, def_at F F.f4 ?_ ?_ ?_ ?_⟩, ⟨fn_name F F.f5 ?_ ?_ a5, def_at F F.f5 ?_ ?_ ?_ ?_⟩, ⟨fn_name F F.f6 ?_ ?_ a6, def_at F F.f6 ?_ ?_ ?_ ?_⟩, ⟨fn_name F F.f7 ?_ ?_ a7, def_at F F.f7 ?_ ?_ ?_ ?_⟩,
    ⟨fn_name F F.f8 ?_ ?_ a8, def_at F F.f8 ?_ ?_ ?_ ?_⟩, ⟨fn_name F F.f23 ?_ ?_ a23, def_at F F.f23 ?_ ?_ ?_ ?_⟩, ⟨fn_name F F.f24 ?_ ?_ a24, def_at F F.f24 ?_ ?_ ?_ ?_⟩, ⟨fn_name F F.f28 ?_ ?_ a28, ?d28⟩, ⟨fn_name F F.f29 ?_ ?_ a29, ?d29⟩,
    ⟨fn_name F F.f31 ?_ ?_ a31, def_at F F.f31 ?_ ?_ ?_ ?_⟩, ⟨fn_name F F.f32 ?_ ?_ a32, def_at F F.f32 ?_ ?_ ?_ ?_⟩, ⟨fn_name F F.f33 ?_ ?_ a33, def_at F F.f33 ?_ ?_ ?_ ?_⟩, ⟨fn_name F F.f34 ?_ ?_ a34, def_at F F.f34 ?_ ?_ ?_ ?_⟩,
    ⟨fn_name F F.f39 ?_ ?_ a39, def_at F F.f39 ?_ ?_ ?_ ?_⟩, ⟨fn_name F F.f40 ?_ ?_ a40, def_at F F.f40 ?_ ?_ ?_ ?_⟩, ⟨fn_name F F.f42 ?_ ?_ a42, def_at F F.f42 ?_ ?_ ?_ ?_⟩, ⟨fn_name F F.f43 ?_ ?_ a43, def_at F F.f43 ?_ ?_ ?_ ?_⟩,
    ⟨fn_name F F.f44 ?_ ?_ a44, def_at F F.f44 ?_ ?_ ?_ ?_⟩, ⟨fn_name F F.f45 ?_ ?_ a45, def_at F F.f45 ?_ ?_ ?_ ?_⟩, def_at F F.f46 ?_ ?_ ?_ ?_, ?q1, ?q2, str_const t1, str_const t3⟩
  case d28 =>
    obtain ⟨fx, X⟩ := fn_at F (w := w) F.f28 (by decide) (by decide) (by decide) (by decide)
    have hd := F.d1
    obtain ⟨xs, hs, hd⟩ := Option.map_eq_some_iff.mp hd
    unfold seqOf at hs
    split at hs
    · rename_i cl di xs' m' sl hv
      injection hs with hs
      subst hs
      have hk := k_of F (a := 85) (by decide) (by decide) hv (fun e => nomatch e)
      have hz : xs'.size = 2 := congrArg Prod.fst hd
      obtain ⟨l⟩ := xs'
      rcases l with _ | ⟨a, _ | ⟨b, _ | ⟨d, r⟩⟩⟩
      · cases hz
      · cases hz
      · exact ⟨fx, 85, _, m', a, b, X, hk, rfl⟩
      · have hz : r.length + 1 + 1 + 1 = 2 := hz
        lia
    · cases hs
  case d29 =>
    obtain ⟨fx, X⟩ := fn_at F (w := w) F.f29 (by decide) (by decide) (by decide) (by decide)
    have hd := F.d2
    obtain ⟨xs, hs, hd⟩ := Option.map_eq_some_iff.mp hd
    unfold seqOf at hs
    split at hs
    · rename_i cl di xs' m' sl hv
      injection hs with hs
      subst hs
      have hk := k_of F (a := 93) (by decide) (by decide) hv (fun e => nomatch e)
      have hz : xs'.size = 1 := congrArg Prod.fst hd
      have hv2 : strOf xs'[0]? = some (Str.ofString "\n") := congrArg Prod.snd hd
      obtain ⟨l⟩ := xs'
      rcases l with _ | ⟨a, _ | ⟨b, r⟩⟩
      · cases hz
      · cases a with
        | str x t =>
          have hx : some x = some (Str.ofString "\n") := hv2
          injection hx with hx
          have e : Str.ofString "\n" = mk [10] := by kernel_rfl
          rw [e] at hx
          subst hx
          exact ⟨fx, 93, _, m', t, X, hk, rfl⟩
        | _ => cases hv2
      · have hz : r.length + 1 + 1 = 1 := hz
        lia
    · cases hs
  case q1 =>
    have := list_const F (w := w) (lo := 1) l1 (by decide) (by decide) F.map
    rw [hexs_are, List.map_map] at this
    exact this
  case q2 =>
    have := list_const F (w := w) (lo := 1) l2 (by decide) (by decide) F.enc
    rw [encs_are, List.map_map] at this
    exact this
  all_goals decide
end Mine
namespace Mine
open PySem PySem.W PyProof.Rows
theorem ints_read {lo : Nat} {X : List Addr} {s : Shared} {vs : List Value} {ns : List Int} (h : IntsAre vs ns) : Rds lo X s (intsL ns) vs := by
  induction h with
  | nil => exact Rds.nil
  | cons n t _ ih => exact Rds.cons (by simp only [Rd]; exact ⟨t, rfl⟩) ih
theorem ns_one {h : Heap} {a : Addr} {m m' : Str → Option Value} (x : h.Ns a m) (y : h.Ns a m') (n : Str) : m n = m' n := by
  obtain ⟨o, es, ep, e1, e2, _, e3⟩ := x
  obtain ⟨o', es', ep', e1', e2', _, e3'⟩ := y
  rw [e1] at e1'
  injection e1' with e1'
  subst e1'
  rw [e2] at e2'
  injection e2' with e2' _
  subst e2'
  rw [← e3, ← e3']
theorem law_name : dLaw.1.name = Str.ofString "law" := by kernel_rfl
theorem base_of {H0 : Heap} {S : SharedT} (F : Facts H0 S) {w : World} {h : Heap} {mg mb : Str → Option Value} {q : Program} {loose : List Str} {mean : ExcName → Option Value} (T : Top q loose mean mg mb h) (hk : ∀ b o, S.abs.heap.get? b = some o → h.get? b = some o) : Base (cxOf S w) h :=
  ⟨(Heap.Ns.of_isNs F.main).keeps hk, ⟨mb, T.b, T.builtins⟩, T.nolimit, T.nodigits, ⟨_, (Heap.Ns.of_isNs F.stat).keeps hk, F.booked⟩, fun b o e => hk b o (fm_back _ e)⟩
theorem room12 : Room 12 callerA := ⟨rfl, by decide +kernel, by decide +kernel⟩
theorem post_true (args : List WData) : PySem.Challenge.rw_if0011_01.row.toRowW.claim.post args (.bool true) args = true := by
  first | rfl | wrow_post | kernel_rfl
theorem walk0 : WalkO qv looseV (fun _ _ => True) Says PySem.Challenge.rw_if0011_01.row.toRowW dLaw.1 dLaw.2 fun f vs => PySem.call f vs := by
  intro w s₀ s₁ mg mb Gd Y a o pm cd doc dV kV h1 h2 h3 h4 h5 hg args vals as hpre hlay hrd hwl hlo
  obtain ⟨S, F, hk⟩ := Y
  wrow_args hpre hlay hrd hwl hlo
  rename_i ns hs hlay0 hL1 hr1 hl2 as4 as3 l vs as hL ra w1 r0 hI hr hlen htrue
  have B : Base (cxOf S w) s₁.heap := base_of F Gd.T hk
  have ha : a = 204 := by
    have hn := F.names
    simp only [List.map_cons, List.map_nil, List.cons.injEq, and_true] at hn
    have e := ns_one Gd.T.g B.g dLaw.1.name
    rw [h5, law_name] at e
    have e2 : S.abs.heap.nsMap mainGlobals (Str.ofString "law") = some (.ref 204) := hn.2.2.2.2.2.2.2.2.2.2.2.2.2.2.2.2.2.2.2
    have e := e.trans e2
    injection e with e
    injection e
  subst ha
  refine wpAny_mono (law_call (c := cxOf S w) rfl (scene_of F w) (ns := ns) (by omega) (A := callerA) (s := s₁) (vs := [.ref l]) room12 B (.of_eq hg)
    (Rds.cons (by simp only [Rd]; exact ⟨l, vs, rfl, List.not_mem_nil, hL, ints_read hI⟩) Rds.nil) (Q := fun v s' => GoodWG Challenge.rw_if0011_01.row.toRowW.claim (classAt s₀.heap) (ExcName.means s₀.heap) [ofPy (PyData.list (List.map PyData.int ns))] s₁ (.ok (.ret v)) s')
    fun s' k1 k2 k3 => ⟨.inl ⟨.bool true, .bool true, [], rfl, fun _ => rfl, .bool true, post_true _, fun _ => ⟨List.nodup_nil, fun _ m => nomatch m⟩⟩, .of_keep k1, k2, k3⟩) (fun _ _ g => g) (fun _ _ g => g.elim)
end Mine
theorem PySem.Challenge.cw_if0011_01_holds : PySem.Challenge.rw_if0011_01.Holds :=
  Mine.head1 Mine.walk0
