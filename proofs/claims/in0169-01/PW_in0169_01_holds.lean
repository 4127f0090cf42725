import PyProof.Rows.All
import Wide.All
import OpenK.AllK
import Wide.FinOn
import PySem.Challenge.RW_in0169_01
open PySem PySem.W PyProof.Rows
set_option Elab.async false
set_option maxRecDepth 100000
set_option autoImplicit false
set_option linter.unusedVariables false

/-! The law of translate_pattern, in0169-01. Typed by an AI agent; no person has read it. -/

/-! ## W1 -/
namespace Mine
/-! values and the ledger -/
inductive PV where
  | undef
  | val (v : Value)
  | int (i : Int)
  | bool (b : Bool)
  | str (s : List Nat)
  | t3 (a b c : Int)
  | app (a : Addr)

noncomputable abbrev PV.ref (a : Addr) : PV := .val (.ref a)
/-- a text by its signs -/
noncomputable abbrev S (l : List Nat) : Str := ⟨l.toArray⟩
theorem S_toList (x : Str) : S x.cps.toList = x := by cases x; simp

noncomputable def Sub (h h' : Heap) : Prop := ∀ b o, h.get? b = some o → h'.get? b = some o
theorem Sub.rfl {h : Heap} : Sub h h := fun _ _ e => e
theorem Sub.trans {h₁ h₂ h₃ : Heap} (a : Sub h₁ h₂) (b : Sub h₂ h₃) : Sub h₁ h₃ := fun x o e => b x o (a x o e)
theorem Sub.push (h : Heap) (o : Obj) : Sub h (h.push o) := fun _ _ e => Heap.get?_push_of_some o e

noncomputable def Hard (o : Obj) : Prop := (o.cls = .type "tuple" ∧ ∃ xs n, o.data = .seq xs n) ∨ (o.cls = .type "builtin_function_or_method" ∧ ∃ vs, o.data = .fields vs)

noncomputable def HSub (h h' : Heap) : Prop := ∀ b o, Hard o → h.get? b = some o → h'.get? b = some o
theorem HSub.rfl {h : Heap} : HSub h h := fun _ _ _ e => e
theorem HSub.trans {h₁ h₂ h₃ : Heap} (a : HSub h₁ h₂) (b : HSub h₂ h₃) : HSub h₁ h₃ := fun x o k e => b x o k (a x o k e)
theorem Sub.hard {h h' : Heap} (s : Sub h h') : HSub h h' := fun b o _ e => s b o e

noncomputable abbrev listO (vs : Array Value) (n : Nat) : Obj := { cls := .type "list", data := .seq vs n }
noncomputable abbrev tupO (vs : Array Value) (n : Nat) : Obj := { cls := .type "tuple", data := .seq vs n }
noncomputable abbrev appO (a : Addr) : Obj := { cls := .type "builtin_function_or_method", data := .fields #[.builtin "list.append", .ref a] }

noncomputable def VR (h : Heap) : PV → Value → Prop
  | .undef, _ => False
  | .val x, v => v = x
  | .int i, v => ∃ t, v = .int i t
  | .bool b, v => v = .bool b
  | .str s, v => ∃ t, v = .str (S s) t
  | .t3 a b c, v => ∃ l x y z n, v = .ref l ∧ h.get? l = some (tupO #[.int a x, .int b y, .int c z] n)
  | .app a, v => ∃ q, v = .ref q ∧ h.get? q = some (appO a)

theorem VR.hsub {h h' : Heap} (s : HSub h h') : ∀ {pv : PV} {v : Value}, VR h pv v → VR h' pv v
  | .undef, _, x => x
  | .val _, _, x => x
  | .int _, _, x => x
  | .bool _, _, x => x
  | .str _, _, x => x
  | .t3 .., _, ⟨l, x, y, z, n, e, g⟩ => ⟨l, x, y, z, n, e, s _ _ (.inl ⟨rfl, _, _, rfl⟩) g⟩
  | .app _, _, ⟨q, e, g⟩ => ⟨q, e, s _ _ (.inr ⟨rfl, _, rfl⟩) g⟩

noncomputable def VRs (h : Heap) : List PV → List Value → Prop
  | [], [] => True
  | p :: ps, v :: vs => VR h p v ∧ VRs h ps vs
  | _, _ => False

theorem VRs.hsub {h h' : Heap} (s : HSub h h') : ∀ {ps : List PV} {vs : List Value}, VRs h ps vs → VRs h' ps vs
  | [], [], _ => trivial
  | _ :: _, _ :: _, ⟨a, b⟩ => ⟨a.hsub s, VRs.hsub s b⟩
  | [], _ :: _, x => x.elim
  | _ :: _, [], x => x.elim
theorem VRs.length {h : Heap} : ∀ {ps : List PV} {vs : List Value}, VRs h ps vs → vs.length = ps.length
  | [], [], _ => rfl
  | _ :: _, _ :: _, ⟨_, b⟩ => congrArg (· + 1) (VRs.length b)
  | [], _ :: _, x => x.elim
  | _ :: _, [], x => x.elim
theorem VRs.get {h : Heap} : ∀ {ps : List PV} {vs : List Value}, VRs h ps vs → ∀ {i : Nat} {p : PV}, ps[i]? = some p → ∃ v, vs[i]? = some v ∧ VR h p v
  | _ :: _, _ :: _, ⟨a, _⟩, 0, _, e => by cases e; exact ⟨_, rfl, a⟩
  | _ :: _, _ :: _, ⟨_, b⟩, i + 1, _, e => VRs.get b (i := i) (by simpa using e)
  | [], [], _, _, _, e => by simp at e
  | [], _ :: _, x, _, _, _ => x.elim
  | _ :: _, [], x, _, _, _ => x.elim
theorem VRs.append {h : Heap} : ∀ {ps : List PV} {vs : List Value}, VRs h ps vs → ∀ {qs : List PV} {ws : List Value}, VRs h qs ws → VRs h (ps ++ qs) (vs ++ ws)
  | [], [], _, _, _, y => y
  | _ :: _, _ :: _, ⟨a, b⟩, _, _, y => ⟨a, VRs.append b y⟩
  | [], _ :: _, x, _, _, _ => x.elim
  | _ :: _, [], x, _, _, _ => x.elim
theorem VRs.set {h : Heap} : ∀ {ps : List PV} {vs : List Value}, VRs h ps vs → ∀ {i : Nat} {p : PV} {v : Value}, VR h p v → VRs h (ps.set i p) (vs.set i v)
  | [], [], _, _, _, _, _ => trivial
  | _ :: _, _ :: _, ⟨_, b⟩, 0, _, _, y => ⟨y, b⟩
  | _ :: _, _ :: _, ⟨a, b⟩, _ + 1, _, _, y => ⟨a, VRs.set b y⟩
  | [], _ :: _, x, _, _, _, _ => x.elim
  | _ :: _, [], x, _, _, _, _ => x.elim
theorem VRs.one {h : Heap} {p : PV} {v : Value} (x : VR h p v) : VRs h [p] [v] := ⟨x, trivial⟩
theorem VRs.cons {h : Heap} {p : PV} {v : Value} {ps vs} (x : VR h p v) (y : VRs h ps vs) : VRs h (p :: ps) (v :: vs) := ⟨x, y⟩
theorem VRs.take {h : Heap} : ∀ {ps : List PV} {vs : List Value}, VRs h ps vs → ∀ k, VRs h (ps.take k) (vs.take k)
  | [], [], _, k => by cases k <;> trivial
  | _ :: _, _ :: _, _, 0 => trivial
  | _ :: _, _ :: _, ⟨a, b⟩, k + 1 => ⟨a, VRs.take b k⟩
  | [], _ :: _, x, _ => x.elim
  | _ :: _, [], x, _ => x.elim
theorem VRs.drop {h : Heap} : ∀ {ps : List PV} {vs : List Value}, VRs h ps vs → ∀ k, VRs h (ps.drop k) (vs.drop k)
  | [], [], _, k => by cases k <;> trivial
  | _ :: _, _ :: _, x, 0 => x
  | _ :: _, _ :: _, ⟨_, b⟩, k + 1 => VRs.drop b k
  | [], _ :: _, x, _ => x.elim
  | _ :: _, [], x, _ => x.elim

section
variable {h : Heap} {Q : List Value → Prop}
theorem VRs.c {p : PV} {ps : List PV} (k : ∀ v vs, VR h p v → VRs h ps vs → Q (v :: vs)) (vals : List Value) (r : VRs h (p :: ps) vals) : Q vals := by
  cases vals with
  | nil => exact r.elim
  | cons v vs => exact k v vs r.1 r.2
theorem VRs.z (k : Q []) (vals : List Value) (r : VRs h [] vals) : Q vals := by
  cases vals with
  | nil => exact k
  | cons v vs => exact r.elim
theorem VRs.e1 {a : PV} (k : ∀ x, VR h a x → Q [x]) : ∀ vals, VRs h [a] vals → Q vals := VRs.c fun x vs r1 r2 => VRs.z (Q := fun l => Q (x :: l)) (k x r1) vs r2
theorem VRs.e2 {a b : PV} (k : ∀ x y, VR h a x → VR h b y → Q [x, y]) : ∀ vals, VRs h [a, b] vals → Q vals := VRs.c fun x vs r1 r2 => VRs.e1 (Q := fun l => Q (x :: l)) (fun y => k x y r1) vs r2
theorem VRs.e3 {a b c : PV} (k : ∀ x y z, VR h a x → VR h b y → VR h c z → Q [x, y, z]) : ∀ vals, VRs h [a, b, c] vals → Q vals := VRs.c fun x vs r1 r2 => VRs.e2 (Q := fun l => Q (x :: l)) (fun y z => k x y z r1) vs r2
theorem VR.sC {x : List Nat} {v : Value} {Q : Value → Prop} (r : VR h (.str x) v) (k : ∀ t, Q (.str (S x) t)) : Q v := let ⟨t, e⟩ := r; e ▸ k t
theorem VR.iC {x : Int} {v : Value} {Q : Value → Prop} (r : VR h (.int x) v) (k : ∀ t, Q (.int x t)) : Q v := let ⟨t, e⟩ := r; e ▸ k t
theorem VR.vC {x v : Value} {Q : Value → Prop} (r : VR h (.val x) v) (k : Q x) : Q v := (show v = x from r) ▸ k
theorem VRs.s {x : List Nat} (k : ∀ t, Q [.str (S x) t]) : ∀ vals, VRs h [.str x] vals → Q vals := VRs.e1 fun x r1 => r1.sC (Q := fun v => Q [v]) k
theorem VRs.i {x : Int} (k : ∀ t, Q [.int x t]) : ∀ vals, VRs h [.int x] vals → Q vals := VRs.e1 fun x r1 => r1.iC (Q := fun v => Q [v]) k
theorem VRs.v {x : Value} (k : Q [x]) : ∀ vals, VRs h [.val x] vals → Q vals := VRs.e1 fun x r1 => r1.vC (Q := fun v => Q [v]) k
theorem VRs.pv {x : Value} {p : PV} (k : ∀ y, VR h p y → Q [x, y]) : ∀ vals, VRs h [.val x, p] vals → Q vals := VRs.e2 fun x y r1 r2 => r1.vC (Q := fun v => Q [v, y]) (k y r2)
theorem VRs.ps {x : List Nat} {p : PV} (k : ∀ t y, VR h p y → Q [.str (S x) t, y]) : ∀ vals, VRs h [.str x, p] vals → Q vals := VRs.e2 fun x y r1 r2 => r1.sC (Q := fun v => Q [v, y]) fun t => k t y r2
theorem VRs.sv {x : List Nat} {y : Value} (k : ∀ t, Q [.str (S x) t, y]) : ∀ vals, VRs h [.str x, .val y] vals → Q vals := VRs.ps fun t y r2 => r2.vC (Q := fun v => Q [.str (S x) t, v]) (k t)
theorem VRs.ss {x y : List Nat} (k : ∀ t u, Q [.str (S x) t, .str (S y) u]) : ∀ vals, VRs h [.str x, .str y] vals → Q vals := VRs.ps fun t y r2 => r2.sC (Q := fun v => Q [.str (S x) t, v]) (k t)
theorem VRs.vv {x y : Value} (k : Q [x, y]) : ∀ vals, VRs h [.val x, .val y] vals → Q vals := VRs.pv fun y r2 => r2.vC (Q := fun v => Q [x, v]) k
theorem VRs.vi {x : Value} {y : Int} (k : ∀ t, Q [x, .int y t]) : ∀ vals, VRs h [.val x, .int y] vals → Q vals := VRs.pv fun y r2 => r2.iC (Q := fun v => Q [x, v]) k
theorem VRs.ii {x y : Int} (k : ∀ t u, Q [.int x t, .int y u]) : ∀ vals, VRs h [.int x, .int y] vals → Q vals := VRs.e2 fun x y r1 r2 => r1.iC (Q := fun v => Q [v, y]) fun t => r2.iC (Q := fun v => Q [_, v]) (k t)
theorem VRs.iii {x y z : Int} (k : ∀ t u v, Q [.int x t, .int y u, .int z v]) : ∀ vals, VRs h [.int x, .int y, .int z] vals → Q vals := VRs.e3 fun x y z r1 r2 r3 => r1.iC (Q := fun v => Q [v, y, z]) fun t => r2.iC (Q := fun v => Q [_, v, z]) fun u => r3.iC (Q := fun v => Q [_, _, v]) (k t u)
theorem VRs.sss {x y z : List Nat} (k : ∀ t u v, Q [.str (S x) t, .str (S y) u, .str (S z) v]) : ∀ vals, VRs h [.str x, .str y, .str z] vals → Q vals := VRs.e3 fun x y z r1 r2 r3 => r1.sC (Q := fun v => Q [v, y, z]) fun t => r2.sC (Q := fun v => Q [_, v, z]) fun u => r3.sC (Q := fun v => Q [_, _, v]) (k t u)
theorem VRs.ssi {x y : List Nat} {z : Int} (k : ∀ t u v, Q [.str (S x) t, .str (S y) u, .int z v]) : ∀ vals, VRs h [.str x, .str y, .int z] vals → Q vals := VRs.e3 fun x y z r1 r2 r3 => r1.sC (Q := fun v => Q [v, y, z]) fun t => r2.sC (Q := fun v => Q [_, v, z]) fun u => r3.iC (Q := fun v => Q [_, _, v]) (k t u)
theorem VRs.vvs {x y : Value} {z : List Nat} (k : ∀ t, Q [x, y, .str (S z) t]) : ∀ vals, VRs h [.val x, .val y, .str z] vals → Q vals := VRs.e3 fun x y z r1 r2 r3 => r1.vC (Q := fun v => Q [v, y, z]) (r2.vC (Q := fun v => Q [_, v, z]) (r3.sC (Q := fun v => Q [_, _, v]) k))
theorem lenC {n : Nat} (k : ∀ a t, t.length = n → Q (a :: t)) (l : List Value) (e : l.length = n + 1) : Q l := by
  cases l with
  | nil => cases e
  | cons a t => exact k a t (Nat.succ.inj e)
theorem len1 (k : ∀ a, Q [a]) : ∀ l : List Value, l.length = 1 → Q l := lenC fun a t q => (List.eq_nil_of_length_eq_zero q).symm ▸ k a
theorem len2 (k : ∀ a b, Q [a, b]) : ∀ l : List Value, l.length = 2 → Q l := lenC fun a t q => len1 (Q := fun t => Q (a :: t)) (k a) t q
theorem len3 (k : ∀ a b c, Q [a, b, c]) : ∀ l : List Value, l.length = 3 → Q l := lenC fun a t q => len2 (Q := fun t => Q (a :: t)) (k a) t q
end

inductive MO where
  | lst (xs : List PV)
  | set (S : Int → Bool) (n : Nat)
  | raw (o : Obj)

noncomputable abbrev Ledger := List (Addr × MO)

section
variable (prog : Program) (w : World)
noncomputable def MR (h : Heap) (a : Addr) : MO → Prop
  | .lst xs => ∃ vs n, h.get? a = some (listO vs n) ∧ VRs h xs vs.toList
  | .set S n => h.SetOf (intKind prog w) a S n
  | .raw o => h.get? a = some o ∧ ¬ Hard o

structure MemOk (h0 : Heap) (m : Ledger) (h : Heap) : Prop where
  at_ : ∀ p ∈ m, MR prog w h p.1 p.2 ∧ h0.get? p.1 = none
  nd : (m.map (·.1)).Nodup
end

theorem notHard_list {vs n} : ¬ Hard (listO vs n) := by
  rintro (⟨h, -⟩ | ⟨h, -⟩)
  · exact absurd h (by show ¬ (Value.type "list" = Value.type "tuple"); decide)
  · exact absurd h (by show ¬ (Value.type "list" = Value.type "builtin_function_or_method"); decide)
theorem notHard_dict {o : Obj} {es ep} (hd : o.data = .dict es ep) : ¬ Hard o := by
  rintro (⟨-, _, _, h⟩ | ⟨-, _, h⟩) <;> (rw [hd] at h; cases h)
theorem notHard_cell {o : Obj} {v} (hd : o.data = .cell v) : ¬ Hard o := by
  rintro (⟨-, _, _, h⟩ | ⟨-, _, h⟩) <;> (rw [hd] at h; cases h)
theorem notHard_set {o : Obj} {es ep t} (hd : o.data = .set es ep t) : ¬ Hard o := by
  rintro (⟨-, _, _, h⟩ | ⟨-, _, h⟩) <;> (rw [hd] at h; cases h)

section
variable {prog : Program} {w : World}
theorem MR.soft {h : Heap} {a : Addr} : ∀ {mo : MO}, MR prog w h a mo → ∃ o, h.get? a = some o ∧ ¬ Hard o
  | .lst _, ⟨_, _, e, _⟩ => ⟨_, e, notHard_list⟩
  | .set _ _, ⟨_, _, _, _, e, _, hd, _⟩ => ⟨_, e, notHard_set hd⟩
  | .raw _, ⟨e, x⟩ => ⟨_, e, x⟩
/-- the object itself and the hard ones stand -/
theorem MR.keep {h h' : Heap} {a : Addr} (s : HSub h h') (ha : ∀ o, h.get? a = some o → h'.get? a = some o) : ∀ {mo : MO}, MR prog w h a mo → MR prog w h' a mo
  | .lst _, ⟨vs, n, e, r⟩ => ⟨vs, n, ha _ e, r.hsub s⟩
  | .set _ _, ⟨o, es, ep, t, e, r⟩ => ⟨o, es, ep, t, ha _ e, r⟩
  | .raw _, ⟨e, x⟩ => ⟨ha _ e, x⟩
/-- a change at one soft place keeps the hard ones -/
theorem hsub_of_but {h h' : Heap} {a : Addr} (k : ∀ b o, b ≠ a → h.get? b = some o → h'.get? b = some o) (ha : ∃ o, h.get? a = some o ∧ ¬ Hard o) : HSub h h' := by
  intro b o hb e
  by_cases q : b = a
  · subst q
    obtain ⟨o', e', n⟩ := ha
    rw [e] at e'; cases e'
    exact absurd hb n
  · exact k b o q e
theorem MemOk.sub {h0 h h' : Heap} {m : Ledger} (x : MemOk prog w h0 m h) (s : Sub h h') : MemOk prog w h0 m h' :=
  ⟨fun p hp => ⟨(x.at_ p hp).1.keep s.hard (fun o e => s _ o e), (x.at_ p hp).2⟩, x.nd⟩
theorem MemOk.keep {h0 h h' : Heap} {m : Ledger} (x : MemOk prog w h0 m h) (s : HSub h h') (k : ∀ a ∈ m.map (·.1), ∀ o, h.get? a = some o → h'.get? a = some o) : MemOk prog w h0 m h' :=
  ⟨fun p hp => ⟨(x.at_ p hp).1.keep s (k _ (List.mem_map_of_mem hp)), (x.at_ p hp).2⟩, x.nd⟩
end

/-! frames -/
structure Cx where
  env : Env
  names : List Str
  rw : Bool := true

structure Cx.Ok (c : Cx) : Prop where
  nd : c.names.Nodup
  kind : c.env.scope.kind = .function
  gl : c.env.globals = mainGlobals
  bl : c.env.builtins = builtinsNs
  st : ∀ x ∈ c.names, c.env.kindOf x = some .local ∨ ((c.env.kindOf x = some .cell ∨ c.env.kindOf x = some .free) ∧ ∃ a, c.env.cells.lookup x = some a)
  inj : ∀ x y a, x ≠ y → c.env.cells.lookup x = some a → c.env.cells.lookup y = some a → False
  wr : c.rw = true → ∀ x ∈ c.names, c.env.kindOf x ≠ some .free
  nodbg : ∀ x ∈ c.names, (x == ("__debug__" : Str)) = false ∧ (x == ("__classdict__" : Str)) = false

noncomputable def Stored (h : Heap) (env : Env) (x : Str) (v : Value) : Prop :=
  (env.kindOf x = some .local ∧ ∃ m, h.Ns env.locals m ∧ m x = some v) ∨
  ((env.kindOf x = some .cell ∨ env.kindOf x = some .free) ∧ ∃ a, env.cells.lookup x = some a ∧ h.IsCell a (some v))

structure St where
  vars : List PV
  mem : Ledger

structure Rel (prog : Program) (w : World) (c : Cx) (h0 : Heap) (σ : St) (h : Heap) : Prop where
  keep : Sub h0 h
  vars : ∀ (k : Nat) (pv : PV), σ.vars[k]? = some pv → pv = .undef ∨ ∃ (x : Str) (v : Value), c.names[k]? = some x ∧ Stored h c.env x v ∧ VR h pv v
  mem : MemOk prog w h0 σ.mem h
  loc : ∃ m, h.Ns c.env.locals m
  locN : c.env.locals ∉ σ.mem.map (·.1)
  locF : h0.get? c.env.locals = none
  cells : ∀ x a, c.env.cells.lookup x = some a → (∃ v, h.IsCell a v) ∧ a ∉ σ.mem.map (·.1)
  cellF : c.rw = true → ∀ x a, c.env.cells.lookup x = some a → h0.get? a = none

section
variable {prog : Program} {w : World} {c : Cx} {h0 h h' : Heap} {σ : St}

theorem Stored.keep {x : Str} {v : Value} (s : Stored h c.env x v) (kl : ∀ o, h.get? c.env.locals = some o → h'.get? c.env.locals = some o)
    (kc : ∀ y a, c.env.cells.lookup y = some a → ∀ o, h.get? a = some o → h'.get? a = some o) : Stored h' c.env x v := by
  rcases s with ⟨hk, m, hn, hm⟩ | ⟨hk, a, ha, ho⟩
  · obtain ⟨o, es, ep, e, r⟩ := hn
    exact .inl ⟨hk, m, ⟨o, es, ep, kl o e, r⟩, hm⟩
  · obtain ⟨o, e, r⟩ := ho
    exact .inr ⟨hk, a, ha, o, kc _ _ ha o e, r⟩

/-- a ledger's change: the frame, the cells and the hard ones stand -/
theorem Rel.change {m' : Ledger} (R : Rel prog w c h0 σ h) (s : HSub h h') (keep : Sub h0 h') (kl : ∀ o, h.get? c.env.locals = some o → h'.get? c.env.locals = some o)
    (kc : ∀ y a, c.env.cells.lookup y = some a → ∀ o, h.get? a = some o → h'.get? a = some o) (mem : MemOk prog w h0 m' h')
    (l : c.env.locals ∉ m'.map (·.1)) (q : ∀ x a, c.env.cells.lookup x = some a → a ∉ m'.map (·.1)) : Rel prog w c h0 ⟨σ.vars, m'⟩ h' where
  keep := keep
  vars := fun k pv e => (R.vars k pv e).imp id fun ⟨x, v, hx, st, vr⟩ => ⟨x, v, hx, st.keep kl kc, vr.hsub s⟩
  mem := mem
  loc := let ⟨m, o, es, ep, e, r⟩ := R.loc; ⟨m, o, es, ep, kl o e, r⟩
  locN := l
  locF := R.locF
  cells := fun x a e => ⟨let ⟨v, o, g, r⟩ := (R.cells x a e).1; ⟨v, o, kc _ _ e o g, r⟩, q x a e⟩
  cellF := R.cellF

theorem Rel.sub (R : Rel prog w c h0 σ h) (s : Sub h h') : Rel prog w c h0 σ h' :=
  R.change s.hard (R.keep.trans s) (fun o e => s _ o e) (fun _ _ _ o e => s _ o e) (R.mem.sub s) R.locN fun x a e => (R.cells x a e).2

/-- fewer entries, in any order -/
theorem Rel.less {m' : Ledger} (R : Rel prog w c h0 σ h) (hs : ∀ p ∈ m', p ∈ σ.mem) (nd : (m'.map (·.1)).Nodup) : Rel prog w c h0 ⟨σ.vars, m'⟩ h := by
  have hm : ∀ a, a ∈ m'.map (·.1) → a ∈ σ.mem.map (·.1) := fun a ha => by
    obtain ⟨p, hp, rfl⟩ := List.mem_map.mp ha
    exact List.mem_map_of_mem (hs p hp)
  exact R.change HSub.rfl R.keep (fun _ e => e) (fun _ _ _ _ e => e) ⟨fun p hp => R.mem.at_ p (hs p hp), nd⟩ (fun q => R.locN (hm _ q)) fun x a e q => (R.cells x a e).2 (hm _ q)

/-- variables forgotten or changed to what also holds -/
theorem Rel.vars' {vs' : List PV} (R : Rel prog w c h0 σ h) (hv : ∀ (k : Nat) (pv : PV), vs'[k]? = some pv → pv = .undef ∨ σ.vars[k]? = some pv) : Rel prog w c h0 ⟨vs', σ.mem⟩ h where
  keep := R.keep
  vars := fun k pv e => (hv k pv e).elim .inl fun e' => R.vars k pv e'
  mem := R.mem
  loc := R.loc
  locN := R.locN
  locF := R.locF
  cells := R.cells
  cellF := R.cellF
end

noncomputable def OkA (d : Nat) (A : Around) : Prop := A.handled = none ∧ A.depth + d ≤ 900 ∧ A.units + 20 * d ≤ 9000
theorem OkA.lt {d : Nat} {A : Around} (h : OkA d A) : A.depth < recursionLimit := by have := h.2.1; unfold recursionLimit; lia
theorem OkA.un {d : Nat} {A : Around} (h : OkA d A) : A.units < cLine := by have := h.2.2; unfold cLine; lia
theorem OkA.in1 {d : Nat} {A : Around} (h : OkA (d + 1) A) : OkA d A.in1 := ⟨h.1, by have := h.2.1; show A.depth + d ≤ 900; lia, by have := h.2.2; show A.units + 1 + 20 * d ≤ 9000; lia⟩
theorem OkA.deeper {d : Nat} {A : Around} (h : OkA (d + 1) A) (env : Env) : OkA d (A.deeper env) := ⟨h.1, by have := h.2.1; show A.depth + 1 + d ≤ 900; lia, by have := h.2.2; show A.units + 3 + 20 * d ≤ 9000; lia⟩
theorem OkA.le {d d' : Nat} {A : Around} (h : OkA d A) (q : d' ≤ d) : OkA d' A := ⟨h.1, by have := h.2.1; lia, by have := h.2.2; lia⟩

/-! judgements -/
inductive FL where
  | next | brk | cont | ret (pv : PV)

noncomputable def FR (h : Heap) : FL → Flow → Prop
  | .next, .next => True
  | .brk, .brk => True
  | .cont, .cont => True
  | .ret pv, .ret v => VR h pv v
  | _, _ => False
theorem FR.hsub {h h' : Heap} (s : HSub h h') {fl : FL} {f : Flow} (x : FR h fl f) : FR h' fl f := by
  cases fl <;> cases f <;> first | exact x | exact VR.hsub s x

section
variable (prog : Program) (w : World) (B : Heap → Prop)

noncomputable def EvE (d : Nat) (c : Cx) (σ : St) (e : Expr) (pv : PV) : Prop :=
  ∀ (h0 : Heap) (A : Around) (s : Shared) (Q : Value → Shared → Prop) (E : Value → Shared → Prop), B h0 → OkA d A → Rel prog w c h0 σ s.heap →
    (∀ v h' tk, Sub s.heap h' → VR h' pv v → Q v { s with heap := h', toks := tk }) → wpAny (model prog w) A (eval e c.env) Q E s

noncomputable def EvB (d : Nat) (c : Cx) (σ : St) (e : Expr) (b : Bool) : Prop :=
  ∀ (h0 : Heap) (A : Around) (s : Shared) (Q : Bool → Shared → Prop) (E : Value → Shared → Prop), B h0 → OkA d A → Rel prog w c h0 σ s.heap →
    (∀ h' tk, Sub s.heap h' → Q b { s with heap := h', toks := tk }) → wpAny (model prog w) A (isTrue e c.env (eval e c.env)) Q E s

noncomputable def EvM (d : Nat) (c : Cx) (σ : St) (e : Expr) (P : PV → Ledger → Prop) : Prop :=
  ∀ (h0 : Heap) (A : Around) (s : Shared) (Q : Value → Shared → Prop) (E : Value → Shared → Prop), B h0 → OkA d A → Rel prog w c h0 σ s.heap →
    (∀ pv m' v h' tk, P pv m' → HSub s.heap h' → Rel prog w c h0 ⟨σ.vars, m'⟩ h' → VR h' pv v → Q v { s with heap := h', toks := tk }) → wpAny (model prog w) A (eval e c.env) Q E s

noncomputable def ExS (d : Nat) (c : Cx) (σ : St) (t : Stmt) (P : FL → St → Prop) : Prop :=
  ∀ (h0 : Heap) (A : Around) (s : Shared) (Q : Flow → Shared → Prop) (E : Value → Shared → Prop), B h0 → OkA d A → Rel prog w c h0 σ s.heap →
    (∀ fl σ' f h' tk, P fl σ' → Rel prog w c h0 σ' h' → FR h' fl f → Q f { s with heap := h', toks := tk }) → wpAny (model prog w) A (exec t c.env) Q E s

noncomputable def ExSs (d : Nat) (c : Cx) (σ : St) (t : List Stmt) (P : FL → St → Prop) : Prop :=
  ∀ (h0 : Heap) (A : Around) (s : Shared) (Q : Flow → Shared → Prop) (E : Value → Shared → Prop), B h0 → OkA d A → Rel prog w c h0 σ s.heap →
    (∀ fl σ' f h' tk, P fl σ' → Rel prog w c h0 σ' h' → FR h' fl f → Q f { s with heap := h', toks := tk }) → wpAny (model prog w) A (execs t c.env) Q E s

/-- a call's contract: its arguments, its part of the ledger, what it gives back -/
noncomputable def FnOk (d : Nat) (f : Value) (args : List PV) (m0 : Ledger) (P : PV → Ledger → Prop) : Prop :=
  ∀ (h0 : Heap) (A : Around) (s : Shared) (vals : List Value) (Q : Value → Shared → Prop) (E : Value → Shared → Prop), B h0 → OkA d A → Sub h0 s.heap → MemOk prog w h0 m0 s.heap → VRs s.heap args vals →
    (∀ pv m1 v h' tk, P pv m1 → Sub h0 h' → MemOk prog w h0 m1 h' → VR h' pv v → Q v { s with heap := h', toks := tk }) → wpAny (model prog w) A (call f vals) Q E s
end
end Mine

/-! ## W2 -/
namespace Mine
section
variable {prog : Program} {w : World} {B : Heap → Prop} {d : Nat} {c : Cx} {σ : St}

/-! names, constants -/
theorem Cx.Ok.inter (C : c.Ok) : interactive c.env = false := by
  unfold interactive; rw [C.kind]; rfl
theorem loadVar {A : Around} {h0 : Heap} {s : Shared} {Q E : Value → Shared → Prop} {k : Nat} {x : Str} {pv : PV} (C : c.Ok) (R : Rel prog w c h0 σ s.heap) (hk : c.names[k]? = some x) (hv : σ.vars[k]? = some pv) (hu : pv ≠ .undef)
    (h : ∀ v, VR s.heap pv v → Q v s) : wpAny (model prog w) A (loadName c.env x) Q E s := by
  rcases R.vars k pv hv with e | ⟨x', v, hx, st, vr⟩
  · exact absurd e hu
  rw [hk] at hx; cases hx
  have hm : x ∈ c.names := List.mem_of_getElem? hk
  rcases st with ⟨hl, m, hn, hmx⟩ | ⟨hl | hl, a, ha, ho⟩
  · exact wpAny_loadName_local C.kind hl hn hmx (h v vr)
  · exact wpAny_loadName_cell C.kind hl ha ho (h v vr)
  · exact wpAny_loadName_free C.kind hl ha ho (h v vr) (C.nodbg x hm).2

theorem EvE.var {x : Str} {pos : Pos} {pv : PV} (k : Nat) (C : c.Ok) (hk : c.names[k]? = some x) (hv : σ.vars[k]? = some pv) (hu : pv ≠ .undef := by nofun) : EvE prog w B d c σ (.Name x pos) pv :=
  fun h0 A s Q E _ _ R h => wpAny_Name (loadVar C R hk hv hu fun v vr => h v s.heap s.toks Sub.rfl vr) (C.nodbg x (List.mem_of_getElem? hk)).1

theorem EvE.int {i : Int} {k : Nat} {pos : Pos} : EvE prog w B d c σ (.Constant (.int i) k pos) (.int i) :=
  fun _ _ s _ _ _ _ _ h => wpAny_Constant_int (h _ s.heap (s.toks + 1) Sub.rfl ⟨_, rfl⟩)
theorem EvE.str {x : Str} {k : Nat} {pos : Pos} : EvE prog w B d c σ (.Constant (.str x) k pos) (.str x.cps.toList) :=
  fun _ _ s _ _ _ _ _ h => wpAny_Constant_str (h _ s.heap (s.toks + 1) Sub.rfl ⟨_, by rw [S_toList]⟩)
theorem EvE.strL {x : Str} {k : Nat} {pos : Pos} (l : List Nat) (hl : x = S l := by decide +kernel) : EvE prog w B d c σ (.Constant (.str x) k pos) (.str l) := by
  subst hl
  exact fun _ _ s _ _ _ _ _ h => wpAny_Constant_str (h _ s.heap (s.toks + 1) Sub.rfl ⟨_, rfl⟩)
theorem EvE.bool {b : Bool} {k : Nat} {pos : Pos} : EvE prog w B d c σ (.Constant (.bool b) k pos) (.bool b) :=
  fun _ _ s _ _ _ _ _ h => wpAny_Constant_bool (h _ s.heap s.toks Sub.rfl rfl)
theorem EvE.noneC {k : Nat} {pos : Pos} : EvE prog w B d c σ (.Constant .none k pos) (.val .none) :=
  fun _ _ s _ _ _ _ _ h => wpAny_Constant_none (h _ s.heap s.toks Sub.rfl rfl)

/-! operators -/
noncomputable def BinR (prog : Program) (w : World) (op : Operator) (a b r : PV) : Prop :=
  ∀ (A : Around) (s : Shared) (x y : Value) (Q E : Value → Shared → Prop), A.units < cLine → VR s.heap a x → VR s.heap b y → (∀ v h' tk, Sub s.heap h' → VR h' r v → Q v { s with heap := h', toks := tk }) →
    wpAny (model prog w) A (binaryOp op x y) Q E s
noncomputable def InpR (prog : Program) (w : World) (op : Operator) (a b r : PV) : Prop :=
  ∀ (A : Around) (s : Shared) (x y : Value) (Q E : Value → Shared → Prop), A.units < cLine → VR s.heap a x → VR s.heap b y → (∀ v h' tk, Sub s.heap h' → VR h' r v → Q v { s with heap := h', toks := tk }) →
    wpAny (model prog w) A (inplaceOp op x y) Q E s
noncomputable def CmpR (prog : Program) (w : World) (op : CmpOp) (a b : PV) (r : Bool) : Prop :=
  ∀ (A : Around) (s : Shared) (x y : Value) (Q E : Value → Shared → Prop), A.units < cLine → A.handled = none → VR s.heap a x → VR s.heap b y → (∀ h' tk, Sub s.heap h' → Q (.bool r) { s with heap := h', toks := tk }) →
    wpAny (model prog w) A (compareOp op x y) Q E s

theorem EvE.bin {op : Operator} {l r : Expr} {pos : Pos} {pa pb pv : PV} (ha : EvE prog w B d c σ l pa) (hb : EvE prog w B d c σ r pb) (ho : BinR prog w op pa pb pv) : EvE prog w B d c σ (.BinOp l op r pos) pv :=
  fun h0 A s Q E b ok R h => wpAny_BinOp (ha h0 A s _ E b ok R fun v1 h1 t1 s1 r1 => hb h0 A _ _ E b ok (R.sub s1) fun v2 h2 t2 s2 r2 =>
    ho A { s with heap := h2, toks := t2 } v1 v2 Q E ok.un (r1.hsub s2.hard) r2 fun v h3 t3 s3 r3 => h v h3 t3 (s1.trans (s2.trans s3)) r3)

theorem EvE.cmp {op : CmpOp} {l r : Expr} {pos : Pos} {pa pb : PV} {b : Bool} (ha : EvE prog w B d c σ l pa) (hb : EvE prog w B d c σ r pb) (ho : CmpR prog w op pa pb b) (hm : behindInMarks op r = false := by with_unfolding_all rfl) :
    EvE prog w B d c σ (.Compare l [op] [r] pos) (.bool b) :=
  fun h0 A s Q E bb ok R h => wpAny_Compare1 (ha h0 A s _ E bb ok R fun v1 h1 t1 s1 r1 => hb h0 A _ _ E bb ok (R.sub s1) fun v2 h2 t2 s2 r2 =>
    ho A { s with heap := h2, toks := t2 } v1 v2 Q E ok.un ok.1 (r1.hsub s2.hard) r2 fun h3 t3 s3 => h _ h3 t3 (s1.trans (s2.trans s3)) rfl) hm
theorem EvB.cmp {op : CmpOp} {l r : Expr} {pos : Pos} {pa pb : PV} {b : Bool} (ha : EvE prog w B d c σ l pa) (hb : EvE prog w B d c σ r pb) (ho : CmpR prog w op pa pb b) (hm : behindInMarks op r = false := by with_unfolding_all rfl) :
    EvB prog w B d c σ (.Compare l [op] [r] pos) b :=
  fun h0 A s Q E bb ok R h => wpAny_isTrue_Compare1 (ha h0 A s _ E bb ok R fun v1 h1 t1 s1 r1 => hb h0 A _ _ E bb ok (R.sub s1) fun v2 h2 t2 s2 r2 =>
    ho A { s with heap := h2, toks := t2 } v1 v2 _ E ok.un ok.1 (r1.hsub s2.hard) r2 fun h3 t3 s3 => wpAny_truthy_bool (h h3 t3 (s1.trans (s2.trans s3)))) hm

theorem BinR.add {a b : Int} : BinR prog w .Add (.int a) (.int b) (.int (a + b)) := by
  rintro A s _ _ Q E _ ⟨t, rfl⟩ ⟨u, rfl⟩ h
  exact PyProof.Rows.add_int (h _ _ _ Sub.rfl ⟨_, rfl⟩)
theorem BinR.sub {a b : Int} : BinR prog w .Sub (.int a) (.int b) (.int (a - b)) := by
  rintro A s _ _ Q E _ ⟨t, rfl⟩ ⟨u, rfl⟩ h
  exact PyProof.Rows.sub_int (h _ _ _ Sub.rfl ⟨_, rfl⟩)
theorem InpR.add {a b : Int} : InpR prog w .Add (.int a) (.int b) (.int (a + b)) := by
  rintro A s _ _ Q E _ ⟨t, rfl⟩ ⟨u, rfl⟩ h
  exact PyProof.Rows.iadd_int (h _ _ _ Sub.rfl ⟨_, rfl⟩)
theorem CmpR.lt {a b : Int} : CmpR prog w .Lt (.int a) (.int b) (decide (a < b)) := by
  rintro A s _ _ Q E _ _ ⟨t, rfl⟩ ⟨u, rfl⟩ h
  exact PyProof.Rows.lt_int (h _ _ Sub.rfl)
theorem CmpR.gt {a b : Int} : CmpR prog w .Gt (.int a) (.int b) (decide (b < a)) := by
  rintro A s _ _ Q E _ _ ⟨t, rfl⟩ ⟨u, rfl⟩ h
  exact PyProof.Rows.gt_int (h _ _ Sub.rfl)
theorem CmpR.ge {a b : Int} : CmpR prog w .GtE (.int a) (.int b) (decide (b ≤ a)) := by
  rintro A s _ _ Q E _ _ ⟨t, rfl⟩ ⟨u, rfl⟩ h
  exact PyProof.Rows.ge_int (h _ _ Sub.rfl)
theorem CmpR.eqI {a b : Int} : CmpR prog w .Eq (.int a) (.int b) (a == b) := by
  rintro A s _ _ Q E _ _ ⟨t, rfl⟩ ⟨u, rfl⟩ h
  exact PyProof.Rows.eq_int (h _ _ Sub.rfl)
theorem CmpR.neI {a b : Int} : CmpR prog w .NotEq (.int a) (.int b) (a != b) := by
  rintro A s _ _ Q E _ _ ⟨t, rfl⟩ ⟨u, rfl⟩ h
  exact PyProof.Rows.ne_int (h _ _ Sub.rfl)
theorem S_beq (a b : List Nat) : (S a == S b) = (a == b) := by
  rw [Bool.eq_iff_iff, beq_iff_eq, beq_iff_eq]
  exact ⟨fun h => by have := congrArg (fun x : Str => x.cps.toList) h; simpa using this, fun h => by rw [h]⟩
theorem CmpR.eqS {a b : List Nat} : CmpR prog w .Eq (.str a) (.str b) (a == b) := by
  rintro A s _ _ Q E _ _ ⟨t, rfl⟩ ⟨u, rfl⟩ h
  exact PyProof.Rows.eq_str (by rw [S_beq]; exact h _ _ Sub.rfl)
theorem CmpR.neS {a b : List Nat} : CmpR prog w .NotEq (.str a) (.str b) (a != b) := by
  rintro A s _ _ Q E _ _ ⟨t, rfl⟩ ⟨u, rfl⟩ h
  refine PyProof.Rows.ne_str ?_
  have : (S a != S b) = (a != b) := by rw [bne, bne, S_beq]
  rw [this]; exact h _ _ Sub.rfl

/-! truth -/
noncomputable def TruR (prog : Program) (w : World) (c : Cx) (σ : St) (pv : PV) (b : Bool) : Prop :=
  ∀ (A : Around) (s : Shared) (x : Value) (Q : Bool → Shared → Prop) (E : Value → Shared → Prop) (h0 : Heap), Rel prog w c h0 σ s.heap → VR s.heap pv x → (∀ h' tk, Sub s.heap h' → Q b { s with heap := h', toks := tk }) → wpAny (model prog w) A (truthy x) Q E s
theorem TruR.bool {b : Bool} : TruR prog w c σ (.bool b) b := by
  rintro A s _ Q E h0 _ rfl h
  exact wpAny_truthy_bool (h s.heap s.toks Sub.rfl)
theorem EvB.val {e : Expr} {pv : PV} {b : Bool} (he : EvE prog w B d c σ e pv) (ht : TruR prog w c σ pv b)
    (hw : ∀ env whole, isTrue e env whole = (do let v ← whole; standAt e.pos; holding [v] (truthy v)) := by intro _ _; rfl) : EvB prog w B d c σ e b :=
  fun h0 A s Q E bb ok R h => wpAny_isTrue_value (he h0 A s _ E bb ok R fun v h1 t1 s1 r1 => ht A { s with heap := h1, toks := t1 } v Q E h0 (R.sub s1) r1 fun h2 t2 s2 => h h2 t2 (s1.trans s2)) (hw _ _)
theorem EvB.not {e : Expr} {pos : Pos} {b : Bool} (he : EvB prog w B d c σ e b) : EvB prog w B d c σ (.UnaryOp .Not e pos) (!b) :=
  fun h0 A s Q E bb ok R h => wpAny_isTrue_Not (he h0 A s _ E bb ok R fun h1 t1 s1 => h h1 t1 s1)
theorem EvB.eq {e : Expr} {b b' : Bool} (he : EvB prog w B d c σ e b) (q : b = b') : EvB prog w B d c σ e b' := q ▸ he
theorem EvE.eq {e : Expr} {b b' : PV} (he : EvE prog w B d c σ e b) (q : b = b') : EvE prog w B d c σ e b' := q ▸ he

noncomputable def EvL (prog : Program) (w : World) (B : Heap → Prop) (d : Nat) (c : Cx) (σ : St) (op : BoolOp) (es : List Expr) (b : Bool) : Prop :=
  ∀ (h0 : Heap) (A : Around) (s : Shared) (Q : Bool → Shared → Prop) (E : Value → Shared → Prop), B h0 → OkA d A → Rel prog w c h0 σ s.heap →
    (∀ h' tk, Sub s.heap h' → Q b { s with heap := h', toks := tk }) → wpAny (model prog w) A (allTrue op es c.env) Q E s
theorem EvL.and_nil : EvL prog w B d c σ .And [] true := fun _ _ s _ _ _ _ _ h => wpAny_allTrue_And_nil (h s.heap s.toks Sub.rfl)
theorem EvL.or_nil : EvL prog w B d c σ .Or [] false := fun _ _ s _ _ _ _ _ h => wpAny_allTrue_Or_nil (h s.heap s.toks Sub.rfl)
theorem EvL.and_cons {e : Expr} {es : List Expr} {b r : Bool} (he : EvB prog w B d c σ e b) (hr : b = true → EvL prog w B d c σ .And es r) : EvL prog w B d c σ .And (e :: es) (b && r) :=
  fun h0 A s Q E bb ok R h => wpAny_allTrue_And_cons (he h0 A s _ E bb ok R fun h1 t1 s1 => by
    cases b with
    | false => exact h h1 t1 s1
    | true => exact hr rfl h0 A _ _ E bb ok (R.sub s1) fun h2 t2 s2 => h h2 t2 (s1.trans s2))
theorem EvL.or_cons {e : Expr} {es : List Expr} {b r : Bool} (he : EvB prog w B d c σ e b) (hr : b = false → EvL prog w B d c σ .Or es r) : EvL prog w B d c σ .Or (e :: es) (b || r) :=
  fun h0 A s Q E bb ok R h => wpAny_allTrue_Or_cons (he h0 A s _ E bb ok R fun h1 t1 s1 => by
    cases b with
    | true => exact h h1 t1 s1
    | false => exact hr rfl h0 A _ _ E bb ok (R.sub s1) fun h2 t2 s2 => h h2 t2 (s1.trans s2))
theorem EvB.boolop {op : BoolOp} {es : List Expr} {pos : Pos} {b : Bool} (he : EvL prog w B d c σ op es b) : EvB prog w B d c σ (.BoolOp op es pos) b :=
  fun h0 A s Q E bb ok R h => wpAny_isTrue_BoolOp (he h0 A s Q E bb ok R h)
theorem EvB.and2 {x y : Expr} {pos : Pos} {a b : Bool} (hx : EvB prog w B d c σ x a) (hy : a = true → EvB prog w B d c σ y b) : EvB prog w B d c σ (.BoolOp .And [x, y] pos) (a && b) :=
  (EvB.boolop (EvL.and_cons hx fun q => EvL.and_cons (hy q) fun _ => EvL.and_nil)).eq (by simp)
theorem EvB.or2 {x y : Expr} {pos : Pos} {a b : Bool} (hx : EvB prog w B d c σ x a) (hy : a = false → EvB prog w B d c σ y b) : EvB prog w B d c σ (.BoolOp .Or [x, y] pos) (a || b) :=
  (EvB.boolop (EvL.or_cons hx fun q => EvL.or_cons (hy q) fun _ => EvL.or_nil)).eq (by simp)

theorem EvE.ite {t x y : Expr} {pos : Pos} {b : Bool} {p q : PV} (ht : EvB prog w B d c σ t b) (hx : b = true → EvE prog w B d c σ x p) (hy : b = false → EvE prog w B d c σ y q) : EvE prog w B d c σ (.IfExp t x y pos) (if b then p else q) :=
  fun h0 A s Q E bb ok R h => wpAny_IfExp (ht h0 A s _ E bb ok R fun h1 t1 s1 => by
    cases b with
    | true => exact hx rfl h0 A _ _ E bb ok (R.sub s1) fun v h2 t2 s2 r2 => h v h2 t2 (s1.trans s2) r2
    | false => exact hy rfl h0 A _ _ E bb ok (R.sub s1) fun v h2 t2 s2 r2 => h v h2 t2 (s1.trans s2) r2)

/-! a pure value is an expression that leaves the ledger -/
theorem EvE.m {e : Expr} {pv : PV} {P : PV → Ledger → Prop} (he : EvE prog w B d c σ e pv) (h : P pv σ.mem) : EvM prog w B d c σ e P :=
  fun h0 A s Q E bb ok R k => he h0 A s Q E bb ok R fun v h' tk s' r => k pv σ.mem v h' tk h s'.hard (R.sub s') r
theorem EvM.mono {e : Expr} {P P' : PV → Ledger → Prop} (he : EvM prog w B d c σ e P) (h : ∀ pv m, P pv m → P' pv m) : EvM prog w B d c σ e P' :=
  fun h0 A s Q E bb ok R k => he h0 A s Q E bb ok R fun pv m v h' tk p => k pv m v h' tk (h pv m p)

/-! a name stored -/
theorem storeVar' {A : Around} {h0 : Heap} {s : Shared} {Q : Unit → Shared → Prop} {E : Value → Shared → Prop} {k : Nat} {x : Str} {pv : PV} {v : Value} (C : c.Ok) (hrw : c.rw = true) (R : Rel prog w c h0 σ s.heap) (hk : c.names[k]? = some x) (vr : VR s.heap pv v)
    (h : ∀ h' tk, HSub s.heap h' → Rel prog w c h0 ⟨σ.vars.set k pv, σ.mem⟩ h' → (∀ b o, b ≠ c.env.locals → (∀ y a, c.env.cells.lookup y = some a → b ≠ a) → s.heap.get? b = some o → h'.get? b = some o) → Q () { s with heap := h', toks := tk }) : wpAny (model prog w) A (storeName c.env x v) Q E s := by
  have hm : x ∈ c.names := List.mem_of_getElem? hk
  obtain ⟨m, hn⟩ := R.loc
  obtain ⟨oL, es, ep, hL, hLd, hLr⟩ := id hn
  have hne : ∀ (k' : Nat) (x' : Str), k' ≠ k → c.names[k']? = some x' → x' ≠ x := fun k' x' q e1 e2 => by
    subst e2
    obtain ⟨l1, e1⟩ := List.getElem?_eq_some_iff.mp e1
    obtain ⟨l2, e2⟩ := List.getElem?_eq_some_iff.mp hk
    exact q ((List.getElem_inj C.nd).mp (e1.trans e2.symm))
  have hcL : ∀ y a, c.env.cells.lookup y = some a → a ≠ c.env.locals := fun y a e q => by
    obtain ⟨⟨v', o, ho, hd⟩, -⟩ := R.cells y a e
    rw [q, hL] at ho; cases ho
    rw [hLd] at hd; cases hd
  have hwr := C.wr hrw x hm
  rcases C.st x hm with hl | ⟨hl | hl, a, ha⟩
  · refine wpAny_storeName_local hl hn (fun h' hn' hs => ?_) (by rw [C.kind]; rfl)
    have hs' : ∀ b o, b ≠ c.env.locals → s.heap.get? b = some o → h'.get? b = some o := fun b o q e => (hs.2 b q).trans e
    have hh : HSub s.heap h' := hsub_of_but hs' ⟨_, hL, notHard_dict hLd⟩
    refine h h' _ hh ?_ fun b o q _ e => hs' b o q e
    refine ⟨fun b o e => hs' b o (fun q => by have := R.locF; rw [← q, e] at this; cases this) (R.keep b o e), fun k' pv' e => ?_, R.mem.keep hh fun b hb o e => hs' b o (fun q => R.locN (q ▸ hb)) e, ⟨_, hn'⟩, R.locN, R.locF, fun y b e => ⟨?_, (R.cells y b e).2⟩, R.cellF⟩
    · by_cases q : k' = k
      · subst q
        simp only [List.getElem?_set_self'] at e
        cases hx : σ.vars[k']? with
        | none => rw [hx] at e; cases e
        | some _ =>
          rw [hx] at e
          have e' : pv = pv' := by simpa using e
          subst e'
          exact .inr ⟨x, v, hk, .inl ⟨hl, _, hn', by simp⟩, vr.hsub hh⟩
      · rw [List.getElem?_set_ne (Ne.symm q)] at e
        refine (R.vars k' pv' e).imp id fun ⟨x', v', hx', st, vr'⟩ => ⟨x', v', hx', ?_, vr'.hsub hh⟩
        rcases st with ⟨hk', m₂, hn₂, hm₂⟩ | ⟨hk', b, hb, ho⟩
        · refine .inl ⟨hk', _, hn', ?_⟩
          have : m₂ x' = m x' := by
            obtain ⟨o2, es2, ep2, q1, q2, q3⟩ := hn₂
            rw [hL] at q1; cases q1
            rw [hLd] at q2; cases q2
            rw [← q3.2 x', ← hLr.2 x']
          simp only [hne k' x' q hx', if_false]
          rw [← this]; exact hm₂
        · obtain ⟨o, e1, e2⟩ := ho
          exact .inr ⟨hk', b, hb, o, hs' b o (hcL x' b hb) e1, e2⟩
    · obtain ⟨⟨v', o, ho, hd⟩, -⟩ := R.cells y b e
      exact ⟨v', o, hs' b o (hcL y b e) ho, hd⟩
  · obtain ⟨⟨v0, hv0⟩, -⟩ := R.cells x a ha
    refine wpAny_storeName_cell C.kind hl ha hv0 fun h' hc' hs => ?_
    have hs' : ∀ b o, b ≠ a → s.heap.get? b = some o → h'.get? b = some o := fun b o q e => (hs.2 b q).trans e
    have hh : HSub s.heap h' := hsub_of_but hs' (let ⟨o, e, hd⟩ := hv0; ⟨o, e, notHard_cell hd⟩)
    refine h h' s.toks hh ?_ fun b o _ q e => hs' b o (q x a ha) e
    have hL' := hs' _ _ (Ne.symm (hcL x a ha)) hL
    refine ⟨fun b o e => hs' b o (fun q => by have := R.cellF hrw x a ha; rw [← q, e] at this; cases this) (R.keep b o e), fun k' pv' e => ?_, R.mem.keep hh fun b hb o e => hs' b o (fun q => (R.cells x a ha).2 (q ▸ hb)) e, ⟨m, oL, es, ep, hL', hLd, hLr⟩, R.locN, R.locF, fun y b e => ⟨?_, (R.cells y b e).2⟩, R.cellF⟩
    · by_cases q : k' = k
      · subst q
        simp only [List.getElem?_set_self'] at e
        cases hx : σ.vars[k']? with
        | none => rw [hx] at e; cases e
        | some _ =>
          rw [hx] at e
          have e' : pv = pv' := by simpa using e
          subst e'
          exact .inr ⟨x, v, hk, .inr ⟨.inl hl, a, ha, hc'⟩, vr.hsub hh⟩
      · rw [List.getElem?_set_ne (Ne.symm q)] at e
        refine (R.vars k' pv' e).imp id fun ⟨x', v', hx', st, vr'⟩ => ⟨x', v', hx', ?_, vr'.hsub hh⟩
        rcases st with ⟨hk', m₂, ⟨o2, es2, ep2, q1, q2⟩, hm₂⟩ | ⟨hk', b, hb, ho⟩
        · exact .inl ⟨hk', m₂, ⟨o2, es2, ep2, hs' _ _ (Ne.symm (hcL x a ha)) q1, q2⟩, hm₂⟩
        · obtain ⟨o, e1, e2⟩ := ho
          exact .inr ⟨hk', b, hb, o, hs' b o (fun z => C.inj x' x a (hne k' x' q hx') (z ▸ hb) ha) e1, e2⟩
    · obtain ⟨⟨v', o, ho, hd⟩, -⟩ := R.cells y b e
      by_cases z : b = a
      · subst z; exact ⟨_, hc'⟩
      · exact ⟨v', o, hs' b o z ho, hd⟩
  · exact absurd hl hwr

theorem storeVar {A : Around} {h0 : Heap} {s : Shared} {Q : Unit → Shared → Prop} {E : Value → Shared → Prop} {k : Nat} {x : Str} {pv : PV} {v : Value} (C : c.Ok) (hrw : c.rw = true) (R : Rel prog w c h0 σ s.heap) (hk : c.names[k]? = some x) (vr : VR s.heap pv v)
    (h : ∀ h' tk, HSub s.heap h' → Rel prog w c h0 ⟨σ.vars.set k pv, σ.mem⟩ h' → Q () { s with heap := h', toks := tk }) : wpAny (model prog w) A (storeName c.env x v) Q E s :=
  storeVar' C hrw R hk vr fun h' tk hh R' _ => h h' tk hh R'

/-! statements -/
theorem ExSs.nil {P : FL → St → Prop} (h : P .next σ) : ExSs prog w B d c σ [] P :=
  fun h0 A s Q E _ _ R k => wpAny_execs_nil (k .next σ .next s.heap s.toks h R trivial)
theorem ExSs.cons {t : Stmt} {ts : List Stmt} {P P1 : FL → St → Prop} (h1 : ExS prog w B d c σ t P1) (hn : ∀ σ', P1 .next σ' → ExSs prog w B d c σ' ts P) (ho : ∀ fl σ', fl ≠ .next → P1 fl σ' → P fl σ') : ExSs prog w B d c σ (t :: ts) P :=
  fun h0 A s Q E bb ok R k => wpAny_execs_cons (h1 h0 A s _ E bb ok R fun fl σ' f h' tk p R' fr => by
    cases fl with
    | next =>
      cases f with
      | next => exact hn σ' p h0 A _ Q E bb ok R' fun fl2 σ2 f2 h2 t2 p2 R2 fr2 => k fl2 σ2 f2 h2 t2 p2 R2 fr2
      | _ => exact fr.elim
    | brk => cases f with | brk => exact k .brk σ' _ h' tk (ho _ _ (by simp) p) R' fr | _ => exact fr.elim
    | cont => cases f with | cont => exact k .cont σ' _ h' tk (ho _ _ (by simp) p) R' fr | _ => exact fr.elim
    | ret v => cases f with | ret => exact k (.ret v) σ' _ h' tk (ho _ _ (by simp) p) R' fr | _ => exact fr.elim)
theorem ExSs.next {t : Stmt} {ts : List Stmt} {P : FL → St → Prop} {P1 : St → Prop} (h1 : ExS prog w B d c σ t (fun fl σ' => fl = .next ∧ P1 σ')) (hn : ∀ σ', P1 σ' → ExSs prog w B d c σ' ts P) : ExSs prog w B d c σ (t :: ts) P :=
  ExSs.cons h1 (fun σ' p => hn σ' p.2) fun _ _ q p => absurd p.1 q
theorem ExSs.mono {ts : List Stmt} {P P' : FL → St → Prop} (h : ExSs prog w B d c σ ts P) (q : ∀ fl σ', P fl σ' → P' fl σ') : ExSs prog w B d c σ ts P' :=
  fun h0 A s Q E bb ok R k => h h0 A s Q E bb ok R fun fl σ' f h' tk p => k fl σ' f h' tk (q fl σ' p)
theorem ExS.mono {ts : Stmt} {P P' : FL → St → Prop} (h : ExS prog w B d c σ ts P) (q : ∀ fl σ', P fl σ' → P' fl σ') : ExS prog w B d c σ ts P' :=
  fun h0 A s Q E bb ok R k => h h0 A s Q E bb ok R fun fl σ' f h' tk p => k fl σ' f h' tk (q fl σ' p)

/-- forget, reorder -/
theorem ExSs.less {ts : List Stmt} {P : FL → St → Prop} {σ' : St} (h : ExSs prog w B d c σ' ts P) (hs : ∀ p ∈ σ'.mem, p ∈ σ.mem) (nd : (σ.mem.map (·.1)).Nodup → (σ'.mem.map (·.1)).Nodup)
    (hv : ∀ (k : Nat) (pv : PV), σ'.vars[k]? = some pv → pv = .undef ∨ σ.vars[k]? = some pv) : ExSs prog w B d c σ ts P :=
  fun h0 A s Q E bb ok R k => h h0 A s Q E bb ok ((R.less hs (nd R.mem.nd)).vars' hv) k

theorem ExS.assign {x : Str} {p1 pos : Pos} {e : Expr} {P : FL → St → Prop} (k : Nat) (C : c.Ok) (hrw : c.rw = true) (hk : c.names[k]? = some x) (he : EvM prog w B d c σ e (fun pv m => P .next ⟨σ.vars.set k pv, m⟩))
    (hs : swapsWith e (some (.Name x p1)) pos.line c.env = pure false) : ExS prog w B d c σ (.Assign [.Name x p1] e pos) P :=
  fun h0 A s Q E bb ok R q => wpAny_Assign_Name (he h0 A s _ E bb ok R fun pv m v h1 t1 p hs1 R1 vr => storeVar C hrw R1 hk vr fun h2 t2 _ R2 => q .next _ .next h2 t2 p R2 trivial) hs
theorem ExSs.let_ {x : Str} {p1 pos : Pos} {e : Expr} {ts : List Stmt} {pv : PV} {P : FL → St → Prop} (k : Nat) (C : c.Ok) (hrw : c.rw = true) (hk : c.names[k]? = some x) (he : EvE prog w B d c σ e pv)
    (hs : swapsWith e (some (.Name x p1)) pos.line c.env = pure false) (h : ExSs prog w B d c ⟨σ.vars.set k pv, σ.mem⟩ ts P) : ExSs prog w B d c σ (.Assign [.Name x p1] e pos :: ts) P :=
  ExSs.next (P1 := fun σ' => σ' = ⟨σ.vars.set k pv, σ.mem⟩) (ExS.assign k C hrw hk (he.m ⟨rfl, rfl⟩) hs) fun _ q => q ▸ h
theorem ExSs.letM {x : Str} {p1 pos : Pos} {e : Expr} {ts : List Stmt} {P1 : PV → Ledger → Prop} {P : FL → St → Prop} (k : Nat) (C : c.Ok) (hrw : c.rw = true) (hk : c.names[k]? = some x) (he : EvM prog w B d c σ e P1)
    (hs : swapsWith e (some (.Name x p1)) pos.line c.env = pure false) (h : ∀ pv m, P1 pv m → ExSs prog w B d c ⟨σ.vars.set k pv, m⟩ ts P) : ExSs prog w B d c σ (.Assign [.Name x p1] e pos :: ts) P :=
  ExSs.next (P1 := fun σ' => ∃ pv m, P1 pv m ∧ σ' = ⟨σ.vars.set k pv, m⟩) (ExS.assign k C hrw hk (he.mono fun pv m p => ⟨rfl, pv, m, p, rfl⟩) hs) fun _ ⟨pv, m, p, q⟩ => q ▸ h pv m p

theorem ExSs.aug {x : Str} {p1 pos : Pos} {op : Operator} {e : Expr} {ts : List Stmt} {pa pb pv : PV} {P : FL → St → Prop} (k : Nat) (C : c.Ok) (hrw : c.rw = true) (hk : c.names[k]? = some x) (hv : σ.vars[k]? = some pa) (hu : pa ≠ .undef) (he : EvE prog w B d c σ e pb)
    (ho : InpR prog w op pa pb pv) (h : ExSs prog w B d c ⟨σ.vars.set k pv, σ.mem⟩ ts P) : ExSs prog w B d c σ (.AugAssign (.Name x p1) op e pos :: ts) P :=
  ExSs.next (P1 := fun σ' => σ' = ⟨σ.vars.set k pv, σ.mem⟩) (fun h0 A s Q E bb ok R q => wpAny_AugAssign_Name (loadVar C R hk hv hu fun v1 r1 => he h0 A s _ E bb ok R fun v2 h2 t2 s2 r2 =>
    ho A { s with heap := h2, toks := t2 } v1 v2 _ E ok.un (r1.hsub s2.hard) r2 fun v3 h3 t3 s3 r3 => storeVar C hrw ((R.sub s2).sub s3) hk r3 fun h4 t4 _ R4 => q .next _ .next h4 t4 ⟨rfl, rfl⟩ R4 trivial)) fun _ q => q ▸ h

theorem ExS.ite {t : Expr} {x y : List Stmt} {pos : Pos} {b : Bool} {P : FL → St → Prop} (ht : EvB prog w B d c σ t b) (hx : b = true → ExSs prog w B d c σ x P) (hy : b = false → ExSs prog w B d c σ y P) : ExS prog w B d c σ (.If t x y pos) P :=
  fun h0 A s Q E bb ok R h => wpAny_If (ht h0 A s _ E bb ok R fun h1 t1 s1 => by
    cases b with
    | true => exact hx rfl h0 A _ _ E bb ok (R.sub s1) fun fl σ' f h2 t2 p R2 fr => h fl σ' f h2 t2 p R2 fr
    | false => exact hy rfl h0 A _ _ E bb ok (R.sub s1) fun fl σ' f h2 t2 p R2 fr => h fl σ' f h2 t2 p R2 fr)
/-- both ways walked to the end -/
theorem ExSs.ite {t : Expr} {x y ts : List Stmt} {pos : Pos} {b : Bool} {P : FL → St → Prop} (ht : EvB prog w B d c σ t b)
    (hx : b = true → ExSs prog w B d c σ x (fun fl σ' => match fl with | .next => ExSs prog w B d c σ' ts P | fl => P fl σ'))
    (hy : b = false → ExSs prog w B d c σ y (fun fl σ' => match fl with | .next => ExSs prog w B d c σ' ts P | fl => P fl σ')) : ExSs prog w B d c σ (.If t x y pos :: ts) P :=
  ExSs.cons (ExS.ite ht hx hy) (fun _ p => p) fun fl _ q p => by cases fl <;> first | exact absurd rfl q | exact p
theorem ExSs.ret {e : Expr} {pos : Pos} {ts : List Stmt} {P : FL → St → Prop} {P1 : PV → Ledger → Prop} (he : EvM prog w B d c σ e P1) (h : ∀ pv m, P1 pv m → P (.ret pv) ⟨σ.vars, m⟩) : ExSs prog w B d c σ (.Return (some e) pos :: ts) P :=
  ExSs.cons (P1 := fun fl σ' => fl ≠ .next ∧ P fl σ') (fun h0 A s Q E bb ok R q => wpAny_Return_some (he h0 A s _ E bb ok R fun pv m v h1 t1 p hs1 R1 vr => q (.ret pv) _ _ h1 t1 ⟨by simp, h pv m p⟩ R1 vr)) (fun _ p => absurd rfl p.1) fun _ _ _ p => p.2
theorem ExSs.retE {e : Expr} {pos : Pos} {ts : List Stmt} {P : FL → St → Prop} {pv : PV} (he : EvE prog w B d c σ e pv) (h : P (.ret pv) σ) : ExSs prog w B d c σ (.Return (some e) pos :: ts) P :=
  ExSs.ret (he.m (P := fun p m => p = pv ∧ m = σ.mem) ⟨rfl, rfl⟩) fun _ _ q => by rw [q.1, q.2]; exact h
theorem ExSs.brk {pos : Pos} {ts : List Stmt} {P : FL → St → Prop} (h : P .brk σ) : ExSs prog w B d c σ (.Break pos :: ts) P :=
  ExSs.cons (P1 := fun fl σ' => fl ≠ .next ∧ P fl σ') (fun h0 A s Q E bb ok R q => wpAny_Break (q .brk σ .brk s.heap s.toks ⟨by simp, h⟩ R trivial)) (fun _ p => absurd rfl p.1) fun _ _ _ p => p.2
theorem ExSs.cont {pos : Pos} {ts : List Stmt} {P : FL → St → Prop} (h : P .cont σ) : ExSs prog w B d c σ (.Continue pos :: ts) P :=
  ExSs.cons (P1 := fun fl σ' => fl ≠ .next ∧ P fl σ') (fun h0 A s Q E bb ok R q => wpAny_Continue (q .cont σ .cont s.heap s.toks ⟨by simp, h⟩ R trivial)) (fun _ p => absurd rfl p.1) fun _ _ _ p => p.2
theorem ExSs.assert_ {t : Expr} {msg : Option Expr} {pos : Pos} {ts : List Stmt} {P : FL → St → Prop} (ht : EvB prog w B d c σ t true) (h : ExSs prog w B d c σ ts P) : ExSs prog w B d c σ (.Assert t msg pos :: ts) P :=
  ExSs.next (P1 := fun σ' => σ' = σ) (fun h0 A s Q E bb ok R q => wpAny_Assert_holds (ht h0 A s _ E bb ok R fun h1 t1 s1 => ⟨rfl, q .next σ .next h1 t1 ⟨rfl, rfl⟩ (R.sub s1) trivial⟩)) fun _ q => q ▸ h

/-- a while: an invariant and a measure -/
theorem ExSs.while_ {t : Expr} {body ts : List Stmt} {pos : Pos} {P : FL → St → Prop} (I : Nat → St → Prop) (n : Nat) (h0 : I n σ)
    (turn : ∀ n σ', I n σ' → ∃ b, EvB prog w B d c σ' t b ∧
      (b = true → ExSs prog w B d c σ' body (fun fl σ'' => match fl with | .next => ∃ m, m < n ∧ I m σ'' | .cont => ∃ m, m < n ∧ I m σ'' | .brk => ExSs prog w B d c σ'' ts P | .ret v => P (.ret v) σ'')) ∧
      (b = false → ExSs prog w B d c σ' ts P)) : ExSs prog w B d c σ (.While t body [] pos :: ts) P := by
  refine ExSs.cons (P1 := fun fl σ' => match fl with | .next => ExSs prog w B d c σ' ts P | .ret v => P (.ret v) σ' | _ => False) ?_ (fun _ p => p) fun fl _ q p => by cases fl <;> first | exact absurd rfl q | exact p | exact p.elim
  intro g A s Q E bb ok R q
  refine wpAny_While (codeAny_whileLoop (fun n s' => ∃ σ' h' tk, s' = { s with heap := h', toks := tk } ∧ I n σ' ∧ Rel prog w c g σ' h') ?_ n ⟨σ, s.heap, s.toks, rfl, h0, R⟩)
  rintro n _ ⟨σ', h', tk, rfl, hI, R'⟩
  obtain ⟨b, hb, hT, hF⟩ := turn n σ' hI
  refine hb g A _ _ _ bb ok R' fun h1 t1 s1 => ?_
  cases b with
  | true =>
    refine hT rfl g A _ _ _ bb ok (R'.sub s1) fun fl σ2 f h2 t2 p2 R2 fr2 => ?_
    cases fl with
    | next => cases f with | next => exact let ⟨m, l, i⟩ := p2; ⟨m, l, σ2, h2, t2, rfl, i, R2⟩ | _ => exact fr2.elim
    | cont => cases f with | cont => exact let ⟨m, l, i⟩ := p2; ⟨m, l, σ2, h2, t2, rfl, i, R2⟩ | _ => exact fr2.elim
    | brk => cases f with | brk => exact q .next σ2 .next h2 t2 p2 R2 trivial | _ => exact fr2.elim
    | ret v => cases f with | ret v' => exact q (.ret v) σ2 (.ret v') h2 t2 p2 R2 fr2 | _ => exact fr2.elim
  | false => exact wpAny_execs_nil (q .next σ' .next h1 t1 (hF rfl) (R'.sub s1) trivial)
end
end Mine

/-! ## W3 -/
namespace Mine
/-! slices -/
noncomputable def clipN (n d : Nat) : Option Int → Nat
  | none => d
  | some i => (max 0 (min (if i < 0 then i + n else i) (n : Int))).toNat
noncomputable def pySl {α : Type} (l : List α) (lo hi : Option Int) : List α := (l.drop (clipN l.length 0 lo)).take (clipN l.length l.length hi - clipN l.length 0 lo)

theorem clipN_le (n d : Nat) (hd : d ≤ n) (o : Option Int) : clipN n d o ≤ n := by
  cases o with
  | none => exact hd
  | some i => unfold clipN; split <;> lia

theorem sliceRange_one (a b : Nat) : sliceRange (a : Int) (b : Int) 1 = (List.range (b - a)).map (fun k => a + k) := by
  unfold sliceRange
  simp only [show ((1 : Int) > 0) = True from by simp, if_true]
  by_cases hlt : (a : Int) < b
  · have e3 : (((b : Int) - a + 1 - 1) / 1).toNat = b - a := by lia
    simp only [hlt, if_true, e3]
    refine List.map_congr_left fun k _ => ?_
    lia
  · have : b - a = 0 := by lia
    simp [hlt, this]

theorem clip_int (n d : Nat) (o : Option Int) : ((clipN n d o : Nat) : Int) = match o with | none => (d : Int) | some i => max 0 (min (if i < 0 then i + n else i) (n : Int)) := by
  cases o with
  | none => rfl
  | some i => unfold clipN; simp only; lia

theorem strIdx_eq (lo hi : Option Int) (n : Nat) : Builtin.Str.strSliceIndices lo hi 1 n = (List.range (clipN n n hi - clipN n 0 lo)).map (fun k => clipN n 0 lo + k) := by
  rw [← sliceRange_one, clip_int, clip_int]
  cases lo <;> cases hi <;> rfl

theorem picked {α : Type} (l : List α) (lo hi : Option Int) : ((List.range (clipN l.length l.length hi - clipN l.length 0 lo)).map (fun k => clipN l.length 0 lo + k)).filterMap (l[·]?) = pySl l lo hi := by
  have h1 := clipN_le l.length l.length (Nat.le_refl _) hi
  have h2 := clipN_le l.length 0 (Nat.zero_le _) lo
  unfold pySl
  generalize clipN l.length l.length hi = b at *
  generalize clipN l.length 0 lo = a at *
  exact StrLaws.picks l (b - a) a (by lia)

theorem pySl_length_le {α : Type} (l : List α) (lo hi : Option Int) : (pySl l lo hi).length ≤ l.length := by
  unfold pySl; simp; lia

theorem pySl_whole {α : Type} (l : List α) (lo hi : Option Int) (h : (pySl l lo hi).length = l.length) : pySl l lo hi = l := by
  have h1 := clipN_le l.length l.length (Nat.le_refl _) hi
  have h2 := clipN_le l.length 0 (Nat.zero_le _) lo
  unfold pySl at *
  generalize clipN l.length l.length hi = b at *
  generalize clipN l.length 0 lo = a at *
  simp only [List.length_take, List.length_drop] at h
  by_cases hl : l.length = 0
  · have := List.eq_nil_of_length_eq_zero hl; subst this; simp
  · have ha : a = 0 := by lia
    subst ha
    rw [List.drop_zero, List.take_of_length_le (by lia)]

theorem slicePicked_eq (xs : List Nat) (l u : Option (Int × Tok)) : (slicePicked (S xs) l u none).filterMap ((S xs).cps[·]?) = pySl xs (l.map (·.1)) (u.map (·.1)) := by
  unfold slicePicked
  show (Builtin.Str.strSliceIndices _ _ 1 xs.toArray.size).filterMap (xs.toArray[·]?) = _
  rw [strIdx_eq]
  simp only [List.size_toArray, List.getElem?_toArray]
  exact picked xs _ _

theorem slicePicked_len (xs : List Nat) (l u : Option (Int × Tok)) : (slicePicked (S xs) l u none).length = (pySl xs (l.map (·.1)) (u.map (·.1))).length := by
  unfold slicePicked
  show (Builtin.Str.strSliceIndices _ _ 1 xs.toArray.size).length = _
  rw [strIdx_eq]
  have h1 := clipN_le xs.length xs.length (Nat.le_refl _) (u.map (·.1))
  have h2 := clipN_le xs.length 0 (Nat.zero_le _) (l.map (·.1))
  unfold pySl
  simp only [List.size_toArray, List.length_map, List.length_range, List.length_take, List.length_drop]
  lia

theorem slice_post {s : Shared} {xs : List Nat} {t : Tok} {l u : Option (Int × Tok)} {Q : Value → Shared → Prop} (hsz : xs.length ≤ 16777216)
    (h : ∀ t' k, Q (.str (S (pySl xs (l.map (·.1)) (u.map (·.1)))) t') { s with toks := k }) : (sliceMade (S xs) t l u none).post Q s := by
  unfold sliceMade
  rw [slicePicked_eq]
  refine post_val_or_made (fun _ => ?_) fun t' k => ?_
  · show (pySl xs _ _).toArray.size ≤ 2 ^ 24
    have := pySl_length_le xs (l.map (·.1)) (u.map (·.1))
    simp only [List.size_toArray]; lia
  · split
    · rename_i hc
      have h2 := hc
      simp only [Option.map_none, Option.getD_none, beq_self_eq_true, Bool.true_and, beq_iff_eq] at h2
      rw [slicePicked_len] at h2
      have e := pySl_whole xs _ _ (by simpa [Str.length] using h2)
      have := h t' k
      rw [e] at this
      exact this
    · exact h t' k

section
variable {prog : Program} {w : World} {B : Heap → Prop} {d : Nat} {c : Cx} {σ : St}

theorem MR.isList {h : Heap} {a : Addr} {xs : List PV} (x : MR prog w h a (.lst xs)) : ∃ vs : List Value, h.IsList a vs.toArray ∧ VRs h xs vs := by
  obtain ⟨vs, n, e, r⟩ := x
  exact ⟨vs.toList, by rw [Array.toArray_toList]; exact ⟨_, e, rfl, n, rfl⟩, r⟩
theorem Rel.lst {h0 h : Heap} {a : Addr} {xs : List PV} (R : Rel prog w c h0 σ h) (hm : (a, MO.lst xs) ∈ σ.mem) : ∃ vs : List Value, h.IsList a vs.toArray ∧ VRs h xs vs := (R.mem.at_ _ hm).1.isList

/-! parts of lists and texts -/
theorem EvE.idx {value slice : Expr} {pos : Pos} {a : Addr} {xs : List PV} {i : Int} {pv : PV} (ha : EvE prog w B d c σ value (.ref a)) (hm : (a, MO.lst xs) ∈ σ.mem) (hi : EvE prog w B d c σ slice (.int i)) (h0 : 0 ≤ i) (hlt : i < 4611686018427387904)
    (hx : xs[i.toNat]? = some pv) (hs : ∀ o i, subscripted slice false o i = operate [o, i] (getItem o i) := by intro _ _; with_unfolding_all rfl) : EvE prog w B d c σ (.Subscript value slice pos) pv :=
  fun g A s Q E b ok R h => Subscript_ (ha g A s _ E b ok R fun v1 h1 t1 s1 r1 => hi g A _ _ E b ok (R.sub s1) fun v2 h2 t2 s2 r2 => by
    obtain rfl : v1 = .ref a := r1
    obtain ⟨t, rfl⟩ := r2
    obtain ⟨vs, hl, hv⟩ := ((R.sub s1).sub s2).lst hm
    obtain ⟨v, e, r⟩ := hv.get hx
    exact tail_any (Heap.IsList.typeIs (s := { s with heap := h2, toks := t2 }) hl) slot_list_getitem.lookup (wpAny_getItem_list hl h0 (by lia) (by simpa using e) (h v h2 t2 (s1.trans s2) r)) (hs _ _))
theorem EvE.idxNeg {value slice : Expr} {pos : Pos} {a : Addr} {xs : List PV} {i : Int} {pv : PV} (ha : EvE prog w B d c σ value (.ref a)) (hm : (a, MO.lst xs) ∈ σ.mem) (hi : EvE prog w B d c σ slice (.int i)) (h0 : i < 0) (h1 : -(xs.length : Int) ≤ i) (hlt : -4611686018427387904 < i)
    (hx : xs[(i + xs.length).toNat]? = some pv) (hs : ∀ o i, subscripted slice false o i = operate [o, i] (getItem o i) := by intro _ _; with_unfolding_all rfl) : EvE prog w B d c σ (.Subscript value slice pos) pv :=
  fun g A s Q E b ok R h => Subscript_ (ha g A s _ E b ok R fun v1 h1 t1 s1 r1 => hi g A _ _ E b ok (R.sub s1) fun v2 h2 t2 s2 r2 => by
    obtain rfl : v1 = .ref a := r1
    obtain ⟨t, rfl⟩ := r2
    obtain ⟨vs, hl, hv⟩ := ((R.sub s1).sub s2).lst hm
    have hlen := hv.length
    obtain ⟨v, e, r⟩ := hv.get hx
    exact tail_any (Heap.IsList.typeIs (s := { s with heap := h2, toks := t2 }) hl) slot_list_getitem.lookup (wpAny_getItem_list_neg hl h0 (by simp only [List.size_toArray]; lia) (by lia) (by simp only [List.size_toArray, hlen]; simpa using e) (h v h2 t2 (s1.trans s2) r)) (hs _ _))
theorem EvE.idxS {value slice : Expr} {pos : Pos} {xs : List Nat} {i : Int} {ch : Nat} (ha : EvE prog w B d c σ value (.str xs)) (hi : EvE prog w B d c σ slice (.int i)) (h0 : 0 ≤ i) (hlt : i < 4611686018427387904)
    (hx : xs[i.toNat]? = some ch) (hs : ∀ o i, subscripted slice false o i = operate [o, i] (getItem o i) := by intro _ _; with_unfolding_all rfl) : EvE prog w B d c σ (.Subscript value slice pos) (.str [ch]) :=
  fun g A s Q E b ok R h => Subscript_ (ha g A s _ E b ok R fun v1 h1 t1 s1 r1 => hi g A _ _ E b ok (R.sub s1) fun v2 h2 t2 s2 r2 => by
    obtain ⟨u, rfl⟩ := r1
    obtain ⟨t, rfl⟩ := r2
    refine tail_any (typeIs_str _ _ _) F.slot_str_getitem.lookup (PyProof.Rows.getItem_str (c := ch) (by simp; lia) (StrLaws.at_nonneg h0 (by simpa using hx)) (h _ h2 (t2 + 1) (s1.trans s2) ⟨_, rfl⟩)) (hs _ _))

noncomputable def EvP (prog : Program) (w : World) (B : Heap → Prop) (d : Nat) (c : Cx) (σ : St) (e : Option Expr) (o : Option Int) : Prop :=
  match e, o with
  | none, none => True
  | some e, some i => EvE prog w B d c σ e (.int i)
  | _, _ => False
theorem EvP.s {e : Expr} {i : Int} (h : EvE prog w B d c σ e (.int i)) : EvP prog w B d c σ (some e) (some i) := h
theorem EvP.n : EvP prog w B d c σ none none := trivial
theorem evPart {e : Option Expr} {o : Option Int} (he : EvP prog w B d c σ e o) (g : Heap) (A : Around) (s : Shared) (Q : Value → Shared → Prop) (E : Value → Shared → Prop) (b : B g) (ok : OkA d A) (R : Rel prog w c g σ s.heap)
    (h : ∀ (p : Option (Int × Tok)) h' tk, Sub s.heap h' → p.map (·.1) = o → Q (partValue p) { s with heap := h', toks := tk }) : wpAny (model prog w) A (evalPart e c.env) Q E s := by
  cases e with
  | none =>
    cases o with
    | none => exact wpAny_evalPart_none (h none s.heap s.toks Sub.rfl rfl)
    | some _ => exact he.elim
  | some e =>
    cases o with
    | none => exact he.elim
    | some i =>
      refine wpAny_evalPart_some (EvE.eq he rfl g A s Q E b ok R fun v h1 t1 s1 r1 => ?_)
      obtain ⟨t, rfl⟩ := r1
      exact h (some (i, t)) h1 t1 s1 rfl
theorem EvE.slice {value : Expr} {lo hi : Option Expr} {p pos : Pos} {xs : List Nat} {l u : Option Int} (ha : EvE prog w B d c σ value (.str xs)) (hl : EvP prog w B d c σ lo l) (hu : EvP prog w B d c σ hi u) (hsz : xs.length ≤ 16777216)
    (ht : ∀ (o r : Value), letTemporaryGo value o r = pure () := by intro _ _; rfl) :
    EvE prog w B d c σ (.Subscript value (.Slice lo hi none p) pos) (.str (pySl xs l u)) :=
  fun g A s Q E b ok R h => wpAny_Subscript_str_slice (ha g A s _ E b ok R fun v1 h1 t1 s1 r1 => evPart hl g A _ _ E b ok (R.sub s1) fun p1 h2 t2 s2 e2 => evPart hu g A _ _ E b ok ((R.sub s1).sub s2) fun p2 h3 t3 s3 e3 => by
    obtain ⟨t, rfl⟩ := r1
    refine ⟨S xs, t, p1, p2, rfl, rfl, rfl, slice_post hsz fun t' k => ?_⟩
    rw [e2, e3]
    exact h _ _ k ((s1.trans s2).trans (s3.trans (Sub.push _ _))) ⟨_, rfl⟩) ht

/-! texts glued -/
theorem S_append (a b : List Nat) : S a ++ S b = S (a ++ b) := by
  show (⟨a.toArray ++ b.toArray⟩ : Str) = ⟨(a ++ b).toArray⟩
  simp
theorem S_length (a : List Nat) : (S a).length = a.length := by simp [Str.length]
theorem BinR.addS {a b : List Nat} (h : a.length + b.length ≤ 16777216) : BinR prog w .Add (.str a) (.str b) (.str (a ++ b)) := by
  rintro A s _ _ Q E _ ⟨t, rfl⟩ ⟨u, rfl⟩ k
  refine PyProof.Rows.add_str (fun t' tk => ?_) (by rw [S_length, S_length]; exact h)
  rw [S_append]
  exact k _ s.heap tk Sub.rfl ⟨_, rfl⟩
theorem InpR.addS {a b : List Nat} (h : a.length + b.length ≤ 16777216) : InpR prog w .Add (.str a) (.str b) (.str (a ++ b)) := by
  rintro A s _ _ Q E _ ⟨t, rfl⟩ ⟨u, rfl⟩ k
  refine PyProof.Rows.iadd_str (fun t' tk => ?_) (by rw [S_length, S_length]; exact h)
  rw [S_append]
  exact k _ s.heap tk Sub.rfl ⟨_, rfl⟩

/-- the parts of an f-string -/
noncomputable def EvJ (prog : Program) (w : World) (B : Heap → Prop) (d : Nat) (c : Cx) (σ : St) : List Expr → List (List Nat) → Prop
  | [], [] => True
  | e :: es, x :: xs => EvE prog w B d c σ e (.str x) ∧ EvJ prog w B d c σ es xs
  | _, _ => False
theorem joins {es : List Expr} : ∀ {xs : List (List Nat)}, EvJ prog w B d c σ es xs → ∀ (acc : List Nat), acc.length + xs.flatten.length ≤ 16777216 → ∀ (g : Heap) (A : Around) (s : Shared) (Q : Str → Shared → Prop) (E : Value → Shared → Prop), B g → OkA d A → Rel prog w c g σ s.heap →
    (∀ h' tk, Sub s.heap h' → Q (S (acc ++ xs.flatten)) { s with heap := h', toks := tk }) → Joins (model prog w) A E (evalEach es c.env) (S acc) Q s := by
  induction es with
  | nil =>
    intro xs he acc _ g A s Q E _ _ _ h
    cases xs with
    | nil =>
      have := h s.heap s.toks Sub.rfl
      rw [List.flatten_nil, List.append_nil] at this
      exact this
    | cons _ _ => exact he.elim
  | cons e es ih =>
    intro xs he acc hl g A s Q E b ok R h
    cases xs with
    | nil => exact he.elim
    | cons x xs =>
      refine he.1 g A s _ E b ok R fun v h1 t1 s1 r1 => ?_
      obtain ⟨t, rfl⟩ := r1
      simp only [List.flatten_cons, List.length_append] at hl
      refine ⟨S x, t, rfl, by rw [S_append, S_length, List.length_append]; show _ ≤ 2 ^ 24; lia, ?_⟩
      rw [S_append]
      refine ih he.2 (acc ++ x) (by rw [List.length_append]; lia) g A _ Q E b ok (R.sub s1) fun h2 t2 s2 => ?_
      have := h h2 t2 (s1.trans s2)
      simpa [List.flatten_cons, List.append_assoc] using this
theorem EvE.fstr {e1 e2 : Expr} {es : List Expr} {pos : Pos} {xs : List (List Nat)} (he : EvJ prog w B d c σ (e1 :: e2 :: es) xs) (hl : xs.flatten.length ≤ 16777216) : EvE prog w B d c σ (.JoinedStr (e1 :: e2 :: es) pos) (.str xs.flatten) :=
  fun g A s Q E b ok R h => wpAny_JoinedStr (joins he [] (by simpa using hl) g A s _ E b ok R fun h1 t1 s1 => by
    rw [List.nil_append]
    exact ⟨by rw [S_length]; exact hl, h _ h1 (t1 + 1) s1 ⟨t1, rfl⟩⟩)
theorem EvE.fval {e : Expr} {pos : Pos} {x : List Nat} (he : EvE prog w B d c σ e (.str x)) (hl : x.length ≤ 16777216) : EvE prog w B d c σ (.FormattedValue e (-1) none pos) (.str x) :=
  fun g A s Q E b ok R h => wpAny_FormattedValue_plain (he g A s _ E b ok R fun v h1 t1 s1 r1 => by
    obtain ⟨t, rfl⟩ := r1
    exact wpAny_formatField_str (h _ h1 t1 s1 ⟨_, rfl⟩) (h _ h1 (t1 + 1) s1 ⟨_, rfl⟩) (by rw [S_length]; exact hl))

/-! truth -/
theorem TruR.str {x : List Nat} (hl : x.length ≤ 16777216) : TruR prog w c σ (.str x) (!x.isEmpty) := by
  rintro A s _ Q E h0 _ ⟨t, rfl⟩ h
  refine P.truthy_str (by rw [S_length]; lia) ?_
  have : (((S x).length : Int) != 0) = !x.isEmpty := by
    rw [S_length]; cases x with
    | nil => rfl
    | cons _ _ => simp; lia
  rw [this]
  exact h s.heap _ Sub.rfl
theorem TruR.lst {a : Addr} {xs : List PV} (hm : (a, MO.lst xs) ∈ σ.mem) (hl : xs.length ≤ 16777216) : TruR prog w c σ (.ref a) (!xs.isEmpty) := by
  rintro A s _ Q E h0 R rfl h
  obtain ⟨vs, hv, r⟩ := R.lst hm
  have hlen := r.length
  refine wpAny_truthy_list hv (by simp; lia) ?_
  have : vs.toArray.isEmpty = xs.isEmpty := by
    cases xs <;> cases vs <;> simp_all
  rw [this]
  exact h s.heap _ Sub.rfl
end
end Mine

/-! ## W4 -/
namespace Mine
/-! one entry changed -/
inductive Put (a : Addr) (mo mo' : MO) : Ledger → Ledger → Prop
  | head {m : Ledger} : Put a mo mo' ((a, mo) :: m) ((a, mo') :: m)
  | tail {p : Addr × MO} {m m' : Ledger} : Put a mo mo' m m' → Put a mo mo' (p :: m) (p :: m')
theorem Put.mem {a : Addr} {mo mo' : MO} {m m' : Ledger} (p : Put a mo mo' m m') : (a, mo) ∈ m := by
  induction p with
  | head => exact .head _
  | tail _ ih => exact .tail _ ih
theorem Put.fst {a : Addr} {mo mo' : MO} {m m' : Ledger} (p : Put a mo mo' m m') : m'.map (·.1) = m.map (·.1) := by
  induction p with
  | head => rfl
  | tail _ ih => simp [ih]
theorem Put.other {a : Addr} {mo mo' : MO} {m m' : Ledger} (p : Put a mo mo' m m') (nd : (m.map (·.1)).Nodup) : ∀ q ∈ m', q = (a, mo') ∨ (q ∈ m ∧ q.1 ≠ a) := by
  induction p with
  | head =>
    rename_i m
    intro q hq
    simp only [List.map_cons, List.nodup_cons] at nd
    rcases List.mem_cons.mp hq with e | e
    · exact .inl e
    · exact .inr ⟨.tail _ e, fun z => nd.1 (z ▸ List.mem_map_of_mem e)⟩
  | tail h ih =>
    rename_i p m m'
    intro q hq
    simp only [List.map_cons, List.nodup_cons] at nd
    rcases List.mem_cons.mp hq with e | e
    · subst e
      exact .inr ⟨.head _, fun z => nd.1 (z ▸ List.mem_map_of_mem h.mem)⟩
    · rcases ih nd.2 q e with e | ⟨e1, e2⟩
      · exact .inl e
      · exact .inr ⟨.tail _ e1, e2⟩
theorem Put.app {a : Addr} {mo mo' : MO} {m m' : Ledger} (p : Put a mo mo' m m') : ∀ (l : Ledger), Put a mo mo' (l ++ m) (l ++ m')
  | [] => p
  | _ :: l => .tail (p.app l)

section
variable {prog : Program} {w : World} {B : Heap → Prop} {d : Nat} {c : Cx} {σ : St}

/-- the object at a changed, all else as it was -/
theorem Rel.put {h0 h h' : Heap} {a : Addr} {mo mo' : MO} {m' : Ledger} (R : Rel prog w c h0 σ h) (p : Put a mo mo' σ.mem m') (k : ∀ b o, b ≠ a → h.get? b = some o → h'.get? b = some o) (x : HSub h h' → MR prog w h' a mo') :
    HSub h h' ∧ Rel prog w c h0 ⟨σ.vars, m'⟩ h' := by
  have hm := R.mem.at_ _ p.mem
  have hh : HSub h h' := hsub_of_but k hm.1.soft
  refine ⟨hh, R.change hh (fun b o e => k b o (fun q => by have := hm.2; rw [← q, e] at this; cases this) (R.keep b o e)) (fun o e => k _ o (fun q => R.locN (q ▸ List.mem_map_of_mem p.mem)) e)
    (fun y b hb o e => k _ o (fun q => (R.cells y b hb).2 (q ▸ List.mem_map_of_mem p.mem)) e) ⟨fun q hq => ?_, by rw [p.fst]; exact R.mem.nd⟩ (by rw [p.fst]; exact R.locN) fun y b hb => by rw [p.fst]; exact (R.cells y b hb).2⟩
  rcases p.other R.mem.nd q hq with rfl | ⟨e1, e2⟩
  · exact ⟨x hh, hm.2⟩
  · exact ⟨(R.mem.at_ q e1).1.keep hh fun o e => k _ o e2 e, (R.mem.at_ q e1).2⟩

/-- a new object laid -/
theorem Rel.new {h0 h : Heap} {o : Obj} {mo : MO} (R : Rel prog w c h0 σ h) (x : MR prog w (h.push o) h.objs.size mo) : Rel prog w c h0 ⟨σ.vars, (h.objs.size, mo) :: σ.mem⟩ (h.push o) := by
  have s := Sub.push h o
  have lt : ∀ a o', h.get? a = some o' → a ≠ h.objs.size := fun a o' e => Nat.ne_of_lt (Heap.lt_size e)
  have nin : h.objs.size ∉ σ.mem.map (·.1) := fun q => by
    obtain ⟨p, hp, e⟩ := List.mem_map.mp q
    obtain ⟨o', e', -⟩ := (R.mem.at_ p hp).1.soft
    exact lt _ _ e' e
  refine R.change s.hard (R.keep.trans s) (fun _ e => s _ _ e) (fun _ _ _ _ e => s _ _ e) ⟨fun p hp => ?_, ?_⟩ ?_ ?_
  · rcases List.mem_cons.mp hp with rfl | hp
    · refine ⟨x, ?_⟩
      cases q : h0.get? h.objs.size with
      | none => rfl
      | some o' => exact absurd (Heap.lt_size (R.keep _ _ q)) (Nat.lt_irrefl _)
    · exact ⟨(R.mem.at_ p hp).1.keep s.hard fun _ e => s _ _ e, (R.mem.at_ p hp).2⟩
  · exact List.nodup_cons.mpr ⟨nin, R.mem.nd⟩
  · intro q
    rcases List.mem_cons.mp q with e | e
    · obtain ⟨m, o', _, _, e', _⟩ := R.loc
      exact lt _ _ e' e
    · exact R.locN e
  · intro y b hb q
    rcases List.mem_cons.mp q with e | e
    · obtain ⟨⟨v, o', e', _⟩, -⟩ := R.cells y b hb
      exact lt _ _ e' e
    · exact (R.cells y b hb).2 e

/-! several expressions -/
noncomputable def EvMs (prog : Program) (w : World) (B : Heap → Prop) (d : Nat) (c : Cx) (σ : St) (es : List Expr) (P : List PV → Ledger → Prop) : Prop :=
  ∀ (h0 : Heap) (A : Around) (s : Shared) (pos : Pos) (Q : List Value → Shared → Prop) (E : Value → Shared → Prop), B h0 → OkA d A → Rel prog w c h0 σ s.heap →
    (∀ pvs m' vs h' tk, P pvs m' → HSub s.heap h' → Rel prog w c h0 ⟨σ.vars, m'⟩ h' → VRs h' pvs vs → Q vs { s with heap := h', toks := tk }) → wpAny (model prog w) A (spliced (backTo pos (starEach es c.env))) Q E s
theorem EvMs.nil {P : List PV → Ledger → Prop} (h : P [] σ.mem) : EvMs prog w B d c σ [] P :=
  fun h0 A s pos Q E _ _ R k => wpAny_items_nil (k [] σ.mem [] s.heap s.toks h HSub.rfl R trivial)
theorem EvMs.cons {e : Expr} {es : List Expr} {P : List PV → Ledger → Prop} {P1 : PV → Ledger → Prop} (he : EvM prog w B d c σ e P1) (hr : ∀ pv m, P1 pv m → EvMs prog w B d c ⟨σ.vars, m⟩ es (fun pvs m' => P (pv :: pvs) m'))
    (hs : ∀ env, starEach (e :: es) env = (false, eval e env) :: starEach es env := by intro _; rfl) : EvMs prog w B d c σ (e :: es) P :=
  fun h0 A s pos Q E b ok R k => wpAny_items_cons (he h0 A s _ E b ok R fun pv m v h1 t1 p hs1 R1 vr => hr pv m p h0 A _ pos _ E b ok R1 fun pvs m' vs h2 t2 p2 hs2 R2 vrs =>
    k (pv :: pvs) m' (v :: vs) h2 t2 p2 (hs1.trans hs2) R2 ⟨vr.hsub hs2, vrs⟩) (hs _)
/-- a pure one ahead -/
theorem EvMs.consE {e : Expr} {es : List Expr} {P : List PV → Ledger → Prop} {pv : PV} (he : EvE prog w B d c σ e pv) (hr : EvMs prog w B d c σ es (fun pvs m' => P (pv :: pvs) m'))
    (hs : ∀ env, starEach (e :: es) env = (false, eval e env) :: starEach es env := by intro _; rfl) : EvMs prog w B d c σ (e :: es) P :=
  EvMs.cons (P1 := fun p m => p = pv ∧ m = σ.mem) (he.m ⟨rfl, rfl⟩) (fun _ _ q => by rw [q.1, q.2]; exact hr) hs
theorem EvMs.mono {es : List Expr} {P P' : List PV → Ledger → Prop} (he : EvMs prog w B d c σ es P) (h : ∀ pv m, P pv m → P' pv m) : EvMs prog w B d c σ es P' :=
  fun h0 A s pos Q E bb ok R k => he h0 A s pos Q E bb ok R fun pv m v h' tk p => k pv m v h' tk (h pv m p)

/-- a list display -/
theorem EvM.list {es : List Expr} {pos : Pos} {Pa : List PV → Ledger → Prop} {P : PV → Ledger → Prop} (he : EvMs prog w B d c σ es Pa) (hl : ∀ pvs m, Pa pvs m → pvs.length ≤ 16777216)
    (h : ∀ pvs m a, Pa pvs m → P (.ref a) ((a, .lst pvs) :: m)) : EvM prog w B d c σ (.List es pos) P :=
  fun h0 A s Q E b ok R k => wpAny_List (he h0 A s pos _ E b ok R fun pvs m vs h1 t1 p hs1 R1 vrs => by
    have hl' := hl pvs m p
    have hlen := vrs.length
    refine ⟨by show _ ≤ 2 ^ 24; lia, ?_⟩
    refine k (.ref h1.objs.size) _ _ _ t1 (h pvs m h1.objs.size p) (hs1.trans (Sub.push _ _).hard) (R1.new (mo := .lst pvs) ⟨vs.toArray, 0, Heap.get?_push_size _ rfl, ?_⟩) rfl
    simpa using vrs.hsub (Sub.push h1 _).hard)
theorem EvM.nilList {pos : Pos} {P : PV → Ledger → Prop} (h : ∀ a, P (.ref a) ((a, .lst []) :: σ.mem)) : EvM prog w B d c σ (.List [] pos) P :=
  EvM.list (Pa := fun pvs m => pvs = [] ∧ m = σ.mem) (EvMs.nil ⟨rfl, rfl⟩) (fun _ _ q => by rw [q.1]; simp) fun _ _ a q => by rw [q.1, q.2]; exact h a
/-- a tuple of three ints -/
theorem EvE.tup3 {e1 e2 e3 : Expr} {k : Nat} {pos : Pos} {a b e : Int} (h1 : EvE prog w B d c σ e1 (.int a)) (h2 : EvE prog w B d c σ e2 (.int b)) (h3 : EvE prog w B d c σ e3 (.int e))
    (hs1 : ∀ env, starEach [e1, e2, e3] env = [(false, eval e1 env), (false, eval e2 env), (false, eval e3 env)] := by intro _; rfl) : EvE prog w B d c σ (.Tuple [e1, e2, e3] k pos) (.t3 a b e) :=
  fun h0 A s Q E bb ok R q => wpAny_Tuple (by
    rw [hs1]
    refine Calls.spliced_cons (h1 h0 A s _ E bb ok R fun v1 g1 t1 s1 r1 => ?_)
    refine Calls.spliced_cons (h2 h0 A _ _ E bb ok (R.sub s1) fun v2 g2 t2 s2 r2 => ?_)
    refine Calls.spliced_cons (h3 h0 A _ _ E bb ok ((R.sub s1).sub s2) fun v3 g3 t3 s3 r3 => ?_)
    refine Calls.spliced_nil ⟨by show 3 ≤ 2 ^ 24; decide, ?_⟩
    obtain ⟨x1, rfl⟩ := r1; obtain ⟨x2, rfl⟩ := r2; obtain ⟨x3, rfl⟩ := r3
    exact q _ _ t3 (((s1.trans s2).trans s3).trans (Sub.push _ _)) ⟨_, x1, x2, x3, 0, rfl, Heap.get?_push_size _ rfl⟩)

/-! list stores -/
theorem MR.push {h h' : Heap} {a : Addr} {vs : Array Value} {n' : Nat} {xs : List PV} {pv : PV} {v : Value} (e : h'.get? a = some (listO (vs.push v) n')) (r : VRs h xs vs.toList) (x : VR h pv v) (s : HSub h h') : MR prog w h' a (.lst (xs ++ [pv])) :=
  ⟨vs.push v, n', e, by rw [Array.toList_push]; exact (r.hsub s).append (VRs.one (x.hsub s))⟩

theorem callAppend {A : Around} {h0 : Heap} {s : Shared} {a : Addr} {xs : List PV} {pv : PV} {v : Value} {m' : Ledger} {Q E : Value → Shared → Prop} (R : Rel prog w c h0 σ s.heap) (p : Put a (.lst xs) (.lst (xs ++ [pv])) σ.mem m') (hv : VR s.heap pv v) (hl : xs.length < 16777216)
    (k : ∀ h' tk, HSub s.heap h' → Rel prog w c h0 ⟨σ.vars, m'⟩ h' → Q .none { s with heap := h', toks := tk }) : wpAny (model prog w) A (call (.builtin "list.append") [.ref a, v]) Q E s := by
  obtain ⟨vs, n, e, r⟩ := (R.mem.at_ _ p.mem).1
  have hlen := r.length
  refine append_at e (fun h' hs e' => ?_) (by show vs.size ≤ 2 ^ 24; simp at hlen; lia)
  obtain ⟨hh, R'⟩ := R.put p (fun b o q e => (hs.2 b q).trans e) (fun hh => MR.push e' r hv hh)
  exact k h' s.toks hh R'

theorem ExSs.append {o e : Expr} {ap p1 p2 : Pos} {a : Addr} {xs : List PV} {pv : PV} {m' : Ledger} {ts : List Stmt} {P : FL → St → Prop} (ho : EvE prog w B d c σ o (.ref a)) (he : EvE prog w B d c σ e pv) (p : Put a (.lst xs) (.lst (xs ++ [pv])) σ.mem m') (hl : xs.length < 16777216)
    (h : ExSs prog w B d c ⟨σ.vars, m'⟩ ts P)
    (hb : attributeBase o (Str.ofString "append") c.env (eval o c.env) = eval o c.env := by rfl) (hp : (Pos.endLine ap == Pos.line p1) = true := by rfl) (hi : interactive c.env = false := by first | rfl | (apply Cx.Ok.inter; assumption))
    (hbt : ∀ env, backTo p1 (starEach [e] env) = [(false, eval e env)] := by intro _; rfl)
    (hw : swapsWith (.Call (.Attribute o (Str.ofString "append") ap) [e] [] p1) none p2.line c.env = pure false := by rfl) :
    ExSs prog w B d c σ (.Expr (.Call (.Attribute o (Str.ofString "append") ap) [e] [] p1) p2 :: ts) P :=
  ExSs.next (P1 := fun σ' => σ' = ⟨σ.vars, m'⟩) (fun h0 A s Q E bb ok R q => wpAny_Expr (wpAny_Call_append hb (by rw [hbt]; rfl) hp (hbt _) (ho h0 A s _ E bb ok R fun v1 h1 t1 s1 r1 => by
    obtain rfl : v1 = .ref a := r1
    obtain ⟨vs, n, e1, r⟩ := ((R.sub s1).mem.at_ _ p.mem).1
    refine ⟨a, vs, rfl, ⟨_, n, e1, rfl, rfl, rfl⟩, he h0 A _ _ E bb ok (R.sub s1) fun v2 h2 t2 s2 r2 => ?_⟩
    exact callAppend ((R.sub s1).sub s2) p r2 hl fun h3 t3 hh R3 => q .next _ .next h3 t3 ⟨rfl, rfl⟩ R3 trivial)) hi hw) fun _ q => q ▸ h

theorem MR.setAt {h h' : Heap} {a : Addr} {vs : Array Value} {n : Nat} {xs : List PV} {pv : PV} {v : Value} {i : Nat} (e : h.get? a = some (listO vs n)) (r : VRs h xs vs.toList) (x : VR h pv v) (s : HSub h h')
    (q : h' = h.update a (Obj.mapSeq fun x => x.setIfInBounds i v)) : MR prog w h' a (.lst (xs.set i pv)) := by
  subst q
  have z := IsL.update (h := h) (l := a) (items := vs) (n := n) e (fun x => x.setIfInBounds i v)
  refine ⟨_, _, z, ?_⟩
  rw [Array.toList_setIfInBounds]
  exact (r.hsub s).set (x.hsub s)

theorem ExSs.setIdx {o i e : Expr} {p1 pos : Pos} {a : Addr} {xs : List PV} {pv : PV} {k : Int} {m' : Ledger} {ts : List Stmt} {P : FL → St → Prop} (he : EvE prog w B d c σ e pv) (ho : EvE prog w B d c σ o (.ref a)) (hi : EvE prog w B d c σ i (.int k)) (h0 : 0 ≤ k) (hk : k < xs.length) (hl : xs.length ≤ 16777216)
    (p : Put a (.lst xs) (.lst (xs.set k.toNat pv)) σ.mem m') (h : ExSs prog w B d c ⟨σ.vars, m'⟩ ts P) (hs : swapsWith e (some (.Subscript o i p1)) pos.line c.env = pure false := by rfl) : ExSs prog w B d c σ (.Assign [.Subscript o i p1] e pos :: ts) P :=
  ExSs.next (P1 := fun σ' => σ' = ⟨σ.vars, m'⟩) (fun g A s Q E bb ok R q => wpAny_Assign_Subscript (he g A s _ E bb ok R fun v1 h1 t1 s1 r1 => ho g A _ _ E bb ok (R.sub s1) fun v2 h2 t2 s2 r2 => hi g A _ _ E bb ok ((R.sub s1).sub s2) fun v3 h3 t3 s3 r3 => by
    obtain rfl : v2 = .ref a := r2
    obtain ⟨t, rfl⟩ := r3
    have R3 := ((R.sub s1).sub s2).sub s3
    obtain ⟨vs, n, e1, r⟩ := (R3.mem.at_ _ p.mem).1
    have hlen := r.length
    simp only [Array.length_toList] at hlen
    refine ki_setAt e1 h0 (by lia) (by lia) ?_
    obtain ⟨hh, R'⟩ := R3.put p (h' := h3.update a (Obj.mapSeq fun x => x.setIfInBounds k.toNat v1)) (fun b o q e => (Heap.get?_update_ne _ _ _ _ q).trans e) (fun hh => MR.setAt e1 r ((r1.hsub s2.hard).hsub s3.hard) hh rfl)
    exact q .next _ .next _ t3 ⟨rfl, rfl⟩ R' trivial) hs) fun _ q => q ▸ h
theorem ExSs.setIdxNeg {o i e : Expr} {p1 pos : Pos} {a : Addr} {xs : List PV} {pv : PV} {k : Int} {m' : Ledger} {ts : List Stmt} {P : FL → St → Prop} (he : EvE prog w B d c σ e pv) (ho : EvE prog w B d c σ o (.ref a)) (hi : EvE prog w B d c σ i (.int k)) (h0 : k < 0) (hk : -(xs.length : Int) ≤ k) (hl : xs.length ≤ 16777216)
    (p : Put a (.lst xs) (.lst (xs.set (k + xs.length).toNat pv)) σ.mem m') (h : ExSs prog w B d c ⟨σ.vars, m'⟩ ts P) (hs : swapsWith e (some (.Subscript o i p1)) pos.line c.env = pure false := by rfl) : ExSs prog w B d c σ (.Assign [.Subscript o i p1] e pos :: ts) P :=
  ExSs.next (P1 := fun σ' => σ' = ⟨σ.vars, m'⟩) (fun g A s Q E bb ok R q => wpAny_Assign_Subscript (he g A s _ E bb ok R fun v1 h1 t1 s1 r1 => ho g A _ _ E bb ok (R.sub s1) fun v2 h2 t2 s2 r2 => hi g A _ _ E bb ok ((R.sub s1).sub s2) fun v3 h3 t3 s3 r3 => by
    obtain rfl : v2 = .ref a := r2
    obtain ⟨t, rfl⟩ := r3
    have R3 := ((R.sub s1).sub s2).sub s3
    obtain ⟨vs, n, e1, r⟩ := (R3.mem.at_ _ p.mem).1
    have hlen := r.length
    simp only [Array.length_toList] at hlen
    refine ki_setBack e1 h0 (by lia) (by lia) ?_
    rw [hlen]
    obtain ⟨hh, R'⟩ := R3.put p (h' := h3.update a (Obj.mapSeq fun x => x.setIfInBounds (k + xs.length).toNat v1)) (fun b o q e => (Heap.get?_update_ne _ _ _ _ q).trans e) (fun hh => MR.setAt e1 r ((r1.hsub s2.hard).hsub s3.hard) hh rfl)
    exact q .next _ .next _ t3 ⟨rfl, rfl⟩ R' trivial) hs) fun _ q => q ▸ h
end
end Mine

/-! ## W5 -/
namespace Mine
/-! what stands below every base -/
structure Bs (B : Heap → Prop) (mg mb : Str → Option Value) : Prop where
  mono : ∀ h h', B h → Sub h h' → B h'
  g : ∀ h, B h → h.Ns mainGlobals mg
  b : ∀ h, B h → h.Ns builtinsNs mb
  lim : ∀ h, B h → h.NoLimit

section
variable {prog : Program} {w : World} {B : Heap → Prop} {mg mb : Str → Option Value} {d : Nat} {c : Cx} {σ : St}

theorem Ns.sub {h h' : Heap} {a : Addr} {m : Str → Option Value} (n : h.Ns a m) (s : Sub h h') : h'.Ns a m := n.keeps s

/-- a name of the text's or of the built-ins -/
theorem EvE.glob {x : Str} {pos : Pos} {v : Value} (Z : Bs B mg mb) (C : c.Ok) (hk : c.env.kindOf x = some .globalImplicit) (hv : mg x = some v) (hd : (x == ("__debug__" : Str)) = false := by decide) : EvE prog w B d c σ (.Name x pos) (.val v) :=
  fun h0 A s Q E b _ R h => Calls.Name_function_global C.kind hk (Calls.loadGlobal_global (by rw [C.gl]; exact Ns.sub (Z.g h0 b) R.keep) hv (h v s.heap s.toks Sub.rfl rfl)) hd
theorem EvE.blt {x : Str} {pos : Pos} {v : Value} (Z : Bs B mg mb) (C : c.Ok) (hk : c.env.kindOf x = some .globalImplicit) (hn : mg x = none) (hv : mb x = some v) (hd : (x == ("__debug__" : Str)) = false := by decide) : EvE prog w B d c σ (.Name x pos) (.val v) :=
  fun h0 A s Q E b _ R h => Calls.Name_function_global C.kind hk (Calls.loadGlobal_builtin (by rw [C.gl]; exact Ns.sub (Z.g h0 b) R.keep) hn (by rw [C.bl]; exact Ns.sub (Z.b h0 b) R.keep) hv (h v s.heap s.toks Sub.rfl rfl)) hd

/-! calls -/
inductive Callee (B : Heap → Prop) : Value → Prop
  | blt (id : String) : Callee B (.builtin id)
  | typ (n : String) : Callee B (.type n)
  | fn (a : Addr) (h : ∀ g, B g → ∃ o fd, g.get? a = some o ∧ o.data = .func fd) : Callee B (.ref a)

theorem callWith_other {M : Model} {A : Around} {E : Value → Shared → Prop} {s : Shared} {pos : Pos} {f : Value} {first : List Value} {args : List (Bool × Sem Value)} {Q : Value → Shared → Prop} (hf : ∀ a, f ≠ .ref a) (hplain : args.any (·.1) = false)
    (h : wpAny M A (evalArgs f true args []) (fun a s₁ => wpAny M A (call f (first ++ a.pos) a.kw) Q E s₁) E s) : wpAny M A (callWith pos f first args []) Q E s := by
  unfold callWith
  refine wpAny_bind (wpAny_holding (wpAny_mono h (fun a s₁ h₁ => wpAny_bind (wpAny_standAt ?_)) fun _ _ x => x))
  simp only [hplain, List.any_nil, Bool.or_false]
  have hk : keeperOf f = pure .machine := by
    unfold keeperOf
    cases f <;> first | rfl | exact absurd rfl (hf _)
  rw [hk]
  exact wpAny_bind (wpAny_pure (wpAny_bind (wpAny_mono h₁ (fun r s₂ hr => wpAny_bind (wpAny_holding (wpAny_point (wpAny_pure hr)))) fun _ _ x => x)))

theorem Callee.call {f : Value} (hf : Callee B f) (Z : Bs B mg mb) {A : Around} {E : Value → Shared → Prop} {s : Shared} {pos : Pos} {first : List Value} {args : List (Bool × Sem Value)} {Q : Value → Shared → Prop} {h0 : Heap} (b : B h0) (hplain : args.any (·.1) = false)
    (h : wpAny (model prog w) A (evalArgs f true args []) (fun a s₁ => Sub h0 s₁.heap ∧ wpAny (model prog w) A (call f (first ++ a.pos) a.kw) Q E s₁) E s) : wpAny (model prog w) A (callWith pos f first args []) Q E s := by
  cases hf with
  | blt id => exact callWith_other (fun a e => by cases e) hplain (wpAny_mono h (fun _ _ x => x.2) fun _ _ x => x)
  | typ n => exact callWith_other (fun a e => by cases e) hplain (wpAny_mono h (fun _ _ x => x.2) fun _ _ x => x)
  | fn a hg =>
    obtain ⟨o, fd, ho, hd⟩ := hg h0 b
    exact Calls.callWith_function (o := o) (fd := fd) (wpAny_mono h (fun x s₁ q => ⟨⟨q.1 _ _ ho, hd⟩, q.2⟩) fun _ _ x => x)

/-- a call at a state -/
noncomputable def CallR (prog : Program) (w : World) (B : Heap → Prop) (d : Nat) (c : Cx) (σ : St) (f : Value) (pvs : List PV) (P : PV → Ledger → Prop) : Prop :=
  ∀ (h0 : Heap) (A : Around) (s : Shared) (vals : List Value) (Q E : Value → Shared → Prop), B h0 → OkA d A → Rel prog w c h0 σ s.heap → VRs s.heap pvs vals →
    (∀ pv m' v h' tk, P pv m' → HSub s.heap h' → Rel prog w c h0 ⟨σ.vars, m'⟩ h' → VR h' pv v → Q v { s with heap := h', toks := tk }) → wpAny (model prog w) A (call f vals) Q E s

theorem evalArgsM {M : Model} {A : Around} {s : Shared} {E : Value → Shared → Prop} {f : Value} {pos : Pos} {es : List Expr} {env : Env} {Q : Args → Shared → Prop} (hp : (backTo pos (starEach es env)).any (·.1) = false)
    (h : wpAny M A (spliced (backTo pos (starEach es env))) (fun vs s' => Q ⟨vs, []⟩ s') E s) : wpAny M A (evalArgs f true (backTo pos (starEach es env)) []) Q E s := by
  generalize backTo pos (starEach es env) = l at *
  cases l with
  | nil =>
    unfold evalArgs
    show wpAny M A (spliced [] >>= _) Q E s
    refine wpAny_bind (wpAny_mono h (fun vs s' h' => ?_) fun _ _ x => x)
    refine wpAny_holding ?_
    exact wpAny_bind (wpAny_pure (wpAny_bind (wpAny_pure (wpAny_pure h'))))
  | cons x r =>
    obtain ⟨b, t⟩ := x
    simp only [List.any_cons, Bool.or_eq_false_iff] at hp
    obtain ⟨rfl, -⟩ := hp
    exact Calls.evalArgs_plain h

theorem EvM.call {x : Str} {np pos : Pos} {es : List Expr} {f : Value} {Pa : List PV → Ledger → Prop} {P : PV → Ledger → Prop} (Z : Bs B mg mb) (hf : EvE prog w B d c σ (.Name x np) (.val f)) (hk : Callee B f) (ha : EvMs prog w B d c σ es Pa)
    (hc : ∀ pvs m, Pa pvs m → CallR prog w B d c ⟨σ.vars, m⟩ f pvs P) (hp : ∀ pos env, (backTo pos (starEach es env)).any (·.1) = false := by intro _ _; rfl) : EvM prog w B d c σ (.Call (.Name x np) es [] pos) P :=
  fun h0 A s Q E b ok R k => wpAny_Call_ofName (hf h0 A s _ E b ok R fun v h1 t1 s1 r1 => by
    obtain rfl : v = f := r1
    refine hk.call Z b (hp _ _) (evalArgsM (hp _ _) (ha h0 A _ pos _ E b ok (R.sub s1) fun pvs m vs h2 t2 p hs R2 vrs => ⟨R2.keep, ?_⟩))
    exact hc pvs m p h0 A _ vs Q E b ok R2 vrs fun pv m' v h' tk p' hs' R' vr => k pv m' v h' tk p' ((s1.hard.trans hs).trans hs') R' vr)

/-- a call that leaves the ledger, its value a plain one -/
noncomputable def CallP (prog : Program) (w : World) (d : Nat) (c : Cx) (σ : St) (f : Value) (pvs : List PV) (pv : PV) : Prop :=
  ∀ (h0 : Heap) (A : Around) (s : Shared) (vals : List Value) (Q E : Value → Shared → Prop), OkA d A → Rel prog w c h0 σ s.heap → VRs s.heap pvs vals →
    (∀ v h' tk, Sub s.heap h' → VR h' pv v → Q v { s with heap := h', toks := tk }) → wpAny (model prog w) A (call f vals) Q E s
theorem CallP.r {f : Value} {pvs : List PV} {pv : PV} {P : PV → Ledger → Prop} (h : CallP prog w d c σ f pvs pv) (hp : P pv σ.mem) : CallR prog w B d c σ f pvs P :=
  fun h0 A s vals Q E b ok R r k => h h0 A s vals Q E ok R r fun v h' tk s' r' => k pv σ.mem v h' tk hp s'.hard (R.sub s') r'

noncomputable def EvAs (prog : Program) (w : World) (B : Heap → Prop) (d : Nat) (c : Cx) (σ : St) (es : List Expr) (ps : List PV) : Prop :=
  ∀ (h0 : Heap) (A : Around) (s : Shared) (pos : Pos) (Q : List Value → Shared → Prop) (E : Value → Shared → Prop), B h0 → OkA d A → Rel prog w c h0 σ s.heap →
    (∀ vs h' tk, Sub s.heap h' → VRs h' ps vs → Q vs { s with heap := h', toks := tk }) → wpAny (model prog w) A (spliced (backTo pos (starEach es c.env))) Q E s
theorem EvAs.nil : EvAs prog w B d c σ [] [] :=
  fun h0 A s pos Q E _ _ R k => wpAny_items_nil (k [] s.heap s.toks Sub.rfl trivial)
theorem EvAs.cons {e : Expr} {es : List Expr} {p : PV} {ps : List PV} (he : EvE prog w B d c σ e p) (hr : EvAs prog w B d c σ es ps)
    (hs : ∀ env, starEach (e :: es) env = (false, eval e env) :: starEach es env := by intro _; rfl) : EvAs prog w B d c σ (e :: es) (p :: ps) :=
  fun h0 A s pos Q E b ok R k => wpAny_items_cons (he h0 A s _ E b ok R fun v h1 t1 s1 r1 => hr h0 A _ pos _ E b ok (R.sub s1) fun vs h2 t2 s2 r2 => k (v :: vs) h2 t2 (s1.trans s2) ⟨r1.hsub s2.hard, r2⟩) (hs _)
theorem EvAs.one {e : Expr} {p : PV} (he : EvE prog w B d c σ e p) (hs : ∀ env, starEach [e] env = (false, eval e env) :: starEach [] env := by intro _; rfl) : EvAs prog w B d c σ [e] [p] := EvAs.cons he EvAs.nil hs

theorem EvE.callP {x : Str} {np pos : Pos} {es : List Expr} {f : Value} {ps : List PV} {pv : PV} (Z : Bs B mg mb) (hf : EvE prog w B d c σ (.Name x np) (.val f)) (hk : Callee B f) (ha : EvAs prog w B d c σ es ps)
    (hc : CallP prog w d c σ f ps pv) (hp : ∀ pos env, (backTo pos (starEach es env)).any (·.1) = false := by intro _ _; rfl) : EvE prog w B d c σ (.Call (.Name x np) es [] pos) pv :=
  fun h0 A s Q E b ok R k => wpAny_Call_ofName (hf h0 A s _ E b ok R fun v h1 t1 s1 r1 => by
    obtain rfl : v = f := r1
    refine hk.call Z b (hp _ _) (evalArgsM (hp _ _) (ha h0 A _ pos _ E b ok (R.sub s1) fun vs h2 t2 s2 vrs => ⟨((R.sub s1).sub s2).keep, ?_⟩))
    exact hc h0 A _ vs Q E ok ((R.sub s1).sub s2) vrs fun v h' tk s' r' => k v h' tk ((s1.trans s2).trans s') r')

theorem CallP.lenS {x : List Nat} (hl : x.length ≤ 16777216) : CallP prog w d c σ (.builtin "len") [.str x] (.int x.length) := by
  rintro h0 A s vals Q E ok R r k
  revert vals; refine VRs.s fun t => ?_
  · skip
    refine PyProof.Rows.len_str (by rw [S_length]; lia) ?_
    rw [S_length]
    exact k _ s.heap _ Sub.rfl ⟨_, rfl⟩
theorem CallP.lenL {a : Addr} {xs : List PV} (hm : (a, MO.lst xs) ∈ σ.mem) (hl : xs.length ≤ 16777216) : CallP prog w d c σ (.builtin "len") [.ref a] (.int xs.length) := by
  rintro h0 A s vals Q E ok R r k
  revert vals; refine VRs.v ?_
  · skip
    obtain ⟨vs, hv, r⟩ := R.lst hm
    have hlen := r.length
    refine Calls.call_len_list hv (by simp; lia) ?_
    simp only [List.size_toArray, hlen]
    exact k _ s.heap _ Sub.rfl ⟨_, rfl⟩

/-! the frame rule -/
theorem CallR.of {f : Value} {pvs : List PV} {m0 rest : Ledger} {P0 P : PV → Ledger → Prop} (Z : Bs B mg mb) (hf : FnOk prog w B d f pvs m0 P0) (hperm : (m0 ++ rest).Perm σ.mem) (hP : ∀ pv m1, P0 pv m1 → P pv (m1 ++ rest)) : CallR prog w B d c σ f pvs P := by
  intro h0 A s vals Q E b ok R r k
  have nd : ((m0 ++ rest).map (·.1)).Nodup := (hperm.map _).nodup_iff.mpr R.mem.nd
  have mem0 : ∀ p ∈ m0, p ∈ σ.mem := fun p hp => hperm.subset (List.mem_append_left _ hp)
  have memr : ∀ p ∈ rest, p ∈ σ.mem := fun p hp => hperm.subset (List.mem_append_right _ hp)
  have dis : ∀ p ∈ rest, p.1 ∉ m0.map (·.1) := fun p hp q => by
    rw [List.map_append] at nd
    exact (List.nodup_append.mp nd).2.2 _ q _ (List.mem_map_of_mem hp) rfl
  let g := hideAll s.heap (m0.map (·.1))
  have sg : Sub h0 g := fun x o e => hideAll_get _ (R.keep x o e) fun q => by
    obtain ⟨p, hp, rfl⟩ := List.mem_map.mp q
    rw [(R.mem.at_ p (mem0 p hp)).2] at e; cases e
  have gs : Sub g s.heap := fun x o e => of_hideAll _ e
  refine hf g A s vals Q E (Z.mono _ _ b sg) ok gs ⟨fun p hp => ⟨(R.mem.at_ p (mem0 p hp)).1, hideAll_none _ (List.mem_map_of_mem hp)⟩, ?_⟩ r fun pv m1 v h' tk p hg hm vr => ?_
  · rw [List.map_append] at nd
    exact (List.nodup_append.mp nd).1
  have up : ∀ x o, x ∉ m0.map (·.1) → s.heap.get? x = some o → h'.get? x = some o := fun x o q e => hg x o (hideAll_get _ e q)
  have hh : HSub s.heap h' := fun x o ho e => up x o (fun q => by
    obtain ⟨p, hp, rfl⟩ := List.mem_map.mp q
    obtain ⟨o', e', n⟩ := (R.mem.at_ p (mem0 p hp)).1.soft
    rw [e] at e'; cases e'; exact n ho) e
  have notL : ∀ x, x ∉ σ.mem.map (·.1) → x ∉ m0.map (·.1) := fun x q z => by
    obtain ⟨p, hp, rfl⟩ := List.mem_map.mp z
    exact q (List.mem_map_of_mem (mem0 p hp))
  have old : ∀ x o, x ∉ m0.map (·.1) → s.heap.get? x = some o → ∀ q ∈ m1, q.1 ≠ x := fun x o q e p hp z => by
    have := (hm.at_ p hp).2
    rw [z, hideAll_get _ e q] at this; cases this
  refine k pv (m1 ++ rest) v h' tk (hP pv m1 p) hh (R.change hh (sg.trans hg) (fun o e => up _ o (notL _ R.locN) e) (fun y a ha o e => up _ o (notL _ (R.cells y a ha).2) e) ⟨fun q hq => ?_, ?_⟩ ?_ ?_) vr
  · rcases List.mem_append.mp hq with hq | hq
    · refine ⟨(hm.at_ q hq).1, ?_⟩
      cases z : h0.get? q.1 with
      | none => rfl
      | some o => have := (hm.at_ q hq).2; rw [sg _ _ z] at this; cases this
    · exact ⟨(R.mem.at_ q (memr q hq)).1.keep hh fun o e => up _ o (dis q hq) e, (R.mem.at_ q (memr q hq)).2⟩
  · rw [List.map_append]
    refine List.nodup_append.mpr ⟨hm.nd, ?_, fun a ha b hb z => ?_⟩
    · rw [List.map_append] at nd
      exact (List.nodup_append.mp nd).2.1
    · obtain ⟨q, hq, rfl⟩ := List.mem_map.mp ha
      obtain ⟨p, hp, rfl⟩ := List.mem_map.mp hb
      obtain ⟨o', e', -⟩ := (R.mem.at_ p (memr p hp)).1.soft
      exact old p.1 o' (dis p hp) e' q hq z
  · intro q
    rw [List.map_append] at q
    rcases List.mem_append.mp q with q | q
    · obtain ⟨p, hp, e⟩ := List.mem_map.mp q
      obtain ⟨m, o', _, _, e', _⟩ := R.loc
      exact old _ o' (notL _ R.locN) e' p hp e
    · obtain ⟨p, hp, e⟩ := List.mem_map.mp q
      exact R.locN (e ▸ List.mem_map_of_mem (memr p hp))
  · intro y a ha q
    rw [List.map_append] at q
    rcases List.mem_append.mp q with q | q
    · obtain ⟨p, hp, e⟩ := List.mem_map.mp q
      obtain ⟨⟨v', o', e', _⟩, hn⟩ := R.cells y a ha
      exact old _ o' (notL _ hn) e' p hp e
    · obtain ⟨p, hp, e⟩ := List.mem_map.mp q
      exact (R.cells y a ha).2 (e ▸ List.mem_map_of_mem (memr p hp))

/-- a statement that is a call -/
theorem ExSs.expr {e : Expr} {pos : Pos} {ts : List Stmt} {P : FL → St → Prop} {P1 : PV → Ledger → Prop} (he : EvM prog w B d c σ e P1) (hn : ∀ pv m, P1 pv m → pv = .val .none) (h : ∀ m, P1 (.val .none) m → ExSs prog w B d c ⟨σ.vars, m⟩ ts P)
    (hi : interactive c.env = false := by first | rfl | (apply Cx.Ok.inter; assumption)) (hw : swapsWith e none pos.line c.env = pure false := by rfl) : ExSs prog w B d c σ (.Expr e pos :: ts) P :=
  ExSs.next (P1 := fun σ' => ∃ m, P1 (.val .none) m ∧ σ' = ⟨σ.vars, m⟩) (fun h0 A s Q E bb ok R q => wpAny_Expr (he h0 A s _ E bb ok R fun pv m v h1 t1 p hs R1 vr => by
    have := hn pv m p; subst this
    obtain rfl : v = .none := vr
    exact q .next _ .next h1 t1 ⟨rfl, m, p, rfl⟩ R1 trivial) hi hw) fun _ ⟨m, p, q⟩ => q ▸ h m p
end

/-! a def of the text -/
structure Dfn where
  name : Str
  params : Arguments
  body : List Stmt
  scope : Scope

noncomputable def IsDef (B : Heap → Prop) (a : Addr) (D : Dfn) : Prop := ∃ o pm cd doc, o.data = .func (Calls.docDef D.name D.params D.body D.scope pm cd doc) ∧ ∀ h, B h → h.get? a = some o ∧ h.CodeRec cd D.name

structure EnvOf (B : Heap → Prop) (D : Dfn) (env : Env) : Prop where
  code : ∀ h, B h → h.CodeRec env.code D.name
  scope : env.scope = D.scope
  gl : env.globals = mainGlobals
  bl : env.builtins = builtinsNs
  cells : env.cells = []

/-- what a plain def's text must show, by looking -/
noncomputable def plainDfn (D : Dfn) (ps names : List Str) : Bool :=
  (D.scope.kind == .function) && !D.scope.isCoroutine && !D.scope.isGenerator && D.scope.names.all (fun x => x.2 != .cell) &&
  names.all (fun x => D.scope.names.lookup x == some .local && !(x == ("__debug__" : Str)) && !(x == ("__classdict__" : Str))) && decide names.Nodup && (names.take ps.length == ps)

theorem EnvOf.ok {B : Heap → Prop} {D : Dfn} {env : Env} {ps names : List Str} (h : EnvOf B D env) (p : plainDfn D ps names = true) : Cx.Ok ⟨env, names, true⟩ := by
  simp only [plainDfn, Bool.and_eq_true, decide_eq_true_eq, List.all_eq_true, beq_iff_eq, Bool.not_eq_true'] at p
  obtain ⟨⟨⟨⟨⟨⟨p1, p2⟩, p3⟩, p4⟩, p5⟩, p6⟩, p7⟩ := p
  refine ⟨p6, by rw [h.scope]; exact p1, h.gl, h.bl, fun x hx => .inl ?_, fun x y a _ q => ?_, fun _ x hx q => ?_, fun x hx => ⟨(p5 x hx).1.2, (p5 x hx).2⟩⟩
  · show env.scope.names.lookup x = _; rw [h.scope]; exact (p5 x hx).1.1
  · rw [h.cells] at q; cases q
  · have : env.scope.names.lookup x = some .local := by rw [h.scope]; exact (p5 x hx).1.1
    have q' : env.scope.names.lookup x = some .free := q
    rw [this] at q'; cases q'

section
variable {prog : Program} {w : World} {B : Heap → Prop} {mg mb : Str → Option Value} {d : Nat}

theorem lookup_zip : ∀ {names : List Str} {vals : List Value} {k : Nat} {x : Str} {v : Value}, names.Nodup → names[k]? = some x → vals[k]? = some v → (names.zip vals).lookup x = some v
  | [], _, _, _, _, _, h, _ => by simp at h
  | _ :: _, [], _, _, _, _, _, h => by simp at h
  | n :: ns, u :: us, 0, x, v, _, h, g => by
    simp only [List.getElem?_cons_zero, Option.some.injEq] at h g
    subst h; subst g; simp
  | n :: ns, u :: us, k + 1, x, v, nd, h, g => by
    simp only [List.getElem?_cons_succ] at h g
    have hx : x ∈ ns := List.mem_of_getElem? h
    have hne : (x == n) = false := by
      rw [beq_eq_false_iff_ne]; rintro rfl; exact (List.nodup_cons.mp nd).1 hx
    rw [List.zip_cons_cons, List.lookup_cons, hne]
    exact lookup_zip (List.nodup_cons.mp nd).2 h g
theorem lookup_reverse_nodup : ∀ {l : List (Str × Value)} {x : Str} {v : Value}, (l.map (·.1)).Nodup → l.lookup x = some v → l.reverse.lookup x = some v := by
  intro l
  induction l with
  | nil => intro x v _ h; cases h
  | cons p l ih =>
    intro x v nd h
    obtain ⟨n, u⟩ := p
    simp only [List.map_cons, List.nodup_cons] at nd
    rw [List.reverse_cons, List.lookup_append]
    rw [List.lookup_cons] at h
    cases hb : x == n with
    | true =>
      rw [hb] at h
      have hn : x = n := beq_iff_eq.mp hb
      subst hn
      have : l.reverse.lookup x = none := by
        rw [List.lookup_eq_none_iff]
        intro q hq
        rw [bne_iff_ne]
        intro e
        exact nd.1 (e ▸ List.mem_map_of_mem (List.mem_reverse.mp hq))
      rw [this]
      simp only [Option.none_or, List.lookup_cons, hb]
      exact h
    | false =>
      rw [hb] at h
      rw [ih nd.2 h]; rfl

/-- a def whose code stands at a known place -/
noncomputable def IsDefC (B : Heap → Prop) (a : Addr) (D : Dfn) (cd : Value) : Prop := ∃ o pm doc, o.data = .func (Calls.docDef D.name D.params D.body D.scope pm cd doc) ∧ ∀ h, B h → h.get? a = some o ∧ h.CodeRec cd D.name
theorem IsDefC.def {B : Heap → Prop} {a : Addr} {D : Dfn} {cd : Value} (h : IsDefC B a D cd) : IsDef B a D := let ⟨o, pm, doc, r⟩ := h; ⟨o, pm, cd, doc, r⟩

theorem codeG {D : Dfn} {fd : FuncData} {o : Obj} {a : Addr} {ps names : List Str} {args : List PV} {m0 : Ledger} {P : PV → Ledger → Prop} (Z : Bs B mg mb) (hd : o.data = .func fd) (hall : ∀ h, B h → h.get? a = some o ∧ h.CodeRec fd.code fd.qualname) (q1 : fd.scope = D.scope) (q2 : fd.body = .stmts D.body) (q3 : fd.globals = mainGlobals) (q4 : fd.builtins = builtinsNs) (q5 : fd.closure = []) (q6 : fd.qualname = D.name) (hp : plainDfn D ps names = true) (hl : ps.length = args.length)
    (hb : ∀ (vals : List Value), vals.length = args.length → bindArgs fd ⟨vals, []⟩ = pure (ps.zip vals))
    (body : ∀ env, EnvOf B D env → env.code = fd.code → ExSs prog w B d ⟨env, names, true⟩ ⟨args ++ List.replicate (names.length - ps.length) .undef, m0⟩ D.body
      (fun fl σ' => match fl with | .ret pv => P pv σ'.mem | .next => P (.val .none) σ'.mem | _ => False))
    {h0 : Heap} {A : Around} {s : Shared} {vals : List Value} {R : Result → Shared → Prop} (b : B h0) (ok : OkA (d + 1) A) (sub : Sub h0 s.heap) (hm : MemOk prog w h0 m0 s.heap) (r : VRs s.heap args vals)
    (k : ∀ pv m1 v h' tk, P pv m1 → Sub h0 h' → MemOk prog w h0 m1 h' → VR h' pv v → R (.ok (.ret v)) { s with heap := h', toks := tk }) : codeAny (model prog w) A (.call (.ref a) ⟨vals, []⟩) R s := by
  obtain ⟨ho, hc⟩ := hall h0 b
  have hlen := r.length
  have hp' := hp
  simp only [plainDfn, Bool.and_eq_true, decide_eq_true_eq, List.all_eq_true, beq_iff_eq, Bool.not_eq_true', bne_iff_ne] at hp'
  rw [← q1] at hp'
  obtain ⟨⟨⟨⟨⟨⟨p1, p2⟩, p3⟩, p4⟩, p5⟩, p6⟩, p7⟩ := hp'
  have pin : ∀ x ∈ ps, x ∈ names := fun x hx => by rw [← p7] at hx; exact List.mem_of_mem_take hx
  have psnd : ps.Nodup := by rw [← p7]; exact p6.sublist (List.take_sublist _ _)
  have zipfst : ((ps.zip vals).map (·.1)).Nodup := by
    rw [List.map_fst_zip (by lia)]; exact psnd
  refine codeAny_call_def (binds := ps.zip vals) ok.lt (sub _ _ ho) hd ((Z.lim h0 b).keeps sub) (hc.keeps sub) q2 (BindsTo.of_eq (hb vals hlen)) p4
    (fun x hx => ?_) (fun h1 hn1 hk1 => ?_) p2 p3 p1
  · have : x.1 ∈ ps := (List.of_mem_zip hx).1
    exact (p5 _ (pin _ this)).1.1
  have hEnv : EnvOf B D (callEnv fd s.heap.objs.size a) := ⟨fun h b => q6 ▸ (hall h b).2, q1, q3, q4, q5⟩
  have fresh : ∀ x o', s.heap.get? x = some o' → x ≠ s.heap.objs.size := fun x o' e => Nat.ne_of_lt (Heap.lt_size e)
  have R : Rel prog w ⟨callEnv fd s.heap.objs.size a, names, true⟩ h0 ⟨args ++ List.replicate (names.length - ps.length) .undef, m0⟩ h1 := by
    refine ⟨sub.trans hk1, fun kk pv e => ?_, hm.sub hk1, ⟨_, hn1⟩, fun q => ?_, ?_, fun x c e => (by rw [hEnv.cells] at e; cases e), fun _ x c e => (by rw [hEnv.cells] at e; cases e)⟩
    · by_cases hkl : kk < args.length
      · rw [List.getElem?_append_left hkl] at e
        obtain ⟨v, ev, rv⟩ := r.get e
        have hx : kk < ps.length := by lia
        have hpk : ps[kk]? = some ps[kk] := List.getElem?_eq_getElem hx
        refine .inr ⟨ps[kk], v, ?_, .inl ⟨(p5 _ (pin _ (List.getElem_mem hx))).1.1, _, hn1, lookup_reverse_nodup zipfst (lookup_zip psnd hpk ev)⟩, rv.hsub (Sub.hard hk1)⟩
        show names[kk]? = some ps[kk]
        have : (names.take ps.length)[kk]? = some ps[kk] := by rw [p7]; exact hpk
        rwa [List.getElem?_take_of_lt hx] at this
      · rw [List.getElem?_append_right (by lia)] at e
        have := List.mem_of_getElem? e
        exact .inl (List.eq_of_mem_replicate this)
    · obtain ⟨p, hp2, e⟩ := List.mem_map.mp q
      obtain ⟨o', e', -⟩ := (hm.at_ p hp2).1.soft
      exact fresh _ _ e' e
    · cases q : h0.get? s.heap.objs.size with
      | none => exact q
      | some o' => exact absurd (Heap.lt_size (sub _ _ q)) (Nat.lt_irrefl _)
  refine body _ hEnv rfl h0 (A.deeper _) _ _ _ b (ok.deeper _) R fun fl σ' f h' tk p R' fr => ?_
  cases fl with
  | next => cases f with | next => exact k _ _ _ h' tk p R'.keep R'.mem rfl | _ => exact fr.elim
  | ret v => cases f with | ret v' => exact k _ _ _ h' tk p R'.keep R'.mem fr | _ => exact fr.elim
  | brk => exact p.elim
  | cont => exact p.elim
/-- entering a def -/
theorem FnOk.defG {D : Dfn} {fd : FuncData} {o : Obj} {a : Addr} {ps names : List Str} {args : List PV} {m0 : Ledger} {P : PV → Ledger → Prop} (Z : Bs B mg mb) (hd : o.data = .func fd) (hall : ∀ h, B h → h.get? a = some o ∧ h.CodeRec fd.code fd.qualname) (q1 : fd.scope = D.scope) (q2 : fd.body = .stmts D.body) (q3 : fd.globals = mainGlobals) (q4 : fd.builtins = builtinsNs) (q5 : fd.closure = []) (q6 : fd.qualname = D.name) (hp : plainDfn D ps names = true) (hl : ps.length = args.length)
    (hb : ∀ (vals : List Value), vals.length = args.length → bindArgs fd ⟨vals, []⟩ = pure (ps.zip vals))
    (body : ∀ env, EnvOf B D env → env.code = fd.code → ExSs prog w B d ⟨env, names, true⟩ ⟨args ++ List.replicate (names.length - ps.length) .undef, m0⟩ D.body
      (fun fl σ' => match fl with | .ret pv => P pv σ'.mem | .next => P (.val .none) σ'.mem | _ => False)) : FnOk prog w B (d + 1) (.ref a) args m0 P := fun h0 A s vals Q E b ok sub hm r k => wpAny_call (codeG Z hd hall q1 q2 q3 q4 q5 q6 hp hl hb body b ok sub hm r k)
theorem FnOk.defC {D : Dfn} {cd : Value} {a : Addr} {ps names : List Str} {args : List PV} {m0 : Ledger} {P : PV → Ledger → Prop} (Z : Bs B mg mb) (hdef : IsDefC B a D cd) (hp : plainDfn D ps names = true) (hl : ps.length = args.length)
    (hb : ∀ (pm cd doc : Value) (vals : List Value), vals.length = args.length → bindArgs (Calls.docDef D.name D.params D.body D.scope pm cd doc) ⟨vals, []⟩ = pure (ps.zip vals))
    (body : ∀ env, EnvOf B D env → env.code = cd → ExSs prog w B d ⟨env, names, true⟩ ⟨args ++ List.replicate (names.length - ps.length) .undef, m0⟩ D.body
      (fun fl σ' => match fl with | .ret pv => P pv σ'.mem | .next => P (.val .none) σ'.mem | _ => False)) : FnOk prog w B (d + 1) (.ref a) args m0 P :=
  let ⟨o, pm, doc, hd, hall⟩ := hdef
  FnOk.defG Z hd hall rfl rfl rfl rfl rfl rfl hp hl (fun vals h => hb pm cd doc vals h) body
theorem FnOk.def_ {D : Dfn} {a : Addr} {ps names : List Str} {args : List PV} {m0 : Ledger} {P : PV → Ledger → Prop} (Z : Bs B mg mb) (hdef : IsDef B a D) (hp : plainDfn D ps names = true) (hl : ps.length = args.length)
    (hb : ∀ (pm cd doc : Value) (vals : List Value), vals.length = args.length → bindArgs (Calls.docDef D.name D.params D.body D.scope pm cd doc) ⟨vals, []⟩ = pure (ps.zip vals))
    (body : ∀ env, EnvOf B D env → ExSs prog w B d ⟨env, names, true⟩ ⟨args ++ List.replicate (names.length - ps.length) .undef, m0⟩ D.body
      (fun fl σ' => match fl with | .ret pv => P pv σ'.mem | .next => P (.val .none) σ'.mem | _ => False)) : FnOk prog w B (d + 1) (.ref a) args m0 P :=
  let ⟨o, pm, cd, doc, r⟩ := hdef
  FnOk.defC Z ⟨o, pm, doc, r⟩ hp hl hb fun env he _ => body env he
end
end Mine

/-! ## W6 -/
namespace Mine
/-- the text's n-th statement as a def -/
noncomputable def dfnNil : Dfn := ⟨Str.empty, ⟨[], [], none, [], [], none, []⟩, [], { kind := .function, names := [], isGenerator := false, isCoroutine := false, more := [] }⟩
noncomputable def partOf : Stmt → Dfn
  | .FunctionDef name params body _ _ _ scope _ _ _ => ⟨name, params, body, scope⟩
  | .ClassDef _ _ _ body _ _ _ _ _ _ _ | .While _ body _ _ | .For _ _ body _ _ => { dfnNil with body := body }
  | _ => dfnNil
noncomputable def dfn (n : Nat) : Dfn := (PySem.Challenge.pw_in0169_01.main.body[n]?).elim dfnNil partOf
noncomputable def bodyAt (n k : Nat) : List Stmt := ((dfn n).body[k]?).elim [] fun s => (partOf s).body
noncomputable def initD : Dfn := { ((dfn 3).body[0]?).elim dfnNil partOf with name := Str.ofString "Entry.__init__" }
noncomputable def defIdx : List Nat := [6, 8, 9, 12, 13, 14, 16, 17, 18, 19, 20, 22, 23, 24, 25]
noncomputable def bltNames : List Str := ["len", "range", "isinstance", "str", "list", "map", "filter", "set", "object", "divmod", "reversed"].map Str.ofString

structure Base (B : Heap → Prop) (mg mb : Str → Option Value) (fa : Nat → Addr) : Prop extends Bs B mg mb where
  defs : ∀ n ∈ defIdx, mg (dfn n).name = some (.ref (fa n)) ∧ IsDef B (fa n) (dfn n)
  nog : ∀ x ∈ bltNames, mg x = none
  blt : ∀ x ∈ bltNames, mb x = bootBuiltins x

section
variable {prog : Program} {w : World} {B : Heap → Prop} {mg mb : Str → Option Value} {fa : Nat → Addr} {d : Nat} {c : Cx} {σ : St}

theorem Base.callee (Z : Base B mg mb fa) (n : Nat) (hn : n ∈ defIdx) : Callee B (.ref (fa n)) :=
  .fn _ fun g b => let ⟨o, _, _, _, hd, h⟩ := (Z.defs n hn).2; ⟨o, _, (h g b).1, hd⟩
/-- a def's name -/
theorem EvE.fn {x : Str} {pos : Pos} (Z : Base B mg mb fa) (n : Nat) (C : c.Ok) (hn : n ∈ defIdx) (hx : (dfn n).name = x) (hk : c.env.kindOf x = some .globalImplicit) (hd : (x == ("__debug__" : Str)) = false := by decide) : EvE prog w B d c σ (.Name x pos) (.val (.ref (fa n))) :=
  EvE.glob Z.toBs C hk (hx ▸ (Z.defs n hn).1) hd
theorem EvE.bl {x : Str} {pos : Pos} {v : Value} (Z : Base B mg mb fa) (C : c.Ok) (hn : x ∈ bltNames) (hv : bootBuiltins x = some v) (hk : c.env.kindOf x = some .globalImplicit) (hd : (x == ("__debug__" : Str)) = false := by decide) : EvE prog w B d c σ (.Name x pos) (.val v) :=
  EvE.blt Z.toBs C hk (Z.nog x hn) ((Z.blt x hn).trans hv) hd

theorem kind_of {D : Dfn} {env : Env} (h : EnvOf B D env) {x : Str} {k : NameKind} (q : D.scope.names.lookup x = some k) : env.kindOf x = some k := by
  show env.scope.names.lookup x = _; rw [h.scope]; exact q

/-- len(x) -/
theorem EvE.len {np pos : Pos} {e : Expr} {p : PV} {n : Nat} (Z : Base B mg mb fa) (C : c.Ok) (hk : c.env.kindOf (Str.ofString "len") = some .globalImplicit) (he : EvE prog w B d c σ e p) (h : CallP prog w d c σ (.builtin "len") [p] (.int n))
    (hs : ∀ env, starEach [e] env = (false, eval e env) :: starEach [] env := by intro _; rfl) : EvE prog w B d c σ (.Call (.Name (Str.ofString "len") np) [e] [] pos) (.int n) :=
  EvE.callP Z.toBs (EvE.bl Z C (by decide +kernel) boot_len hk) (.blt _) (EvAs.one he hs) h (by intro pos env; rw [hs]; rfl)

theorem EvAs.ms {es : List Expr} {ps : List PV} {P : List PV → Ledger → Prop} (he : EvAs prog w B d c σ es ps) (h : P ps σ.mem) : EvMs prog w B d c σ es P :=
  fun h0 A s pos Q E b ok R k => he h0 A s pos Q E b ok R fun vs h' tk s' r => k ps σ.mem vs h' tk h s'.hard (R.sub s') r
theorem FnOk.le {f : Value} {args : List PV} {m0 : Ledger} {P : PV → Ledger → Prop} {d' : Nat} (h : FnOk prog w B d f args m0 P) (q : d ≤ d') : FnOk prog w B d' f args m0 P :=
  fun h0 A s vals Q E b ok sub hm r k => h h0 A s vals Q E b (ok.le q) sub hm r k
theorem FnOk.mono {f : Value} {args : List PV} {m0 : Ledger} {P P' : PV → Ledger → Prop} (h : FnOk prog w B d f args m0 P) (q : ∀ pv m, P pv m → P' pv m) : FnOk prog w B d f args m0 P' :=
  fun h0 A s vals Q E b ok sub hm r k => h h0 A s vals Q E b ok sub hm r fun pv m1 v h' tk p => k pv m1 v h' tk (q pv m1 p)

theorem EvM.callF {x : Str} {np pos : Pos} {es : List Expr} {ps : List PV} {m0 rest : Ledger} {P0 P : PV → Ledger → Prop} {d' : Nat} (n : Nat) (Z : Base B mg mb fa) (C : c.Ok) (hn : n ∈ defIdx) (hx : (dfn n).name = x) (hk : c.env.kindOf x = some .globalImplicit)
    (ha : EvAs prog w B d c σ es ps) (hf : FnOk prog w B d' (.ref (fa n)) ps m0 P0) (hd : d' ≤ d) (hperm : (m0 ++ rest).Perm σ.mem) (h : ∀ pv m1, P0 pv m1 → P pv (m1 ++ rest))
    (hp : ∀ pos env, (backTo pos (starEach es env)).any (·.1) = false := by intro _ _; rfl) (hdb : (x == ("__debug__" : Str)) = false := by decide) : EvM prog w B d c σ (.Call (.Name x np) es [] pos) P :=
  EvM.call Z.toBs (EvE.fn Z n C hn hx hk hdb) (Z.callee n hn) (ha.ms (P := fun p m => p = ps ∧ m = σ.mem) ⟨rfl, rfl⟩) (fun _ _ q => by rw [q.1, q.2]; exact CallR.of Z.toBs (hf.le hd) hperm h) hp

theorem ExSs.callS {x : Str} {np pos pos2 : Pos} {es : List Expr} {ps : List PV} {m0 rest : Ledger} {P0 : PV → Ledger → Prop} {ts : List Stmt} {P : FL → St → Prop} {d' : Nat} (n : Nat) (Z : Base B mg mb fa) (C : c.Ok) (hn : n ∈ defIdx) (hx : (dfn n).name = x) (hk : c.env.kindOf x = some .globalImplicit)
    (ha : EvAs prog w B d c σ es ps) (hf : FnOk prog w B d' (.ref (fa n)) ps m0 P0) (hd : d' ≤ d) (hperm : (m0 ++ rest).Perm σ.mem) (h0 : ∀ pv m1, P0 pv m1 → pv = .val .none) (h : ∀ m1, P0 (.val .none) m1 → ExSs prog w B d c ⟨σ.vars, m1 ++ rest⟩ ts P)
    (hp : ∀ pos env, (backTo pos (starEach es env)).any (·.1) = false := by intro _ _; rfl) (hdb : (x == ("__debug__" : Str)) = false := by decide) (hi : interactive c.env = false := by first | rfl | (apply Cx.Ok.inter; assumption)) (hw : swapsWith (.Call (.Name x np) es [] pos) none pos2.line c.env = pure false := by rfl) :
    ExSs prog w B d c σ (.Expr (.Call (.Name x np) es [] pos) pos2 :: ts) P :=
  ExSs.expr (P1 := fun pv m => ∃ m1, P0 pv m1 ∧ m = m1 ++ rest) (EvM.callF n Z C hn hx hk ha hf hd hperm (fun pv m1 q => ⟨m1, q, rfl⟩) hp hdb) (fun pv m ⟨m1, q, _⟩ => h0 pv m1 q) (fun m ⟨m1, q, e⟩ => e ▸ h m1 q) hi hw
theorem ExSs.letF {y x : Str} {p1 np pos pos2 : Pos} {es : List Expr} {ps : List PV} {m0 rest : Ledger} {P0 : PV → Ledger → Prop} {ts : List Stmt} {P : FL → St → Prop} {d' : Nat} (k : Nat) (n : Nat) (Z : Base B mg mb fa) (C : c.Ok) (hrw : c.rw = true) (hky : c.names[k]? = some y) (hn : n ∈ defIdx) (hx : (dfn n).name = x) (hk : c.env.kindOf x = some .globalImplicit)
    (ha : EvAs prog w B d c σ es ps) (hf : FnOk prog w B d' (.ref (fa n)) ps m0 P0) (hd : d' ≤ d) (hperm : (m0 ++ rest).Perm σ.mem) (h : ∀ pv m1, P0 pv m1 → ExSs prog w B d c ⟨σ.vars.set k pv, m1 ++ rest⟩ ts P)
    (hp : ∀ pos env, (backTo pos (starEach es env)).any (·.1) = false := by intro _ _; rfl) (hdb : (x == ("__debug__" : Str)) = false := by decide) (hw : swapsWith (.Call (.Name x np) es [] pos) (some (.Name y p1)) pos2.line c.env = pure false := by rfl) :
    ExSs prog w B d c σ (.Assign [.Name y p1] (.Call (.Name x np) es [] pos) pos2 :: ts) P :=
  ExSs.letM (P1 := fun pv m => ∃ m1, P0 pv m1 ∧ m = m1 ++ rest) k C hrw hky (EvM.callF n Z C hn hx hk ha hf hd hperm (fun pv m1 q => ⟨m1, q, rfl⟩) hp hdb) hw (fun pv m ⟨m1, q, e⟩ => e ▸ h pv m1 q)
theorem ExSs.retF {x : Str} {np pos pos2 : Pos} {es : List Expr} {ps : List PV} {m0 rest : Ledger} {P0 : PV → Ledger → Prop} {ts : List Stmt} {P : FL → St → Prop} {d' : Nat} (n : Nat) (Z : Base B mg mb fa) (C : c.Ok) (hn : n ∈ defIdx) (hx : (dfn n).name = x) (hk : c.env.kindOf x = some .globalImplicit)
    (ha : EvAs prog w B d c σ es ps) (hf : FnOk prog w B d' (.ref (fa n)) ps m0 P0) (hd : d' ≤ d) (hperm : (m0 ++ rest).Perm σ.mem) (h : ∀ pv m1, P0 pv m1 → P (.ret pv) ⟨σ.vars, m1 ++ rest⟩)
    (hp : ∀ pos env, (backTo pos (starEach es env)).any (·.1) = false := by intro _ _; rfl) (hdb : (x == ("__debug__" : Str)) = false := by decide) :
    ExSs prog w B d c σ (.Return (some (.Call (.Name x np) es [] pos)) pos2 :: ts) P :=
  ExSs.ret (P1 := fun pv m => ∃ m1, P0 pv m1 ∧ m = m1 ++ rest) (EvM.callF n Z C hn hx hk ha hf hd hperm (fun pv m1 q => ⟨m1, q, rfl⟩) hp hdb) (fun pv m ⟨m1, q, e⟩ => e ▸ h pv m1 q)
end
end Mine

/-! ## HPG -/
namespace Mine
/-! the head from its pieces: nothing here names the text -/
theorem top_chain {p : Program} {w : World} {n₀ : Nat} {ann : Option Value} {n1 n2 n3 n4 N : Nat} {s sA s1 s2 r : Shared} {t : Thread} {b b1 b2 b3 : List Stmt} {env : Env} {c : Code} {q q0 q1 q2 : Pos}
    (e : b = b1 ++ (b2 ++ b3)) (h1 : topGo treeTable p w n₀ ann n1 s t = some (sA, ⟨denote treeTable (.body b env), c, q0, [topFrame q]⟩)) (h2 : segRun treeTable p w n₀ ann 1 n2 sA (blockOf b env c q0 [topFrame q]) = some (.next, sA, c, q0))
    (h3 : segRun treeTable p w n₀ ann 1 n3 sA (piecesOf b1 env c q0 [topFrame q]) = some (.next, s1, c, q1)) (h4 : segRun treeTable p w n₀ ann 1 n4 s1 (piecesOf b2 env c q1 [topFrame q]) = some (.next, s2, c, q2))
    (h5 : topRun treeTable p w n₀ ann N s2 (restOf b3 env c q2 [topFrame q]) = some r) : topRun treeTable p w n₀ ann (n1 + (n2 + (n3 + (n4 + N)))) s t = some r := by
  refine go_top h1 (piece_block h2 ?_)
  rw [e]
  exact piece_app h3 (piece_app h4 h5)
theorem left_cut {p q : Program} {loose : List Str} {Xt : Shared → Bool} {α : Type} {Yf : Shared → α} {Ya : World → α} {N M K : Nat} {g0 : Bool} {H₀ : Params → Heap} {k₀ m₀ : Nat} {ann : Option Value} (hN : M + K = N)
    (open_ : ∀ w : World, (fencedOpening treeTable p w N).map (fun s => (s.heap, s.gens, s.drawn, s.toks)) = some (H₀ w.params, #[], {}, k₀))
    (size : ∀ w : World, ((H₀ w.params).isNs mainGlobals, (H₀ w.params).objs.size, (H₀ w.params).nsMap mainGlobals "__annotations__") = (true, m₀, ann))
    (run : ∀ (w : World) (os : OsState), ∃ r, topRun treeTable p w m₀ ann M ⟨H₀ w.params, #[], {}, k₀, os⟩ (topStub p) = some r ∧
      (staticsOk (importedModules p.main.body) (H₀ w.params) r.heap && namesBound p r.heap && gensDone r && laidKept (H₀ w.params) r.heap, openSeen q loose (importedModules p.main.body) Xt g0 r, Yf r) = (true, openGood q loose, Ya w)) :
    LeftO p q loose Xt Yf Ya N g0 := fun w => by
  obtain ⟨⟨h, gs, d, k, os⟩, e, e'⟩ := Option.map_eq_some_iff.mp (open_ w)
  obtain ⟨a1, e2⟩ := Prod.mk.inj e'
  obtain ⟨a2, e3⟩ := Prod.mk.inj e2
  obtain ⟨a3, a4⟩ := Prod.mk.inj e3
  dsimp only at a1 a2 a3 a4
  subst a1 a2 a3 a4
  obtain ⟨z1, sz⟩ := Prod.mk.inj (size w)
  obtain ⟨z2, z3⟩ := Prod.mk.inj sz
  obtain ⟨r, hr, hF⟩ := run w os
  obtain ⟨l1, hF⟩ := Prod.mk.inj hF
  obtain ⟨l2, l3⟩ := Prod.mk.inj hF
  have hr' := topRun_mono K _ _ _ _ hr
  rw [hN] at hr'
  have t : topFrom treeTable p w N ⟨H₀ w.params, #[], {}, k, os⟩ = some r := by
    unfold topFrom
    dsimp only
    rw [z1, z2, z3, hr']
    show (match staticsOk (importedModules p.main.body) (H₀ w.params) r.heap && namesBound p r.heap && gensDone r && laidKept (H₀ w.params) r.heap with | true => _ | false => _) = _
    rw [l1]
  unfold openEnds
  rw [e]
  show (topFrom treeTable p w N _).map _ = _
  rw [t]
  exact congrArg some (Prod.ext l2 l3)
end Mine

/-! ## F1 -/
namespace Mine
/-! the few objects of the top that the walk asks for; the heap's own numbers -/
noncomputable def k3 (P : Params) : Obj := { cls := Value.type "dict", data := Data.dict #[{ hash := PyData.keyHash P (Str.ofString "__name__"), key := Value.str (Str.ofString "__name__") 165, val := Value.str (Str.ofString "law_in0169_01") 657 }, { hash := PyData.keyHash P (Str.ofString "__doc__"), key := Value.str (Str.ofString "__doc__") 166, val := Value.none }, { hash := PyData.keyHash P (Str.ofString "__package__"), key := Value.str (Str.ofString "__package__") 167, val := Value.none }, { hash := PyData.keyHash P (Str.ofString "__loader__"), key := Value.str (Str.ofString "__loader__") 168, val := Value.builtin "__main__.__loader__#opaque" }, { hash := PyData.keyHash P (Str.ofString "__spec__"), key := Value.str (Str.ofString "__spec__") 169, val := Value.none }, { hash := PyData.keyHash P (Str.ofString "__annotations__"), key := Value.str (Str.ofString "__annotations__") 170, val := Value.ref 6 }, { hash := PyData.keyHash P (Str.ofString "__builtins__"), key := Value.str (Str.ofString "__builtins__") 171, val := Value.ref 4 }, { hash := PyData.keyHash P (Str.ofString "__file__"), key := Value.str (Str.ofString "__file__") 173, val := Value.str (Str.ofString "/claim/cut.py") 172 }, { hash := PyData.keyHash P (Str.ofString "__cached__"), key := Value.str (Str.ofString "__cached__") 174, val := Value.none }, { hash := PyData.keyHash P (Str.ofString "_sre"), key := Value.str (Str.ofString "_sre") 275, val := Value.ref 12 }, { hash := PyData.keyHash P (Str.ofString "_wall"), key := Value.str (Str.ofString "_wall") 288, val := Value.ref 38 }, { hash := PyData.keyHash P (Str.ofString "Entry"), key := Value.str (Str.ofString "Entry") 347, val := Value.ref 76 }, { hash := PyData.keyHash P (Str.ofString "_special_chars_map"), key := Value.str (Str.ofString "_special_chars_map") 495, val := Value.ref 82 }, { hash := PyData.keyHash P (Str.ofString "escape"), key := Value.str (Str.ofString "escape") 502, val := Value.ref 92 }, { hash := PyData.keyHash P (Str.ofString "translate_pattern"), key := Value.str (Str.ofString "translate_pattern") 513, val := Value.ref 99 }, { hash := PyData.keyHash P (Str.ofString "merge_entries"), key := Value.str (Str.ofString "merge_entries") 522, val := Value.ref 106 }, { hash := PyData.keyHash P (Str.ofString "_twin_re_1"), key := Value.str (Str.ofString "_twin_re_1") 562, val := Value.ref 111 }, { hash := PyData.keyHash P (Str.ofString "translate"), key := Value.str (Str.ofString "translate") 571, val := Value.ref 118 }, { hash := PyData.keyHash P (Str.ofString "_translate"), key := Value.str (Str.ofString "_translate") 590, val := Value.ref 125 }, { hash := PyData.keyHash P (Str.ofString "_join_translated_parts"), key := Value.str (Str.ofString "_join_translated_parts") 603, val := Value.ref 132 }, { hash := PyData.keyHash P (Str.ofString "heappush"), key := Value.str (Str.ofString "heappush") 613, val := Value.ref 139 }, { hash := PyData.keyHash P (Str.ofString "heappop"), key := Value.str (Str.ofString "heappop") 622, val := Value.ref 146 }, { hash := PyData.keyHash P (Str.ofString "heapify"), key := Value.str (Str.ofString "heapify") 631, val := Value.ref 153 }, { hash := PyData.keyHash P (Str.ofString "_siftdown"), key := Value.str (Str.ofString "_siftdown") 643, val := Value.ref 160 }, { hash := PyData.keyHash P (Str.ofString "_siftup"), key := Value.str (Str.ofString "_siftup") 656, val := Value.ref 167 }, { hash := PyData.keyHash P (Str.ofString "_law_pieces"), key := Value.str (Str.ofString "_law_pieces") 667, val := Value.ref 174 }, { hash := PyData.keyHash P (Str.ofString "_law_walk"), key := Value.str (Str.ofString "_law_walk") 681, val := Value.ref 181 }, { hash := PyData.keyHash P (Str.ofString "_law_ends"), key := Value.str (Str.ofString "_law_ends") 697, val := Value.ref 188 }, { hash := PyData.keyHash P (Str.ofString "_law_table"), key := Value.str (Str.ofString "_law_table") 703, val := Value.ref 193 }, { hash := PyData.keyHash P (Str.ofString "law"), key := Value.str (Str.ofString "law") 709, val := Value.ref 198 }] 30 }
noncomputable def k51 (P : Params) : Obj := { cls := Value.type "code", data := Data.fields #[Value.str (Str.ofString "__init__") 303, Value.str (Str.ofString "Entry.__init__") 304, Value.str (Str.ofString "/claim/cut.py") 305, Value.int 8 0, Value.int 1 0, Value.int 0 0, Value.int 0 0, Value.int 3 0, Value.ref 46, Value.bool true, Value.int 276 0, Value.ref 47, Value.none, Value.ref 48, Value.ref 49, Value.ref 50, Value.int 307 0, Value.int 8 0, Value.str (Str.ofString "/claim/cut.py") 308] }
noncomputable def k52 (P : Params) : Obj := { cls := Value.type "function", data := Data.func { name := Str.ofString "__init__", qualname := Str.ofString "Entry.__init__", params := initD.params, body := .stmts initD.body, scope := initD.scope, globals := 3, closure := [], defaults := Value.none, kwdefaults := Value.none, pyModule := Value.str (Str.ofString "cpy313.urllib.robotparser") 289, code := Value.ref 51 } }
noncomputable def k75 (P : Params) : Obj := { cls := Value.type "dict", data := Data.dict #[{ hash := PyData.keyHash P (Str.ofString "__module__"), key := Value.str (Str.ofString "__module__") 298, val := Value.str (Str.ofString "cpy313.urllib.robotparser") 289 }, { hash := PyData.keyHash P (Str.ofString "__firstlineno__"), key := Value.str (Str.ofString "__firstlineno__") 302, val := Value.int 6 301 }, { hash := PyData.keyHash P (Str.ofString "__init__"), key := Value.str (Str.ofString "__init__") 309, val := Value.ref 52 }, { hash := PyData.keyHash P (Str.ofString "__str__"), key := Value.str (Str.ofString "__str__") 319, val := Value.ref 59 }, { hash := PyData.keyHash P (Str.ofString "applies_to"), key := Value.str (Str.ofString "applies_to") 327, val := Value.ref 66 }, { hash := PyData.keyHash P (Str.ofString "allowance"), key := Value.str (Str.ofString "allowance") 335, val := Value.ref 73 }, { hash := PyData.keyHash P (Str.ofString "__static_attributes__"), key := Value.str (Str.ofString "__static_attributes__") 340, val := Value.ref 74 }, { hash := PyData.keyHash P (Str.ofString "__dict__"), key := Value.str (Str.ofString "__dict__") 342, val := Value.ref 77 }, { hash := PyData.keyHash P (Str.ofString "__weakref__"), key := Value.str (Str.ofString "__weakref__") 344, val := Value.ref 78 }, { hash := PyData.keyHash P (Str.ofString "__doc__"), key := Value.str (Str.ofString "__doc__") 345, val := Value.none }] 4 }
noncomputable def k76 (P : Params) : Obj := { cls := Value.type "type", data := Data.cls { name := Str.ofString "Entry", bases := [Value.type "object"], mro := [Value.ref 76, Value.type "object"], ns := 75, qualname := Str.ofString "Entry" }, slots := #[none, none, some (Value.str (Str.ofString "Entry") 291), some (Value.str (Str.ofString "Entry") 299), some (Value.builtin "object.__new__"), some (Value.bool true)] }
noncomputable def k82 (P : Params) : Obj := { cls := Value.type "dict", data := Data.dict #[{ hash := 40, key := Value.int 40 351, val := Value.str (Str.ofString "\\(") 355 }, { hash := 41, key := Value.int 41 357, val := Value.str (Str.ofString "\\)") 361 }, { hash := 91, key := Value.int 91 363, val := Value.str (Str.ofString "\\[") 367 }, { hash := 93, key := Value.int 93 369, val := Value.str (Str.ofString "\\]") 373 }, { hash := 123, key := Value.int 123 375, val := Value.str (Str.ofString "\\{") 379 }, { hash := 125, key := Value.int 125 381, val := Value.str (Str.ofString "\\}") 385 }, { hash := 63, key := Value.int 63 387, val := Value.str (Str.ofString "\\?") 391 }, { hash := 42, key := Value.int 42 393, val := Value.str (Str.ofString "\\*") 397 }, { hash := 43, key := Value.int 43 399, val := Value.str (Str.ofString "\\+") 403 }, { hash := 45, key := Value.int 45 405, val := Value.str (Str.ofString "\\-") 409 }, { hash := 124, key := Value.int 124 411, val := Value.str (Str.ofString "\\|") 415 }, { hash := 94, key := Value.int 94 417, val := Value.str (Str.ofString "\\^") 421 }, { hash := 36, key := Value.int 36 423, val := Value.str (Str.ofString "\\$") 427 }, { hash := 92, key := Value.int 92 429, val := Value.str (Str.ofString "\\\\") 433 }, { hash := 46, key := Value.int 46 435, val := Value.str (Str.ofString "\\.") 439 }, { hash := 38, key := Value.int 38 441, val := Value.str (Str.ofString "\\&") 445 }, { hash := 126, key := Value.int 126 447, val := Value.str (Str.ofString "\\~") 451 }, { hash := 35, key := Value.int 35 453, val := Value.str (Str.ofString "\\#") 457 }, { hash := 32, key := Value.int 32 459, val := Value.str (Str.ofString "\\ ") 463 }, { hash := 9, key := Value.int 9 465, val := Value.str (Str.ofString "\\\t") 469 }, { hash := 10, key := Value.int 10 471, val := Value.str (Str.ofString "\\\n") 475 }, { hash := 13, key := Value.int 13 477, val := Value.str (Str.ofString "\\\x0d") 481 }, { hash := 11, key := Value.int 11 483, val := Value.str (Str.ofString "\\\x0b") 487 }, { hash := 12, key := Value.int 12 489, val := Value.str (Str.ofString "\\\x0c") 493 }] 24 }
noncomputable def fragK (P : Params) : Frag := [(3, k3 P), (51, k51 P), (52, k52 P), (75, k75 P), (76, k76 P), (82, k82 P)]
noncomputable abbrev addrK : List Addr := [3, 51, 52, 75, 76, 82]
theorem addr_frag (P : Params) : addrK = (fragK P).map (·.1) := rfl
end Mine

/-! ## HP0 -/
namespace Mine
/-! the top's heap at the cuts: behind the imports, behind the class, behind the table -/
noncomputable def dE (P : Params) (x : String) (t : Nat) (v : Value) : DictEntry := DictEntry.mk (PyData.keyHash P (Str.ofString x)) (Value.str (Str.ofString x) t) v
noncomputable abbrev vS (x : String) (t : Nat) : Value := Value.str (Str.ofString x) t
noncomputable def metD (k : Nat) : Dfn := ((dfn 3).body[k]?).elim dfnNil partOf
noncomputable def fnO (c : Value) (D : Dfn) (q : String) (g : Addr) (m cd : Value) : Obj := Obj.mk c none (Data.func (FuncData.mk D.name (Str.ofString q) D.params (FuncBody.stmts D.body) D.scope g [] .none .none .none m none cd .none 0)) #[]
noncomputable def g42 (P : Params) : Obj := Obj.mk (Value.type "dict") none (Data.dict #[dE P "builtins" 162 (Value.ref 4), dE P "__main__" 163 (Value.ref 5), dE P "_sre" 244 (Value.ref 12)] 3) #[]
noncomputable def g43 (P : Params) : Obj := Obj.mk Value.none none (Data.dict #[dE P "\x69mport.loaded._sre" 183 (Value.bool true), dE P "class._frozen_importlib.BuiltinImporter" 185 (Value.ref 14), dE P "watched.\x69mport" 206 (Value.ref 18), dE P "class._frozen_importlib.ModuleSpec" 216 (Value.ref 22), dE P "sys.modules.booked-epoch" 245 (Value.int 3 0), dE P "\x69mport.later-laid._sre" 270 (Value.bool true), dE P "watched.library" 272 (Value.ref 27), dE P "watched.library-objects" 0 (vS "\x0c" 0), dE P "watched.library-deep._sre" 273 (vS "\x04\x00\x00\x0b\x04\x00\x00\x0b\x04\x00\x00\x03\x04\x00\x00\x0b\x08\x04dict\x02" 0)] 9) #[]
noncomputable def g44 (P : Params) : Obj := Obj.mk (Value.type "dict") none (Data.dict #[dE P "__name__" 165 (vS "__main__" 164), dE P "__doc__" 166 Value.none, dE P "__package__" 167 Value.none, dE P "__loader__" 168 (Value.builtin "__main__.__loader__#opaque"), dE P "__spec__" 169 Value.none, dE P "__annotations__" 170 (Value.ref 6), dE P "__builtins__" 171 (Value.ref 4), dE P "__file__" 173 (vS "/claim/cut.py" 172), dE P "__cached__" 174 Value.none, dE P "_sre" 275 (Value.ref 12)] 10) #[]
noncomputable def g52 (P : Params) : Obj := Obj.mk (Value.type "dict") none (Data.dict #[dE P "__name__" 247 (vS "_sre" 246), dE P "__doc__" 248 Value.none, dE P "__package__" 250 (vS "" 249), dE P "__loader__" 251 (Value.builtin "off-the-table:_sre.__loader__:shared#opaque"), dE P "__spec__" 252 (Value.builtin "off-the-table:_sre.__spec__:shared#opaque"), dE P "compile" 253 (Value.builtin "_sre.compile"), dE P "template" 254 (Value.builtin "off-the-table:_sre.template:shared#opaque"), dE P "getcodesize" 255 (Value.builtin "off-the-table:_sre.getcodesize:shared#opaque"), dE P "ascii_iscased" 256 (Value.builtin "off-the-table:_sre.ascii_iscased:shared#opaque"), dE P "unicode_iscased" 257 (Value.builtin "off-the-table:_sre.unicode_iscased:shared#opaque"), dE P "ascii_tolower" 258 (Value.builtin "off-the-table:_sre.ascii_tolower:shared#opaque"), dE P "unicode_tolower" 259 (Value.builtin "off-the-table:_sre.unicode_tolower:shared#opaque"), dE P "MAGIC" 261 (Value.int 20230612 260), dE P "CODESIZE" 263 (Value.int 4 262), dE P "MAXREPEAT" 265 (Value.int 4294967295 264), dE P "MAXGROUPS" 267 (Value.int 1073741823 266), dE P "copyright" 269 (vS " SRE 2.2.2 Copyright (c) 1997-2002 by Secret Labs AB " 268)] 17) #[]
noncomputable def g53 : Obj := Obj.mk (Value.type "module") (some 11) Data.plain #[]
noncomputable def g54 (P : Params) : Obj := Obj.mk (Value.type "dict") none (Data.dict #[dE P "__module__" 189 (vS "_frozen_importlib" 186), dE P "__firstlineno__" 190 (Value.int 971 187), dE P "__doc__" 191 (Value.builtin "_frozen_importlib.BuiltinImporter.__doc__:str#opaque"), dE P "_ORIGIN" 192 (vS "built-in" 188), dE P "find_spec" 193 (Value.builtin "_frozen_importlib.BuiltinImporter.find_spec#opaque"), dE P "create_module" 194 (Value.builtin "_frozen_importlib.BuiltinImporter.create_module#opaque"), dE P "exec_module" 195 (Value.builtin "_frozen_importlib.BuiltinImporter.exec_module#opaque"), dE P "get_code" 196 (Value.builtin "_frozen_importlib.BuiltinImporter.get_code#opaque"), dE P "get_source" 197 (Value.builtin "_frozen_importlib.BuiltinImporter.get_source#opaque"), dE P "is_package" 198 (Value.builtin "_frozen_importlib.BuiltinImporter.is_package#opaque"), dE P "load_module" 199 (Value.builtin "_frozen_importlib.BuiltinImporter.load_module#opaque"), dE P "__static_attributes__" 200 (Value.ref 15), dE P "__dict__" 202 (Value.ref 16), dE P "__weakref__" 204 (Value.ref 17)] 14) #[]
noncomputable def g55 : Obj := Obj.mk (Value.type "type") none (Data.cls (ClassData.mk (Str.ofString "BuiltinImporter") [Value.type "object"] [Value.ref 14, Value.type "object"] 13 (Str.ofString "BuiltinImporter") true [] [] false none false)) #[]
noncomputable def g57 : Obj := Obj.mk (Value.type "getset_descriptor") none (Data.fields #[vS "__dict__" 201, Value.ref 14, Value.builtin "function.__dict__", Value.builtin "function.__dict__#set"]) #[]
noncomputable def g58 : Obj := Obj.mk (Value.type "getset_descriptor") none (Data.fields #[vS "__weakref__" 203, Value.ref 14, Value.builtin "ExceptionGroup.__weakref__", Value.none]) #[]
noncomputable def g59 : Obj := Obj.mk Value.none none (Data.seq #[Value.int 13 0, vS "\x06½\n__module__\x06º\x11_frozen_importlib\x06¾\x0f__firstlineno__\x04»\x00ϋ\x06¿\x07__doc__\t4_frozen_importlib.BuiltinImporter.__doc__:str#opaque\x06À\x07_ORIGIN\x06¼\x08built-in\x06Á\tfind_spec\t2_frozen_importlib.BuiltinImporter.find_spec#opaque\x06Â\x0dcreate_module\t6_frozen_importlib.BuiltinImporter.create_module#opaque\x06Ã\x0bexec_module\t4_frozen_importlib.BuiltinImporter.exec_module#opaque\x06Ä\x08get_code\t1_frozen_importlib.BuiltinImporter.get_code#opaque\x06Å\nget_source\t3_frozen_importlib.BuiltinImporter.get_source#opaque\x06Æ\nis_package\t3_frozen_importlib.BuiltinImporter.is_package#opaque\x06Ç\x0bload_module\t4_frozen_importlib.BuiltinImporter.load_module#opaque\x06È\x15__static_attributes__\x04\x00\x00\x0f\x06Ê\x08__dict__\x04\x00\x00\x10\x06Ì\x0b__weakref__\x04\x00\x00\x11" 0, Value.bool true, Value.bool true, vS "" 205, Value.int 21 0, vS "\x06ã\n__module__\x06Ù\x11_frozen_importlib\x06ä\x0f__firstlineno__\x04Ú\x00Ȳ\x06å\x07__doc__\t/_frozen_importlib.ModuleSpec.__doc__:str#opaque\x06æ\x08__init__\t,_frozen_importlib.ModuleSpec.__init__#opaque\x06ç\x08__repr__\t,_frozen_importlib.ModuleSpec.__repr__#opaque\x06è\x06__eq__\t*_frozen_importlib.ModuleSpec.__eq__#opaque\x06é\x06cached\t*_frozen_importlib.ModuleSpec.cached#opaque\x06ê\x06parent\t*_frozen_importlib.ModuleSpec.parent#opaque\x06ë\x0chas_location\t0_frozen_importlib.ModuleSpec.has_location#opaque\x06ì\x15__static_attributes__\x04\x00\x00\x17\x06î\x08__dict__\x04\x00\x00\x18\x06ð\x0b__weakref__\x04\x00\x00\x19\x06ñ\x08__hash__\x00" 0, Value.bool true, Value.bool true, vS "" 242] 1) #[]
noncomputable def g60 : Obj := Obj.mk (Value.type "list") none (Data.seq #[]) #[]
noncomputable def g61 (P : Params) : Obj := Obj.mk (Value.type "dict") none (Data.dict #[dE P "name" 208 (vS "_sre" 207), dE P "loader" 209 (Value.ref 14), dE P "origin" 210 (vS "built-in" 184), dE P "loader_state" 211 Value.none, dE P "submodule_search_locations" 212 Value.none, dE P "_uninitialized_submodules" 213 (Value.ref 19), dE P "_set_fileattr" 214 (Value.bool false), dE P "_cached" 215 Value.none, dE P "_initializing" 243 (Value.bool false)] 9) #[]
noncomputable def g62 (P : Params) : Obj := Obj.mk (Value.type "dict") none (Data.dict #[dE P "__module__" 227 (vS "_frozen_importlib" 217), dE P "__firstlineno__" 228 (Value.int 562 218), dE P "__doc__" 229 (Value.builtin "_frozen_importlib.ModuleSpec.__doc__:str#opaque"), dE P "__init__" 230 (Value.builtin "_frozen_importlib.ModuleSpec.__init__#opaque"), dE P "__repr__" 231 (Value.builtin "_frozen_importlib.ModuleSpec.__repr__#opaque"), dE P "__eq__" 232 (Value.builtin "_frozen_importlib.ModuleSpec.__eq__#opaque"), dE P "cached" 233 (Value.builtin "_frozen_importlib.ModuleSpec.cached#opaque"), dE P "parent" 234 (Value.builtin "_frozen_importlib.ModuleSpec.parent#opaque"), dE P "has_location" 235 (Value.builtin "_frozen_importlib.ModuleSpec.has_location#opaque"), dE P "__static_attributes__" 236 (Value.ref 23), dE P "__dict__" 238 (Value.ref 24), dE P "__weakref__" 240 (Value.ref 25), dE P "__hash__" 241 Value.none] 13) #[]
noncomputable def g63 : Obj := Obj.mk (Value.type "type") none (Data.cls (ClassData.mk (Str.ofString "ModuleSpec") [Value.type "object"] [Value.ref 22, Value.type "object"] 21 (Str.ofString "ModuleSpec") true [] [] false none false)) #[]
noncomputable def g64 : Obj := Obj.mk (Value.type "tuple") none (Data.seq #[vS "_cached" 219, vS "_set_fileattr" 220, vS "_uninitialized_submodules" 221, vS "loader" 222, vS "loader_state" 223, vS "name" 224, vS "origin" 225, vS "submodule_search_locations" 226]) #[]
noncomputable def g65 : Obj := Obj.mk (Value.type "getset_descriptor") none (Data.fields #[vS "__dict__" 237, Value.ref 22, Value.builtin "function.__dict__", Value.builtin "function.__dict__#set"]) #[]
noncomputable def g66 : Obj := Obj.mk (Value.type "getset_descriptor") none (Data.fields #[vS "__weakref__" 239, Value.ref 22, Value.builtin "ExceptionGroup.__weakref__", Value.none]) #[]
noncomputable def g67 : Obj := Obj.mk (Value.ref 22) (some 20) Data.plain #[]
noncomputable def g68 : Obj := Obj.mk Value.none none (Data.seq #[Value.int 11 0, Value.str (Str.mk #[6, 247, 8, 95, 95, 110, 97, 109, 101, 95, 95, 6, 246, 4, 95, 115, 114, 101, 6, 248, 7, 95, 95, 100, 111, 99, 95, 95, 0, 6, 250, 11, 95, 95, 112, 97, 99, 107, 97, 103, 101, 95, 95, 6, 249, 0, 6, 251, 10, 95, 95, 108, 111, 97, 100, 101, 114, 95, 95, 4, 0, 0, 14, 6, 252, 8, 95, 95, 115, 112, 101, 99, 95, 95, 4, 0, 0, 26, 6, 253, 7, 99, 111, 109, 112, 105, 108, 101, 9, 12, 95, 115, 114, 101, 46, 99, 111, 109, 112, 105, 108, 101, 6, 254, 8, 116, 101, 109, 112, 108, 97, 116, 101, 9, 13, 95, 115, 114, 101, 46, 116, 101, 109, 112, 108, 97, 116, 101, 6, 255, 11, 103, 101, 116, 99, 111, 100, 101, 115, 105, 122, 101, 9, 16, 95, 115, 114, 101, 46, 103, 101, 116, 99, 111, 100, 101, 115, 105, 122, 101, 6, 256, 13, 97, 115, 99, 105, 105, 95, 105, 115, 99, 97, 115, 101, 100, 9, 18, 95, 115, 114, 101, 46, 97, 115, 99, 105, 105, 95, 105, 115, 99, 97, 115, 101, 100, 6, 257, 15, 117, 110, 105, 99, 111, 100, 101, 95, 105, 115, 99, 97, 115, 101, 100, 9, 20, 95, 115, 114, 101, 46, 117, 110, 105, 99, 111, 100, 101, 95, 105, 115, 99, 97, 115, 101, 100, 6, 258, 13, 97, 115, 99, 105, 105, 95, 116, 111, 108, 111, 119, 101, 114, 9, 18, 95, 115, 114, 101, 46, 97, 115, 99, 105, 105, 95, 116, 111, 108, 111, 119, 101, 114, 6, 259, 15, 117, 110, 105, 99, 111, 100, 101, 95, 116, 111, 108, 111, 119, 101, 114, 9, 20, 95, 115, 114, 101, 46, 117, 110, 105, 99, 111, 100, 101, 95, 116, 111, 108, 111, 119, 101, 114, 6, 261, 5, 77, 65, 71, 73, 67, 4, 260, 0, 20230612, 6, 263, 8, 67, 79, 68, 69, 83, 73, 90, 69, 4, 262, 0, 4, 6, 265, 9, 77, 65, 88, 82, 69, 80, 69, 65, 84, 4, 264, 0, 4294967295, 6, 267, 9, 77, 65, 88, 71, 82, 79, 85, 80, 83, 4, 266, 0, 1073741823, 6, 269, 9, 99, 111, 112, 121, 114, 105, 103, 104, 116, 6, 268, 53, 32, 83, 82, 69, 32, 50, 46, 50, 46, 50, 32, 67, 111, 112, 121, 114, 105, 103, 104, 116, 32, 40, 99, 41, 32, 49, 57, 57, 55, 45, 50, 48, 48, 50, 32, 98, 121, 32, 83, 101, 99, 114, 101, 116, 32, 76, 97, 98, 115, 32, 65, 66, 32]) 0, Value.bool true, Value.bool false, vS "_sre" 271]) #[]
noncomputable def g71 : Obj := Obj.mk (Value.type "code") none (Data.fields #[vS "<module>" 277, vS "<module>" 278, vS "/claim/cut.py" 279, Value.int 1 0, Value.int 0 0, Value.int 0 0, Value.int 0 0, Value.int 0 0, Value.ref 28, Value.bool false, Value.int 276 0, Value.ref 29, Value.none, Value.none, Value.none, Value.none, Value.int 280 0, Value.int 1 0, vS "/claim/cut.py" 281]) #[]
noncomputable def g72 : Obj := Obj.mk (Value.type "frame") none Data.plain #[some (Value.ref 30), some (Value.ref 3), some (Value.ref 3), none, some (vS "__main__" 164), none, some (Value.ref 0)]
noncomputable def g75 (P : Params) : Obj := Obj.mk (Value.type "dict") none (Data.dict #[dE P "__name__" 165 (vS "re" 348), dE P "__doc__" 166 Value.none, dE P "__package__" 167 Value.none, dE P "__loader__" 168 (Value.builtin "__main__.__loader__#opaque"), dE P "__spec__" 169 Value.none, dE P "__annotations__" 170 (Value.ref 6), dE P "__builtins__" 171 (Value.ref 4), dE P "__file__" 173 (vS "/claim/cut.py" 172), dE P "__cached__" 174 Value.none, dE P "_sre" 275 (Value.ref 12), dE P "_wall" 288 (Value.ref 38), dE P "Entry" 347 (Value.ref 76)] 12) #[]
noncomputable def g76 : Obj := Obj.mk Value.none none (Data.fields #[Value.int 2 0, Value.int 0 0, Value.ref 37, Value.int 6 0, Value.int 0 0, Value.ref 44]) #[]
noncomputable def g79 : Obj := Obj.mk (Value.type "tuple") none (Data.seq #[vS "k" 285]) #[]
noncomputable def g81 : Obj := fnO .none (dfn 1) "_wall" 0 .none .none
noncomputable def g82 : Obj := Obj.mk (Value.type "code") none (Data.fields #[vS "_wall" 282, vS "_wall" 283, vS "/claim/cut.py" 284, Value.int 2 0, Value.int 1 0, Value.int 0 0, Value.int 0 0, Value.int 3 0, Value.ref 32, Value.bool true, Value.int 276 0, Value.ref 33, Value.none, Value.ref 34, Value.ref 35, Value.ref 36, Value.int 286 0, Value.int 2 0, vS "/claim/cut.py" 287]) #[]
noncomputable def g83 : Obj := fnO (.type "function") (dfn 1) "_wall" 3 (.str (Str.ofString "__main__") 164) (.ref 37)
noncomputable def g85 : Obj := Obj.mk (Value.type "builtin_function_or_method") none (Data.fields #[Value.builtin "type.__prepare__", Value.type "type"]) #[]
noncomputable def g86 (P : Params) : Obj := Obj.mk (Value.type "dict") none (Data.dict #[dE P "__module__" 298 (vS "cpy313.urllib.robotparser" 289), dE P "__qualname__" 300 (vS "Entry" 299), dE P "__firstlineno__" 302 (Value.int 6 301), dE P "__init__" 309 (Value.ref 52), dE P "__str__" 319 (Value.ref 59), dE P "applies_to" 327 (Value.ref 66), dE P "allowance" 335 (Value.ref 73), dE P "__static_attributes__" 340 (Value.ref 74)] 8) #[]
noncomputable def g88 : Obj := Obj.mk Value.none none (Data.fields #[Value.int 8 0, Value.int 4 0, Value.ref 51, Value.int 14 0, Value.int 4 0, Value.ref 58, Value.int 31 0, Value.int 4 0, Value.ref 65, Value.int 34 0, Value.int 4 0, Value.ref 72]) #[]
noncomputable def g89 : Obj := Obj.mk (Value.type "code") none (Data.fields #[vS "Entry" 293, vS "Entry" 294, vS "/claim/cut.py" 295, Value.int 6 0, Value.int 0 0, Value.int 0 0, Value.int 0 0, Value.int 0 0, Value.ref 42, Value.bool false, Value.int 276 0, Value.ref 43, Value.none, Value.none, Value.none, Value.none, Value.int 296 0, Value.int 6 0, vS "/claim/cut.py" 297]) #[]
noncomputable def g90 : Obj := Obj.mk (Value.type "frame") none Data.plain #[some (Value.ref 44), some (Value.ref 3), some (Value.ref 41), none, some (vS "cpy313.urllib.robotparser" 289), none, some (Value.ref 0)]
noncomputable def g93 : Obj := Obj.mk (Value.type "tuple") none (Data.seq #[vS "self" 306]) #[]
noncomputable def g95 : Obj := fnO .none (metD 0) "Entry.__init__" 0 .none .none
noncomputable def g96 : Obj := Obj.mk (Value.type "code") none (Data.fields #[vS "__init__" 303, vS "Entry.__init__" 304, vS "/claim/cut.py" 305, Value.int 8 0, Value.int 1 0, Value.int 0 0, Value.int 0 0, Value.int 3 0, Value.ref 46, Value.bool true, Value.int 276 0, Value.ref 47, Value.none, Value.ref 48, Value.ref 49, Value.ref 50, Value.int 307 0, Value.int 8 0, vS "/claim/cut.py" 308]) #[]
noncomputable def g97 : Obj := fnO (.type "function") (metD 0) "Entry.__init__" 3 (.str (Str.ofString "cpy313.urllib.robotparser") 289) (.ref 51)
noncomputable def g100 : Obj := Obj.mk (Value.type "tuple") none (Data.seq #[vS "self" 313, vS "ret" 314, vS "agent" 315, vS "rate" 316]) #[]
noncomputable def g102 : Obj := fnO .none (metD 1) "Entry.__str__" 0 .none .none
noncomputable def g103 : Obj := Obj.mk (Value.type "code") none (Data.fields #[vS "__str__" 310, vS "Entry.__str__" 311, vS "/claim/cut.py" 312, Value.int 14 0, Value.int 1 0, Value.int 0 0, Value.int 0 0, Value.int 3 0, Value.ref 53, Value.bool true, Value.int 276 0, Value.ref 54, Value.none, Value.ref 55, Value.ref 56, Value.ref 57, Value.int 317 0, Value.int 14 0, vS "/claim/cut.py" 318]) #[]
noncomputable def g104 : Obj := fnO (.type "function") (metD 1) "Entry.__str__" 3 (.str (Str.ofString "cpy313.urllib.robotparser") 289) (.ref 58)
noncomputable def g107 : Obj := Obj.mk (Value.type "tuple") none (Data.seq #[vS "self" 323, vS "useragent" 324]) #[]
noncomputable def g109 : Obj := fnO .none (metD 2) "Entry.applies_to" 0 .none .none
noncomputable def g110 : Obj := Obj.mk (Value.type "code") none (Data.fields #[vS "applies_to" 320, vS "Entry.applies_to" 321, vS "/claim/cut.py" 322, Value.int 31 0, Value.int 2 0, Value.int 0 0, Value.int 0 0, Value.int 3 0, Value.ref 60, Value.bool true, Value.int 276 0, Value.ref 61, Value.none, Value.ref 62, Value.ref 63, Value.ref 64, Value.int 325 0, Value.int 31 0, vS "/claim/cut.py" 326]) #[]
noncomputable def g111 : Obj := fnO (.type "function") (metD 2) "Entry.applies_to" 3 (.str (Str.ofString "cpy313.urllib.robotparser") 289) (.ref 65)
noncomputable def g114 : Obj := Obj.mk (Value.type "tuple") none (Data.seq #[vS "self" 331, vS "filename" 332]) #[]
noncomputable def g116 : Obj := fnO .none (metD 3) "Entry.allowance" 0 .none .none
noncomputable def g117 : Obj := Obj.mk (Value.type "code") none (Data.fields #[vS "allowance" 328, vS "Entry.allowance" 329, vS "/claim/cut.py" 330, Value.int 34 0, Value.int 2 0, Value.int 0 0, Value.int 0 0, Value.int 3 0, Value.ref 67, Value.bool true, Value.int 276 0, Value.ref 68, Value.none, Value.ref 69, Value.ref 70, Value.ref 71, Value.int 333 0, Value.int 34 0, vS "/claim/cut.py" 334]) #[]
noncomputable def g118 : Obj := fnO (.type "function") (metD 3) "Entry.allowance" 3 (.str (Str.ofString "cpy313.urllib.robotparser") 289) (.ref 72)
noncomputable def g119 : Obj := Obj.mk (Value.type "tuple") none (Data.seq #[vS "delay" 336, vS "req_rate" 337, vS "rulelines" 338, vS "useragents" 339]) #[]
noncomputable def g120 (P : Params) : Obj := Obj.mk (Value.type "dict") none (Data.dict #[dE P "__module__" 298 (vS "cpy313.urllib.robotparser" 289), dE P "__firstlineno__" 302 (Value.int 6 301), dE P "__init__" 309 (Value.ref 52), dE P "__str__" 319 (Value.ref 59), dE P "applies_to" 327 (Value.ref 66), dE P "allowance" 335 (Value.ref 73), dE P "__static_attributes__" 340 (Value.ref 74), dE P "__dict__" 342 (Value.ref 77), dE P "__weakref__" 344 (Value.ref 78), dE P "__doc__" 345 Value.none] 4) #[]
noncomputable def g121 : Obj := Obj.mk (Value.type "type") none (Data.cls (ClassData.mk (Str.ofString "Entry") [Value.type "object"] [Value.ref 76, Value.type "object"] 75 (Str.ofString "Entry") true [] [] false none false)) #[none, none, some (vS "Entry" 291), some (vS "Entry" 299), some (Value.builtin "object.__new__"), some (Value.bool true)]
noncomputable def g122 : Obj := Obj.mk (Value.type "getset_descriptor") none (Data.fields #[vS "__dict__" 341, Value.ref 76, Value.builtin "function.__dict__", Value.builtin "function.__dict__#set"]) #[]
noncomputable def g123 : Obj := Obj.mk (Value.type "getset_descriptor") none (Data.fields #[vS "__weakref__" 343, Value.ref 76, Value.builtin "ExceptionGroup.__weakref__", Value.none]) #[]
noncomputable def g124 : Obj := Obj.mk (Value.type "super") none (Data.fields #[Value.ref 76, Value.ref 76, Value.ref 76]) #[]
noncomputable def g125 : Obj := Obj.mk (Value.type "builtin_function_or_method") none (Data.fields #[Value.builtin "object.__init_subclass__", Value.ref 76]) #[]
noncomputable def g126 (P : Params) : Obj := Obj.mk (Value.type "dict") none (Data.dict #[dE P "__name__" 165 (vS "re" 348), dE P "__doc__" 166 Value.none, dE P "__package__" 167 Value.none, dE P "__loader__" 168 (Value.builtin "__main__.__loader__#opaque"), dE P "__spec__" 169 Value.none, dE P "__annotations__" 170 (Value.ref 6), dE P "__builtins__" 171 (Value.ref 4), dE P "__file__" 173 (vS "/claim/cut.py" 172), dE P "__cached__" 174 Value.none, dE P "_sre" 275 (Value.ref 12), dE P "_wall" 288 (Value.ref 38), dE P "Entry" 347 (Value.ref 76), dE P "_special_chars_map" 495 (Value.ref 82)] 13) #[]
noncomputable def g127 : Obj := Obj.mk (Value.type "bytes_iterator") none (Data.fields #[Value.none, Value.int 24 0]) #[]
noncomputable def g128 : Obj := Obj.mk (Value.type "dict") none (Data.dict #[DictEntry.mk 40 (Value.int 40 351) (vS "\\(" 355), DictEntry.mk 41 (Value.int 41 357) (vS "\\)" 361), DictEntry.mk 91 (Value.int 91 363) (vS "\\[" 367), DictEntry.mk 93 (Value.int 93 369) (vS "\\]" 373), DictEntry.mk 123 (Value.int 123 375) (vS "\\{" 379), DictEntry.mk 125 (Value.int 125 381) (vS "\\}" 385), DictEntry.mk 63 (Value.int 63 387) (vS "\\?" 391), DictEntry.mk 42 (Value.int 42 393) (vS "\\*" 397), DictEntry.mk 43 (Value.int 43 399) (vS "\\+" 403), DictEntry.mk 45 (Value.int 45 405) (vS "\\-" 409), DictEntry.mk 124 (Value.int 124 411) (vS "\\|" 415), DictEntry.mk 94 (Value.int 94 417) (vS "\\^" 421), DictEntry.mk 36 (Value.int 36 423) (vS "\\$" 427), DictEntry.mk 92 (Value.int 92 429) (vS "\\\\" 433), DictEntry.mk 46 (Value.int 46 435) (vS "\\." 439), DictEntry.mk 38 (Value.int 38 441) (vS "\\&" 445), DictEntry.mk 126 (Value.int 126 447) (vS "\\~" 451), DictEntry.mk 35 (Value.int 35 453) (vS "\\#" 457), DictEntry.mk 32 (Value.int 32 459) (vS "\\ " 463), DictEntry.mk 9 (Value.int 9 465) (vS "\\\t" 469), DictEntry.mk 10 (Value.int 10 471) (vS "\\\n" 475), DictEntry.mk 13 (Value.int 13 477) (vS "\\\x0d" 481), DictEntry.mk 11 (Value.int 11 483) (vS "\\\x0b" 487), DictEntry.mk 12 (Value.int 12 489) (vS "\\\x0c" 493)] 24) #[]
noncomputable def g129 : Obj := Obj.mk (Value.type "dict") none (Data.dict #[] 2) #[]
noncomputable def g131 : Obj := Obj.mk (Value.type "StopIteration") none (Data.fields #[Value.ref 84, Value.none, Value.none, Value.none, Value.bool false, Value.none]) #[]
noncomputable def g349 (P : Params) : Obj := Obj.mk (Value.type "dict") none (Data.dict #[dE P "__name__" 247 (vS "_sre" 246), dE P "__doc__" 248 Value.none, dE P "__package__" 250 (vS "" 249), dE P "__loader__" 251 (Value.ref 14), dE P "__spec__" 252 (Value.ref 26), dE P "compile" 253 (Value.builtin "_sre.compile"), dE P "template" 254 (Value.builtin "_sre.template"), dE P "getcodesize" 255 (Value.builtin "_sre.getcodesize"), dE P "ascii_iscased" 256 (Value.builtin "_sre.ascii_iscased"), dE P "unicode_iscased" 257 (Value.builtin "_sre.unicode_iscased"), dE P "ascii_tolower" 258 (Value.builtin "_sre.ascii_tolower"), dE P "unicode_tolower" 259 (Value.builtin "_sre.unicode_tolower"), dE P "MAGIC" 261 (Value.int 20230612 260), dE P "CODESIZE" 263 (Value.int 4 262), dE P "MAXREPEAT" 265 (Value.int 4294967295 264), dE P "MAXGROUPS" 267 (Value.int 1073741823 266), dE P "copyright" 269 (vS " SRE 2.2.2 Copyright (c) 1997-2002 by Secret Labs AB " 268)] 17) #[]
noncomputable def objsI (P : Params) : List Obj := [boot_o_0 P, g42 P, g43 P, g44 P, boot_o_4 P, boot_o_5 P, boot_o_6 P, boot_o_7 P, boot_o_8 P, boot_o_9 P, boot_o_10 P, g349 P, g53, g54 P, g55, boot_o_7 P, g57, g58, g59, g60, g61 P, g62 P, g63, g64, g65, g66, g67, g68]
noncomputable def objs0 (P : Params) : List Obj := [boot_o_0 P, g42 P, g43 P, g44 P, boot_o_4 P, boot_o_5 P, boot_o_6 P, boot_o_7 P, boot_o_8 P, boot_o_9 P, boot_o_10 P, g52 P, g53, g54 P, g55, boot_o_7 P, g57, g58, g59, g60, g61 P, g62 P, g63, g64, g65, g66, g67, g68]
noncomputable def objsA (P : Params) : List Obj := [boot_o_0 P, g42 P, g43 P, g44 P, boot_o_4 P, boot_o_5 P, boot_o_6 P, boot_o_7 P, boot_o_8 P, boot_o_9 P, boot_o_10 P, g52 P, g53, g54 P, g55, boot_o_7 P, g57, g58, g59, g60, g61 P, g62 P, g63, g64, g65, g66, g67, g68, boot_o_7 P, boot_o_8 P, g71, g72]
noncomputable def objs1 (P : Params) : List Obj := [boot_o_0 P, g42 P, g43 P, g75 P, boot_o_4 P, boot_o_5 P, boot_o_6 P, boot_o_7 P, boot_o_8 P, boot_o_9 P, boot_o_10 P, g52 P, g53, g54 P, g55, boot_o_7 P, g57, g58, g59, g60, g61 P, g62 P, g63, g64, g65, g66, g67, g68, boot_o_7 P, g76, g71, g72, boot_o_7 P, boot_o_8 P, g79, boot_o_7 P, g81, g82, g83, boot_o_7 P, g85, g86 P, boot_o_7 P, g88, g89, g90, boot_o_7 P, boot_o_8 P, g93, boot_o_7 P, g95, g96, g97, boot_o_7 P, boot_o_8 P, g100, boot_o_7 P, g102, g103, g104, boot_o_7 P, boot_o_8 P, g107, boot_o_7 P, g109, g110, g111, boot_o_7 P, boot_o_8 P, g114, boot_o_7 P, g116, g117, g118, g119, g120 P, g121, g122, g123, g124, g125]
noncomputable def objs2 (P : Params) : List Obj := [boot_o_0 P, g42 P, g43 P, g126 P, boot_o_4 P, boot_o_5 P, boot_o_6 P, boot_o_7 P, boot_o_8 P, boot_o_9 P, boot_o_10 P, g52 P, g53, g54 P, g55, boot_o_7 P, g57, g58, g59, g60, g61 P, g62 P, g63, g64, g65, g66, g67, g68, boot_o_7 P, g76, g71, g72, boot_o_7 P, boot_o_8 P, g79, boot_o_7 P, g81, g82, g83, boot_o_7 P, g85, g86 P, boot_o_7 P, g88, g89, g90, boot_o_7 P, boot_o_8 P, g93, boot_o_7 P, g95, g96, g97, boot_o_7 P, boot_o_8 P, g100, boot_o_7 P, g102, g103, g104, boot_o_7 P, boot_o_8 P, g107, boot_o_7 P, g109, g110, g111, boot_o_7 P, boot_o_8 P, g114, boot_o_7 P, g116, g117, g118, g119, g120 P, g121, g122, g123, g124, g125, g127, g128, g129, boot_o_7 P, g131]
end Mine

/-! ## HP1 -/
namespace Mine
noncomputable abbrev pw : Program := PySem.Challenge.pw_in0169_01
noncomputable abbrev rowL : OpenRow := PySem.Challenge.rw_in0169_01.row
noncomputable def viewP : Program := { pw with main := { pw.main with body := [0, 1, 3, 5, 6, 8, 9, 11, 12, 13, 14, 16, 17, 18, 19, 20, 22, 23, 24, 25, 26].filterMap fun i => pw.main.body[i]? } }
noncomputable abbrev looseN : List Str := [Str.ofString "_special_chars_map", Str.ofString "_twin_re_1"]
noncomputable abbrev hookL : Hook := kHook fragK addrK addr_frag
noncomputable def XtP (s : Shared) : Bool := xlAt viewP [] s && recOk rowL.toRowW.records s

/-! the top in pieces: the opening; the class; the table; the rest -/
noncomputable abbrev topB : List Stmt := behindTheImports pw
noncomputable def topE : Env := { scope := pw.main.scope, locals := mainNs, globals := mainNs, cells := [], code := .ref 30, frame := some 31 }
noncomputable abbrev topC : Code := .body topB topE
noncomputable abbrev stA : List Stmt := topB.take 4
noncomputable abbrev stB : List Stmt := (topB.drop 4).take 1
noncomputable abbrev stC : List Stmt := (topB.drop 4).drop 1
abbrev p0 : Pos := ⟨0, 0, 0, 0⟩
noncomputable abbrev sh (l : List Obj) (t : Nat) (os : OsState) : Shared := ⟨{ objs := ⟨l⟩ }, #[], {}, t, os⟩
noncomputable abbrev S0 (w : World) (os : OsState) : Shared := sh (objs0 w.params) 276 os
noncomputable abbrev SA (w : World) (os : OsState) : Shared := sh (objsA w.params) 282 os
noncomputable abbrev S1 (w : World) (os : OsState) : Shared := sh (objs1 w.params) 350 os
noncomputable abbrev S2 (w : World) (os : OsState) : Shared := sh (objs2 w.params) 496 os
noncomputable abbrev annL : Option Value := some (.ref 6)
theorem topImp (w : World) : importEnds treeTable (opening pw) w 900 (start (opening pw)).1 (start (opening pw)).2 = some (sh (objsI w.params) 276 (start (opening pw)).1.os) := by kernel_rfl
end Mine

/-! ## HP1b -/
namespace Mine
theorem topFence (w : World) : (fun os => (fenceModules? pw (sh (objsI w.params) 276 os)).map (fun s => (s.heap, s.gens, s.drawn, s.toks))) = fun _ => some ((S0 w default).heap, #[], {}, 276) := by kernel_rfl
end Mine

/-! ## HP2 -/
namespace Mine
theorem topSize (w : World) : ((S0 w default).heap.isNs mainGlobals, (S0 w default).heap.objs.size, (S0 w default).heap.nsMap mainGlobals "__annotations__") = (true, 28, annL) := by kernel_rfl
theorem topPre (w : World) (os : OsState) : topGo treeTable pw w 28 annL 12 (S0 w os) (topStub pw) = some (SA w os, ⟨denote treeTable topC, topC, p0, [topFrame p0]⟩) := by kernel_rfl
theorem topBlock (w : World) (os : OsState) : segRun treeTable pw w 28 annL 1 1 (SA w os) (blockOf topB topE topC p0 [topFrame p0]) = some (.next, SA w os, topC, p0) := by kernel_rfl
theorem topA (w : World) (os : OsState) : segRun treeTable pw w 28 annL 1 370 (SA w os) (piecesOf stA topE topC p0 [topFrame p0]) = some (.next, S1 w os, topC, ⟨36, 0, 36, 8⟩) := by kernel_rfl
end Mine

/-! ## HP3 -/
namespace Mine
noncomputable abbrev SegB (w : World) : Prop := (fun os => segRun treeTable pw w 28 annL 1 1253 (S1 w os) (piecesOf stB topE topC ⟨36, 0, 36, 8⟩ [topFrame p0])) = fun os => some (.next, S2 w os, topC, ⟨37, 0, 37, 18⟩)
theorem topB1 (w : World) : SegB ((w.withFollow "special-get-raises" false).withFollow "comprehension-iter-twice" false) := by kernel_rfl
theorem topB2 (w : World) : SegB ((w.withFollow "special-get-raises" true).withFollow "comprehension-iter-twice" false) := by kernel_rfl
theorem topB3 (w : World) : SegB ((w.withFollow "special-get-raises" false).withFollow "comprehension-iter-twice" true) := by kernel_rfl
theorem topB4 (w : World) : SegB ((w.withFollow "special-get-raises" true).withFollow "comprehension-iter-twice" true) := by kernel_rfl
theorem topTab (w : World) : SegB w := byRow2 "comprehension-iter-twice" (byRow2 "special-get-raises" topB1 topB2) (byRow2 "special-get-raises" topB3 topB4) w
end Mine

/-! ## HP4 -/
namespace Mine
noncomputable def topSeen (w : World) (s : Shared) := (staticsOk (importedModules pw.main.body) (S0 w default).heap s.heap && namesBound pw s.heap && gensDone s && laidKept (S0 w default).heap s.heap, openSeen viewP looseN (importedModules pw.main.body) XtP true s, Hook.obs hookL s)
theorem topRest (w : World) (os : OsState) : (topRun treeTable pw w 28 annL 637 (S2 w os) (restOf stC topE topC ⟨37, 0, 37, 18⟩ [topFrame p0])).map (topSeen w) = some (true, openGood viewP looseN, Hook.val hookL w) := by kernel_rfl
end Mine

/-! ## HP5 -/
namespace Mine
theorem topOpen (w : World) : (fencedOpening treeTable pw w 4634).map (fun s => (s.heap, s.gens, s.drawn, s.toks)) = some ((S0 w default).heap, #[], {}, 276) :=
  open_cut (He := fun P => { objs := ⟨objsI P⟩ }) (H₀ := fun P => { objs := ⟨objs0 P⟩ }) topImp rfl topFence w
theorem topSplit : topB = stA ++ (stB ++ stC) := by rw [List.take_append_drop, List.take_append_drop]
theorem topRan (w : World) (os : OsState) : ∃ r, topRun treeTable pw w 28 annL (12 + (1 + (370 + (1253 + 637)))) (S0 w os) (topStub pw) = some r ∧ topSeen w r = (true, openGood viewP looseN, Hook.val hookL w) :=
  (Option.map_eq_some_iff.mp (topRest w os)).elim fun r h => ⟨r, top_chain topSplit (topPre w os) (topBlock w os) (topA w os) (congrFun (topTab w) os) h.1, h.2⟩
theorem head_left : LeftO pw viewP looseN XtP (Hook.obs hookL) (Hook.val hookL) 4634 :=
  left_cut (H₀ := fun P => { objs := ⟨objs0 P⟩ }) (M := 12 + (1 + (370 + (1253 + 637)))) (K := 2361) rfl topOpen topSize topRan
theorem saidLooks : looksOpen (PySem.Challenge.rw_in0169_01).row.prog = true := by kernel_rfl
theorem saidRow : (PySem.Challenge.rw_in0169_01).row.wellSaid = true := by
  unfold OpenRow.wellSaid OpenRow.partSaid
  rw [saidLooks]
  kernel_rfl
theorem said : PySem.Challenge.rw_in0169_01.wellSaid = true := by
  unfold OpenLaw.wellSaid
  rw [saidRow]
  kernel_rfl
end Mine

/-! ## W7 -/
namespace Mine
section
variable {prog : Program} {w : World} {B : Heap → Prop} {mg mb : Str → Option Value} {fa : Nat → Addr} {d : Nat} {c : Cx} {σ : St}

theorem fdiv2 (a : Int) : a.fdiv 2 = a / 2 := Int.fdiv_eq_ediv_of_nonneg a (by decide)
theorem BinR.shr1 {a : Int} : BinR prog w .RShift (.int a) (.int 1) (.int (a.fdiv 2)) := by
  rintro A s _ _ Q E _ ⟨t, rfl⟩ ⟨u, rfl⟩ h
  exact rshift_int (by decide) (h _ _ _ Sub.rfl ⟨_, rfl⟩)
theorem BinR.mul {a b : Int} (h : -1000000000 ≤ a ∧ a ≤ 1000000000) : BinR prog w .Mult (.int a) (.int b) (.int (a * b)) := by
  rintro A s _ _ Q E _ ⟨t, rfl⟩ ⟨u, rfl⟩ k
  exact PyProof.Rows.mul_int (k _ _ _ Sub.rfl ⟨_, rfl⟩) (IntMulOk.of_left (intBits_le_64 (by lia) (by lia)))
theorem mapIdx {α β : Type} (f : α → β) (ys : List α) (k : Nat) (h : k < ys.length) (i : Int) (hi : i = k) : (ys.map f)[i.toNat]? = some (f ys[k]) := by
  subst hi; simp [List.getElem?_eq_getElem h]

/-! methods of built-in types -/
noncomputable def RecvT (prog : Program) (w : World) (c : Cx) (σ : St) (p : PV) (T : String) : Prop :=
  ∀ (h0 : Heap) (s : Shared) (v : Value), Rel prog w c h0 σ s.heap → VR s.heap p v → s.TypeIs v T ∧ (∀ a, v = .ref a → ∃ ob, s.heap.get? a = some ob ∧ ob.dict = none)
theorem RecvT.str {x : List Nat} : RecvT prog w c σ (.str x) "str" := by
  rintro h0 s _ R ⟨t, rfl⟩
  exact ⟨typeIs_str _ _ _, fun a e => by cases e⟩
theorem RecvT.lst {a : Addr} {xs : List PV} (hm : (a, MO.lst xs) ∈ σ.mem) : RecvT prog w c σ (.ref a) "list" := by
  rintro h0 s _ R rfl
  obtain ⟨vs, n, e, -⟩ := (R.mem.at_ _ hm).1
  exact ⟨⟨_, e, rfl⟩, fun a' q => by cases q; exact ⟨_, e, rfl⟩⟩
theorem RecvT.set {a : Addr} {S : Int → Bool} {n : Nat} (hm : (a, MO.set S n) ∈ σ.mem) : RecvT prog w c σ (.ref a) "set" := by
  rintro h0 s _ R rfl
  obtain ⟨o, es, ep, t, e, x, -⟩ := (R.mem.at_ _ hm).1
  exact ⟨⟨_, e, x.1⟩, fun a' q => by cases q; exact ⟨_, e, x.2.1⟩⟩

theorem EvM.meth {o : Expr} {name : Str} {ap pos : Pos} {es : List Expr} {T id : String} {po : PV} {Pa : List PV → Ledger → Prop} {P : PV → Ledger → Prop} (ho : EvE prog w B d c σ o po) (hT : RecvT prog w c σ po T) (PA : PlainAttrs T) (sl : Slot T name id)
    (ty : typeOf (.builtin id) = pure (.type "method_descriptor")) (ha : EvMs prog w B d c σ es Pa) (hc : ∀ pvs m, Pa pvs m → CallR prog w B d c ⟨σ.vars, m⟩ (.builtin id) (po :: pvs) P)
    (hb : attributeBase o name c.env (eval o c.env) = eval o c.env := by rfl) (hp : (Pos.endLine ap == Pos.line pos) = true := by rfl)
    (hf : ∀ pos env, (((backTo pos (starEach es env)).all (!·.1)) && (backToKw pos (keywordEach [] env)).all (·.1.isSome) && decide (es.length + ([] : List Keyword).length + (if ([] : List Keyword).isEmpty then 0 else 1) < 30)) = true := by intro _ _; rfl)
    (hpl : ∀ pos env, (backTo pos (starEach es env)).any (·.1) = false := by intro _ _; rfl) : EvM prog w B d c σ (.Call (.Attribute o name ap) es [] pos) P :=
  fun h0 A s Q E b ok R k => wpAny_Call_method hb (hf _ _) hp PA sl ty (ho h0 A s _ E b ok R fun v h1 t1 s1 r1 => by
    obtain ⟨t1', t2'⟩ := hT h0 { s with heap := h1, toks := t1 } v (R.sub s1) r1
    refine ⟨t1', t2', Calls.callWith_builtin (hpl _ _) (evalArgsM (hpl _ _) (ha h0 A _ pos _ E b ok (R.sub s1) fun pvs m vs h2 t2 p hs R2 vrs => ?_))⟩
    exact hc pvs m p h0 A _ (v :: vs) Q E b ok R2 ⟨r1.hsub hs, vrs⟩ fun pv m' v h' tk p' hs' R' vr => k pv m' v h' tk p' ((s1.hard.trans hs).trans hs') R' vr)
theorem EvE.meth {o : Expr} {name : Str} {ap pos : Pos} {es : List Expr} {T id : String} {po pv : PV} {ps : List PV} (ho : EvE prog w B d c σ o po) (hT : RecvT prog w c σ po T) (PA : PlainAttrs T) (sl : Slot T name id)
    (ty : typeOf (.builtin id) = pure (.type "method_descriptor")) (ha : EvAs prog w B d c σ es ps) (hc : CallP prog w d c σ (.builtin id) (po :: ps) pv)
    (hb : attributeBase o name c.env (eval o c.env) = eval o c.env := by rfl) (hp : (Pos.endLine ap == Pos.line pos) = true := by rfl)
    (hf : ∀ pos env, (((backTo pos (starEach es env)).all (!·.1)) && (backToKw pos (keywordEach [] env)).all (·.1.isSome) && decide (es.length + ([] : List Keyword).length + (if ([] : List Keyword).isEmpty then 0 else 1) < 30)) = true := by intro _ _; rfl)
    (hpl : ∀ pos env, (backTo pos (starEach es env)).any (·.1) = false := by intro _ _; rfl) : EvE prog w B d c σ (.Call (.Attribute o name ap) es [] pos) pv :=
  fun h0 A s Q E b ok R k => wpAny_Call_method hb (hf _ _) hp PA sl ty (ho h0 A s _ E b ok R fun v h1 t1 s1 r1 => by
    obtain ⟨t1', t2'⟩ := hT h0 { s with heap := h1, toks := t1 } v (R.sub s1) r1
    refine ⟨t1', t2', Calls.callWith_builtin (hpl _ _) (evalArgsM (hpl _ _) (ha h0 A _ pos _ E b ok (R.sub s1) fun vs h2 t2 s2 vrs => ?_))⟩
    exact hc h0 A _ (v :: vs) Q E ok ((R.sub s1).sub s2) ⟨r1.hsub s2.hard, vrs⟩ fun v h' tk s' r' => k v h' tk ((s1.trans s2).trans s') r')

/-- xs.pop() -/
theorem CallR.pop {a : Addr} {xs : List PV} {pv : PV} {m' : Ledger} {P : PV → Ledger → Prop} (p : Put a (.lst (xs ++ [pv])) (.lst xs) σ.mem m') (hl : xs.length < 16777216) (h : P pv m') : CallR prog w B d c σ (.builtin "list.pop") [.ref a] P := by
  intro h0 A s vals Q E b ok R r k
  revert vals; refine VRs.v ?_
  · skip
    obtain ⟨vs, n, e, r⟩ := (R.mem.at_ _ p.mem).1
    have hlen := r.length
    simp only [Array.length_toList, List.length_append, List.length_singleton] at hlen
    obtain ⟨v, ev, rv⟩ := r.get (i := xs.length) (p := pv) (by simp)
    have hy : vs[vs.size - 1]? = some v := by rw [hlen]; simpa using ev
    refine call_meets F.slot_list_pop ⟨_, e, rfl⟩ F.entry_list_pop (F.args_list_pop_1 _) (MeetsSeq.list_pop_last a vs n v hy (by show vs.size ≤ 2 ^ 24; lia)) ⟨e, ?_⟩
    obtain ⟨hh, R'⟩ := R.put p (h' := s.heap.update a (Obj.mapSeq fun xs => xs.eraseIdxIfInBounds (vs.size - 1))) (fun b o q e => (Heap.get?_update_ne _ _ _ _ q).trans e) (fun hh => by
      have z := IsL.update (h := s.heap) (l := a) (items := vs) (n := n) e (fun xs => xs.eraseIdxIfInBounds (vs.size - 1))
      refine ⟨_, _, z, ?_⟩
      have t := (r.hsub hh).take xs.length
      rw [List.take_left] at t
      have e2 : (vs.eraseIdxIfInBounds (vs.size - 1)).toList = vs.toList.take xs.length := by
        rw [Array.toList_eraseIdxIfInBounds, List.eraseIdx_eq_take_drop_succ]
        rw [hlen, Nat.add_sub_cancel, List.drop_eq_nil_of_le (by simp [hlen]), List.append_nil]
      rw [e2]; exact t)
    exact k pv m' v _ s.toks h hh R' (rv.hsub hh)
theorem EvM.pop {o : Expr} {ap pos : Pos} {a : Addr} {xs : List PV} {pv : PV} {m' : Ledger} {P : PV → Ledger → Prop} (ho : EvE prog w B d c σ o (.ref a)) (p : Put a (.lst (xs ++ [pv])) (.lst xs) σ.mem m') (hl : xs.length < 16777216) (h : P pv m')
    (hb : attributeBase o (Str.ofString "pop") c.env (eval o c.env) = eval o c.env := by rfl) (hp : (Pos.endLine ap == Pos.line pos) = true := by rfl) : EvM prog w B d c σ (.Call (.Attribute o (Str.ofString "pop") ap) [] [] pos) P :=
  EvM.meth ho (RecvT.lst p.mem) F.plainAttrs_list F.slot_list_pop F.type_list_pop (EvAs.nil.ms (P := fun pvs m => pvs = [] ∧ m = σ.mem) ⟨rfl, rfl⟩) (fun _ _ q => by rw [q.1, q.2]; exact CallR.pop p hl h) hb hp
end
end Mine

/-! ## W8 -/
namespace Mine
section
variable {prog : Program} {w : World} {B : Heap → Prop} {mg mb : Str → Option Value} {fa : Nat → Addr} {d : Nat} {c : Cx} {σ : St}

theorem Rel.down {g h0 h : Heap} (R : Rel prog w c g σ h) (s : Sub h0 g) : Rel prog w c h0 σ h where
  keep := s.trans R.keep
  vars := R.vars
  mem := ⟨fun p hp => ⟨(R.mem.at_ p hp).1, by
    cases q : h0.get? p.1 with
    | none => rfl
    | some o => have := (R.mem.at_ p hp).2; rw [s _ _ q] at this; cases this⟩, R.mem.nd⟩
  loc := R.loc
  locN := R.locN
  locF := by
    cases q : h0.get? c.env.locals with
    | none => rfl
    | some o => have := R.locF; rw [s _ _ q] at this; cases this
  cells := R.cells
  cellF := fun e x a ha => by
    cases q : h0.get? a with
    | none => rfl
    | some o => have := R.cellF e x a ha; rw [s _ _ q] at this; cases this


noncomputable def cellsOf (c : Cx) : List Addr := c.env.cells.filterMap fun p => c.env.cells.lookup p.1
theorem mem_cellsOf {c : Cx} {a : Addr} : a ∈ cellsOf c ↔ ∃ x, c.env.cells.lookup x = some a := by
  unfold cellsOf
  rw [List.mem_filterMap]
  constructor
  · rintro ⟨p, _, e⟩; exact ⟨_, e⟩
  · rintro ⟨x, e⟩; exact ⟨(x, a), mem_of_lookup e, e⟩

noncomputable def hid (c : Cx) (m : Ledger) : List Addr := c.env.locals :: ((if c.rw then cellsOf c else []) ++ m.map (·.1))
theorem Rel.rebase {h0 h : Heap} (R : Rel prog w c h0 σ h) : Rel prog w c (hideAll h (hid c σ.mem)) σ h ∧ Sub h0 (hideAll h (hid c σ.mem)) := by
  have gs : Sub (hideAll h (hid c σ.mem)) h := fun x o e => of_hideAll _ e
  refine ⟨⟨gs, R.vars, ⟨fun p hp => ⟨(R.mem.at_ p hp).1, hideAll_none _ (List.mem_cons_of_mem _ (List.mem_append_right _ (List.mem_map_of_mem hp)))⟩, R.mem.nd⟩, R.loc, R.locN, hideAll_none _ List.mem_cons_self, R.cells, fun e x a ha => hideAll_none _ (List.mem_cons_of_mem _ (List.mem_append_left _ ?_))⟩, fun x o e => hideAll_get _ (R.keep x o e) fun q => ?_⟩
  · rw [if_pos e]
    exact mem_cellsOf.mpr ⟨x, ha⟩
  · rcases List.mem_cons.mp q with q | q
    · rw [q, R.locF] at e; cases e
    · rcases List.mem_append.mp q with q | q
      · by_cases hr : c.rw = true
        · rw [if_pos hr] at q
          obtain ⟨y, hy⟩ := mem_cellsOf.mp q
          have z := R.cellF hr y x hy
          rw [z] at e; cases e
        · rw [if_neg hr] at q; cases q
      · obtain ⟨p, hp, rfl⟩ := List.mem_map.mp q
        rw [(R.mem.at_ p hp).2] at e; cases e

theorem Rel.hsub_of {h0 h h' : Heap} (R : Rel prog w c h0 σ h) (k : Sub (hideAll h (hid c σ.mem)) h') : HSub h h' := fun b o hb e => k b o (hideAll_get _ e fun q => by
  rcases List.mem_cons.mp q with q | q
  · obtain ⟨m, o', _, _, e', hd, _⟩ := R.loc
    rw [q, e'] at e; cases e
    exact notHard_dict hd hb
  · rcases List.mem_append.mp q with q | q
    · by_cases hr : c.rw = true
      · rw [if_pos hr] at q
        obtain ⟨y, hy⟩ := mem_cellsOf.mp q
        obtain ⟨⟨v, o', e', hd⟩, -⟩ := R.cells y b hy
        rw [e'] at e; cases e
        exact notHard_cell hd hb
      · rw [if_neg hr] at q; cases q
    · obtain ⟨p, hp, rfl⟩ := List.mem_map.mp q
      obtain ⟨o', e', n⟩ := (R.mem.at_ p hp).1.soft
      rw [e'] at e; cases e
      exact n hb)

/-- places that the frame and the ledger do not hold -/
noncomputable def Off (c : Cx) (m : Ledger) (fp : List Addr) : Prop := ∀ b ∈ fp, b ≠ c.env.locals ∧ (∀ x a, c.env.cells.lookup x = some a → b ≠ a) ∧ b ∉ m.map (·.1)
theorem Off.nhid {m : Ledger} {fp : List Addr} (x : Off c m fp) {b : Addr} (hb : b ∈ fp) : b ∉ hid c m := by
  obtain ⟨e1, e2, e3⟩ := x b hb
  intro q
  rcases List.mem_cons.mp q with q | q
  · exact e1 q
  · rcases List.mem_append.mp q with q | q
    · by_cases hr : c.rw = true
      · rw [if_pos hr] at q
        obtain ⟨y, hy⟩ := mem_cellsOf.mp q
        exact e2 y b hy rfl
      · rw [if_neg hr] at q; cases q
    · exact e3 q

/-- an iterator laid, what it reads lent out of the ledger -/
structure IterOk (prog : Program) (w : World) (c : Cx) (A : Around) (target : Expr) (h0 : Heap) (σ0 : St) (extra : Ledger) (n : Nat) (it : Nat → PV) (I : Addr) (h : Heap) (fp wr : List Addr) (Pi : Nat → Value → Prop) (Si : Nat → Heap → Prop) : Prop where
  rel : Rel prog w c h0 σ0 h
  ex : ∀ p ∈ extra, MR prog w h p.1 p.2 ∧ h0.get? p.1 = none ∧ p.1 ∈ fp ∧ p.1 ∉ wr
  exnd : (extra.map (·.1)).Nodup
  walk : Walks prog w A I fp wr n Pi Si
  st : Si 0 h
  off : Off c σ0.mem fp
  lv : ∀ b ∈ fp, ∃ o, h.get? b = some o
  wrN : ∀ b ∈ wr, h0.get? b = none
  live : ∀ i h, Si i h → ∀ b ∈ wr, ∃ o, h.get? b = some o ∧ ¬ Hard o
  vr : ∀ i v h', Pi i v → HSub h h' → VR h' (it i) v
  go : ∀ i v (s : Shared) (Q : Unit → Shared → Prop) (E : Value → Shared → Prop), Si i s.heap → Q () s → wpAny (model prog w) A (letOwnedTupleGo target (.ref I) v) Q E s

noncomputable def IterR (prog : Program) (w : World) (B : Heap → Prop) (d : Nat) (c : Cx) (σ : St) (target iter : Expr) (σ0 : St) (extra : Ledger) (n : Nat) (it : Nat → PV) : Prop :=
  ∀ (h0 : Heap) (A : Around) (s : Shared) (Q E : Value → Shared → Prop), B h0 → OkA d A → Rel prog w c h0 σ s.heap →
    (∀ I h' tk fp wr Pi Si, HSub s.heap h' → IterOk prog w c A target h0 σ0 extra n it I h' fp wr Pi Si → Q (.ref I) { s with heap := h', toks := tk }) → wpAny (model prog w) A (eval iter c.env) (fun x s₁ => wpAny (model prog w) A (pyIter x) Q E s₁) E s

noncomputable def AsgR (prog : Program) (w : World) (B : Heap → Prop) (d : Nat) (c : Cx) (σ : St) (target : Expr) (p : PV) (σ1 : St) : Prop :=
  ∀ (h0 : Heap) (A : Around) (s : Shared) (v : Value) (Q : Unit → Shared → Prop) (E : Value → Shared → Prop), B h0 → OkA d A → Rel prog w c h0 σ s.heap → VR s.heap p v →
    (∀ h' tk, HSub s.heap h' → Rel prog w c h0 σ1 h' → Q () { s with heap := h', toks := tk }) → wpAny (model prog w) A (assign target c.env v) Q E s

theorem AsgR.name {x : Str} {px : Pos} {p : PV} (k : Nat) (C : c.Ok) (hrw : c.rw = true) (hk : c.names[k]? = some x) : AsgR prog w B d c σ (.Name x px) p ⟨σ.vars.set k p, σ.mem⟩ :=
  fun h0 A s v Q E b ok R vr q => wpAny_assign_Name (storeVar C hrw R hk vr q)

/-- between the turns of a loop -/
structure Mid (prog : Program) (w : World) (c : Cx) (h0 h1 : Heap) (σ : St) (extra : Ledger) (fp wr : List Addr) (h : Heap) : Prop where
  rel : Rel prog w c h0 σ h
  hs : HSub h1 h
  ke : ∀ p ∈ extra, ∀ o, h1.get? p.1 = some o → h.get? p.1 = some o
  off : Off c σ.mem fp

section
variable {A : Around} {target : Expr} {h0 h1 : Heap} {σ0 : St} {extra : Ledger} {n : Nat} {it : Nat → PV} {I : Addr} {fp wr : List Addr} {Pi : Nat → Value → Prop} {Si : Nat → Heap → Prop}
theorem IterOk.mid (io : IterOk prog w c A target h0 σ0 extra n it I h1 fp wr Pi Si) : Mid prog w c h0 h1 σ0 extra fp wr h1 := ⟨io.rel, HSub.rfl, fun _ _ _ e => e, io.off⟩
/-- a step of the iterator -/
theorem Mid.step (io : IterOk prog w c A target h0 σ0 extra n it I h1 fp wr Pi Si) {i : Nat} {h h' : Heap} {σ : St} (m : Mid prog w c h0 h1 σ extra fp wr h) (st : Si i h)
    (k : ∀ b o, b ∉ wr → h.get? b = some o → h'.get? b = some o) : Mid prog w c h0 h1 σ extra fp wr h' := by
  have hh : HSub h h' := fun b o hb e => k b o (fun q => by
    obtain ⟨o', e', n⟩ := io.live _ _ st b q
    rw [e] at e'; cases e'; exact n hb) e
  have wf : ∀ b ∈ wr, b ∈ fp := io.walk.sub
  have nl : ∀ a ∈ σ.mem.map (·.1), a ∉ wr := fun a ha q => (m.off a (wf a q)).2.2 ha
  refine ⟨m.rel.change hh (fun b o e => k b o (fun q => by rw [io.wrN b q] at e; cases e) (m.rel.keep b o e)) (fun o e => k _ o (fun q => (m.off _ (wf _ q)).1 rfl) e) (fun y a ha o e => k _ o (fun q => (m.off _ (wf _ q)).2.1 y a ha rfl) e)
    (m.rel.mem.keep hh fun a ha o e => k a o (nl a ha) e |> fun z => z) m.rel.locN (fun x a ha => (m.rel.cells x a ha).2) |> fun R => ⟨fun b o e => R.keep b o e, R.vars, ⟨fun p hp => R.mem.at_ p hp, R.mem.nd⟩, R.loc, R.locN, R.locF, R.cells, R.cellF⟩, m.hs.trans hh, fun p hp o e => k _ o (io.ex p hp).2.2.2 (m.ke p hp o e), m.off⟩
theorem Mid.lv (io : IterOk prog w c A target h0 σ0 extra n it I h1 fp wr Pi Si) {i : Nat} {h h' : Heap} (lv : ∀ b ∈ fp, ∃ o, h.get? b = some o) (st : Si i h') (k : ∀ b o, b ∉ wr → h.get? b = some o → h'.get? b = some o) : ∀ b ∈ fp, ∃ o, h'.get? b = some o := by
  intro b hb
  by_cases q : b ∈ wr
  · exact let ⟨o, e, _⟩ := io.live _ _ st b q; ⟨o, e⟩
  · exact let ⟨o, e⟩ := lv b hb; ⟨o, k b o q e⟩
/-- the body of a turn, from any state over a base that holds the iterator -/
theorem Mid.turn (io : IterOk prog w c A target h0 σ0 extra n it I h1 fp wr Pi Si) {i : Nat} {h h' : Heap} {σ σ' : St} (m : Mid prog w c h0 h1 σ extra fp wr h) (st : Si i h) (lv : ∀ b ∈ fp, ∃ o, h.get? b = some o)
    (R' : Rel prog w c (hideAll h (hid c σ.mem)) σ' h') : Mid prog w c h0 h1 σ' extra fp wr h' ∧ Si i h' ∧ ∀ b ∈ fp, ∃ o, h'.get? b = some o := by
  have hh : HSub h h' := m.rel.hsub_of R'.keep
  have fpB : ∀ b ∈ fp, ∀ o, h.get? b = some o → (hideAll h (hid c σ.mem)).get? b = some o := fun b hb o e => hideAll_get _ e (m.off.nhid hb)
  refine ⟨⟨R'.down m.rel.rebase.2, m.hs.trans hh, fun p hp o e => R'.keep _ _ (fpB _ (io.ex p hp).2.2.1 o (m.ke p hp o e)), fun b hb => ?_⟩, io.walk.frame _ _ _ st fun b hb o e => R'.keep _ _ (fpB b hb o e), fun b hb => let ⟨o, e⟩ := lv b hb; ⟨o, R'.keep _ _ (fpB b hb o e)⟩⟩
  obtain ⟨o, e⟩ := lv b hb
  have e' := fpB b hb o e
  exact ⟨(m.off b hb).1, (m.off b hb).2.1, fun q => by
    obtain ⟨p, hp, rfl⟩ := List.mem_map.mp q
    rw [(R'.mem.at_ p hp).2] at e'; cases e'⟩
/-- what was lent given back -/
theorem Mid.back (io : IterOk prog w c A target h0 σ0 extra n it I h1 fp wr Pi Si) {h : Heap} {σ : St} (m : Mid prog w c h0 h1 σ extra fp wr h) : Rel prog w c h0 ⟨σ.vars, extra ++ σ.mem⟩ h := by
  refine m.rel.change HSub.rfl m.rel.keep (fun _ e => e) (fun _ _ _ _ e => e) ⟨fun p hp => ?_, ?_⟩ ?_ ?_
  · rcases List.mem_append.mp hp with hp | hp
    · exact ⟨(io.ex p hp).1.keep m.hs (m.ke p hp), (io.ex p hp).2.1⟩
    · exact m.rel.mem.at_ p hp
  · rw [List.map_append]
    refine List.nodup_append.mpr ⟨io.exnd, m.rel.mem.nd, fun a ha b hb z => ?_⟩
    obtain ⟨p, hp, rfl⟩ := List.mem_map.mp ha
    exact (m.off _ (io.ex p hp).2.2.1).2.2 (z ▸ hb)
  · intro z
    rw [List.map_append] at z
    rcases List.mem_append.mp z with z | z
    · obtain ⟨p, hp, e⟩ := List.mem_map.mp z
      exact (m.off _ (io.ex p hp).2.2.1).1 e
    · exact m.rel.locN z
  · intro x a ha z
    rw [List.map_append] at z
    rcases List.mem_append.mp z with z | z
    · obtain ⟨p, hp, e⟩ := List.mem_map.mp z
      exact (m.off _ (io.ex p hp).2.2.1).2.1 x a ha e
    · exact (m.rel.cells x a ha).2 z
end

theorem ExSs.forCore {target iter : Expr} {body ts : List Stmt} {pos : Pos} {P : FL → St → Prop} {σ0 : St} {extra : Ledger} {n : Nat} {it : Nat → PV} (Z : Bs B mg mb)
    (hi : IterR prog w B d c σ target iter σ0 extra n it) (J : Nat → St → Prop) (h0 : J 0 σ0)
    (turn : ∀ i σ', i < n → J i σ' → ∃ σ1, AsgR prog w B d c σ' target (it i) σ1 ∧ ExSs prog w B d c σ1 body (fun fl σ'' => match fl with | .next => J (i + 1) σ'' | .cont => J (i + 1) σ'' | .brk => ExSs prog w B d c ⟨σ''.vars, extra ++ σ''.mem⟩ ts P | .ret v => P (.ret v) ⟨σ''.vars, extra ++ σ''.mem⟩))
    (done : ∀ σ', J n σ' → ExSs prog w B d c ⟨σ'.vars, extra ++ σ'.mem⟩ ts P)
    (hs : ∀ x, foldedSetIterable iter c.env x = pure x := by intro _; rfl) : ExSs prog w B d c σ (.For target iter body [] pos :: ts) P := by
  refine ExSs.cons (P1 := fun fl σ' => match fl with | .next => ExSs prog w B d c σ' ts P | .ret v => P (.ret v) σ' | _ => False) ?_ (fun _ p => p) fun fl _ q p => by cases fl <;> first | exact absurd rfl q | exact p | exact p.elim
  intro g0 A s Q E b ok R q
  refine wpAny_For (hi g0 A s _ E b ok R fun I h1 t1 fp wr Pi Si hs1 io => ?_) hs
  refine codeAny_forLoop_any (fun k s' => ∃ i σ' h' tk, s' = { s with heap := h', toks := tk } ∧ k = n + 1 - i ∧ i ≤ n ∧ J i σ' ∧ Mid prog w c g0 h1 σ' extra fp wr h' ∧ Si i h' ∧ ∀ b ∈ fp, ∃ o, h'.get? b = some o) ?_ (n + 1) ⟨0, σ0, h1, t1, rfl, rfl, Nat.zero_le _, h0, io.mid, io.st, io.lv⟩
  rintro k _ ⟨i, σ', h', tk, rfl, rfl, hin, hJ, m, st, lv⟩
  by_cases hlt : i < n
  · refine io.walk.item i _ _ _ hlt st fun v h2 t2 hPi st2 k2 => ?_
    dsimp only
    refine io.go (i + 1) v _ _ _ st2 ?_
    have m2 := m.step io st k2
    have lv2 := Mid.lv io lv st2 k2
    obtain ⟨σ1, hasg, hbody⟩ := turn i σ' hlt hJ
    have b2 := Z.mono _ _ b m2.rel.rebase.2
    refine hasg _ A _ v _ _ b2 ok m2.rel.rebase.1 (io.vr i v _ hPi m2.hs) fun h3 t3 hs3 R3 => ?_
    refine hbody _ A _ _ _ b2 ok R3 fun fl σ4 f h4 t4 p4 R4 fr4 => ?_
    obtain ⟨m4, st4, lv4⟩ := m2.turn io st2 lv2 R4
    cases fl with
    | next => cases f with | next => exact ⟨n + 1 - (i + 1), by lia, i + 1, σ4, h4, t4, rfl, rfl, hlt, p4, m4, st4, lv4⟩ | _ => exact fr4.elim
    | cont => cases f with | cont => exact ⟨n + 1 - (i + 1), by lia, i + 1, σ4, h4, t4, rfl, rfl, hlt, p4, m4, st4, lv4⟩ | _ => exact fr4.elim
    | brk => cases f with | brk => exact q .next _ .next h4 t4 p4 (m4.back io) trivial | _ => exact fr4.elim
    | ret v => cases f with | ret v' => exact q (.ret v) _ (.ret v') h4 t4 p4 (m4.back io) fr4 | _ => exact fr4.elim
  · have : i = n := by lia
    subst this
    refine io.walk.done _ _ _ st fun h2 t2 k2 => ?_
    exact wpAny_execs_nil (q .next _ .next h2 t2 (done σ' hJ) ((m.step io st k2).back io) trivial)
end
end Mine

/-! ## W9 -/
namespace Mine
section
variable {prog : Program} {w : World} {B : Heap → Prop} {mg mb : Str → Option Value} {fa : Nat → Addr} {d : Nat} {c : Cx} {σ : St}

theorem notHard_cls {o : Obj} {n : String} (h : o.cls = .type n) (h1 : n ≠ "tuple") (h2 : n ≠ "builtin_function_or_method") : ¬ Hard o := by
  rintro (⟨q, -⟩ | ⟨q, -⟩) <;> (rw [h] at q; cases q; contradiction)

theorem size_none {h0 h : Heap} (s : Sub h0 h) : h0.get? h.objs.size = none := by
  cases q : h0.get? h.objs.size with
  | none => rfl
  | some o => exact absurd (Heap.lt_size (s _ _ q)) (Nat.lt_irrefl _)
theorem Rel.lt_loc {h0 h : Heap} (R : Rel prog w c h0 σ h) : c.env.locals < h.objs.size := by
  obtain ⟨m, o, _, _, e, _⟩ := R.loc
  exact Heap.lt_size e
theorem Rel.lt_cell {h0 h : Heap} (R : Rel prog w c h0 σ h) {x : Str} {a : Addr} (q : c.env.cells.lookup x = some a) : a < h.objs.size := by
  obtain ⟨⟨v, o, e, _⟩, -⟩ := R.cells x a q
  exact Heap.lt_size e
theorem Rel.lt_mem {h0 h : Heap} (R : Rel prog w c h0 σ h) {a : Addr} (q : a ∈ σ.mem.map (·.1)) : a < h.objs.size := by
  obtain ⟨p, hp, rfl⟩ := List.mem_map.mp q
  obtain ⟨o, e, -⟩ := (R.mem.at_ p hp).1.soft
  exact Heap.lt_size e

theorem iterList {A : Around} {s : Shared} {Q E : Value → Shared → Prop} {h0 : Heap} {target : Expr} {a : Addr} {xs : List PV} {m m' extra : Ledger} (hh : A.handled = none) (R : Rel prog w c h0 ⟨σ.vars, m⟩ s.heap) (hp : ((a, MO.lst xs) :: m').Perm m)
    (hx : extra = [(a, MO.lst xs)] ∨ extra = [])
    (k : ∀ I h' tk fp wr Pi Si, HSub s.heap h' → IterOk prog w c A target h0 ⟨σ.vars, m'⟩ extra xs.length (fun i => xs.getD i .undef) I h' fp wr Pi Si → Q (.ref I) { s with heap := h', toks := tk }) :
    wpAny (model prog w) A (pyIter (.ref a)) Q E s := by
  have hm : (a, MO.lst xs) ∈ m := hp.subset (.head _)
  have nd : (((a, MO.lst xs) :: m').map (·.1)).Nodup := (hp.map _).nodup_iff.mpr R.mem.nd
  obtain ⟨vs, hl, hv⟩ := R.lst (σ := ⟨σ.vars, m⟩) hm
  have hlen := hv.length
  have hal : a < s.heap.objs.size := R.lt_mem (List.mem_map_of_mem hm)
  refine wpAny_pyIter_list hl (k s.heap.objs.size _ s.toks [s.heap.objs.size, a] [s.heap.objs.size] (fun i v => vs.toArray[i]? = some v) (fun i h => h.IsListIter s.heap.objs.size a i ∧ h.IsList a vs.toArray) (Sub.push _ _).hard ?_)
  have W := Walks.list (prog := prog) (w := w) (A := A) hh s.heap.objs.size a (Nat.ne_of_lt hal) vs.toArray
  rw [show vs.toArray.size = xs.length by simp [hlen]] at W
  have R1 : Rel prog w c h0 ⟨σ.vars, m'⟩ s.heap := R.less (fun p hp' => hp.subset (.tail _ hp')) (List.nodup_cons.mp nd).2
  refine ⟨R1.sub (Sub.push _ _), fun p hp' => ?_, ?_, W, ⟨⟨_, Heap.get?_push_size _ rfl, rfl, rfl⟩, hl.at fun o e => Heap.get?_push_of_some _ e⟩, fun b hb => ?_, fun b hb => ?_, fun b hb => ?_, fun i h st b hb => ?_, fun i v h' hPi hs => ?_, fun i v s' Q' E' st q => letGo_listiter st.1 q⟩
  · rcases hx with rfl | rfl
    · obtain rfl := List.mem_singleton.mp hp'
      refine ⟨((R.mem.at_ _ hm).1).keep (Sub.push _ _).hard fun o e => Heap.get?_push_of_some _ e, (R.mem.at_ _ hm).2, by simp, ?_⟩
      simp only [List.mem_singleton]
      exact Nat.ne_of_lt hal
    · cases hp'
  · rcases hx with rfl | rfl <;> simp
  · have hb' : b = s.heap.objs.size ∨ b = a := by simpa using hb
    rcases hb' with rfl | rfl
    · exact ⟨(Nat.ne_of_gt R.lt_loc), fun x a' q => Nat.ne_of_gt (R.lt_cell q), fun q => Nat.lt_irrefl _ (R1.lt_mem q)⟩
    · exact ⟨fun q => R.locN (q ▸ List.mem_map_of_mem hm), fun x a' q z => (R.cells x a' q).2 (z ▸ List.mem_map_of_mem hm), (List.nodup_cons.mp nd).1⟩
  · have hb' : b = s.heap.objs.size ∨ b = a := by simpa using hb
    rcases hb' with rfl | rfl
    · exact ⟨_, Heap.get?_push_size _ rfl⟩
    · obtain ⟨o, e, _⟩ := hl
      exact ⟨o, Heap.get?_push_of_some _ e⟩
  · obtain rfl := List.mem_singleton.mp hb
    exact size_none R.keep
  · obtain rfl := List.mem_singleton.mp hb
    obtain ⟨o, e, hc, _⟩ := st.1
    exact ⟨o, e, notHard_cls hc (by decide) (by decide)⟩
  · have hi : vs[i]? = some v := by simpa using hPi
    have hlt : i < xs.length := by rw [← hlen]; exact (List.getElem?_eq_some_iff.mp hi).1
    obtain ⟨v', e', r⟩ := hv.get (List.getElem?_eq_getElem hlt)
    rw [hi] at e'; cases e'
    rw [List.getD_eq_getElem?_getD, List.getElem?_eq_getElem hlt]
    exact r.hsub ((Sub.push _ _).hard.trans hs)

/-- for … in xs, xs in the ledger -/
theorem IterR.list {target iter : Expr} {a : Addr} {xs : List PV} {m' : Ledger} (he : EvE prog w B d c σ iter (.ref a)) (hp : ((a, MO.lst xs) :: m').Perm σ.mem) :
    IterR prog w B d c σ target iter ⟨σ.vars, m'⟩ [(a, .lst xs)] xs.length (fun i => xs.getD i .undef) :=
  fun h0 A s Q E b ok R k => he h0 A s _ E b ok R fun v h1 t1 s1 r1 => by
    obtain rfl : v = .ref a := r1
    exact iterList (σ := σ) ok.1 (R.sub s1) hp (.inl rfl) fun I h' tk fp wr Pi Si hs io => k I h' tk fp wr Pi Si (s1.hard.trans hs) io
/-- … over a new list -/
theorem IterR.fresh {target iter : Expr} {xs : List PV} {m' : Ledger} (he : EvM prog w B d c σ iter (fun pv m => ∃ a, pv = .ref a ∧ m = (a, .lst xs) :: m')) :
    IterR prog w B d c σ target iter ⟨σ.vars, m'⟩ [] xs.length (fun i => xs.getD i .undef) :=
  fun h0 A s Q E b ok R k => he h0 A s _ E b ok R fun pv m v h1 t1 p hs1 R1 r1 => by
    obtain ⟨a, rfl, rfl⟩ := p
    obtain rfl : v = .ref a := r1
    exact iterList (σ := σ) ok.1 R1 (List.Perm.refl _) (.inr rfl) fun I h' tk fp wr Pi Si hs io => k I h' tk fp wr Pi Si (hs1.trans hs) io

/-- an iterator that is one new object -/
theorem iterNew {A : Around} {s : Shared} {h0 : Heap} {target : Expr} {n : Nat} {it : Nat → PV} {o : Obj} {Pi : Nat → Value → Prop} {Si : Nat → Heap → Prop} (R : Rel prog w c h0 σ s.heap)
    (W : Walks prog w A s.heap.objs.size [s.heap.objs.size] [s.heap.objs.size] n Pi Si) (st : Si 0 (s.heap.push o)) (nf : o.isFreed = false) (live : ∀ i h, Si i h → ∃ o, h.get? s.heap.objs.size = some o ∧ ¬ Hard o) (vr : ∀ i v h', Pi i v → VR h' (it i) v)
    (go : ∀ it v, letOwnedTupleGo target it v = pure ()) : IterOk prog w c A target h0 σ [] n it s.heap.objs.size (s.heap.push o) [s.heap.objs.size] [s.heap.objs.size] Pi Si := by
  refine ⟨R.sub (Sub.push _ _), fun p hp => absurd hp (by simp), List.nodup_nil, W, st, fun b hb => ?_, fun b hb => ?_, fun b hb => ?_, fun i h st b hb => ?_, fun i v h' hp _ => vr i v h' hp, fun i v s' Q' E' _ q => by rw [go]; exact wpAny_pure q⟩
  · obtain rfl := List.mem_singleton.mp hb
    exact ⟨(Nat.ne_of_gt R.lt_loc), fun x a' q => Nat.ne_of_gt (R.lt_cell q), fun q => Nat.lt_irrefl _ (R.lt_mem q)⟩
  · obtain rfl := List.mem_singleton.mp hb
    exact ⟨_, Heap.get?_push_size _ nf⟩
  · obtain rfl := List.mem_singleton.mp hb
    exact size_none R.keep
  · obtain rfl := List.mem_singleton.mp hb
    exact live i h st

/-- for … in a text -/
theorem IterR.str {target iter : Expr} {xs : List Nat} (he : EvE prog w B d c σ iter (.str xs)) (go : ∀ it v, letOwnedTupleGo target it v = pure () := by intro _ _; rfl) :
    IterR prog w B d c σ target iter σ [] xs.length (fun i => .str [xs.getD i 0]) :=
  fun h0 A s Q E b ok R k => he h0 A s _ E b ok R fun v h1 t1 s1 r1 => by
    obtain ⟨t, rfl⟩ := r1
    have vr : ∀ i v h', SignAt (S xs) i v → VR h' (.str [xs.getD i 0]) v := by
      rintro i v h' ⟨ch, u, e, rfl⟩
      have e' : xs[i]? = some ch := by simpa using e
      rw [List.getD_eq_getElem?_getD, e']
      exact ⟨u, rfl⟩
    cases ha : (S xs).cps.all (· < 128)
    · refine wpAny_pyIter_wide ha (k _ _ _ [h1.objs.size] [h1.objs.size] (SignAt (S xs)) (fun i h => h.IsStrIter h1.objs.size "str_iterator" (S xs) t i) (s1.trans (Sub.push _ _)).hard (iterNew (s := { s with heap := h1, toks := t1 }) (R.sub s1) (by simpa using Walks.strWide (prog := prog) (w := w) (A := A) ok.1 h1.objs.size (S xs) t) ⟨_, Heap.get?_push_size _ rfl, rfl, rfl⟩ rfl ?_ vr go))
      rintro i h ⟨o, e, hc, _⟩
      exact ⟨o, e, notHard_cls hc (by decide) (by decide)⟩
    · refine wpAny_pyIter_ascii ha (k _ _ _ [h1.objs.size] [h1.objs.size] (SignAt (S xs)) (fun i h => h.IsStrIter h1.objs.size "str_ascii_iterator" (S xs) t i) (s1.trans (Sub.push _ _)).hard (iterNew (s := { s with heap := h1, toks := t1 }) (R.sub s1) (by simpa using Walks.strAscii (prog := prog) (w := w) (A := A) ok.1 h1.objs.size (S xs) t) ⟨_, Heap.get?_push_size _ rfl, rfl, rfl⟩ rfl ?_ vr go))
      rintro i h ⟨o, e, hc, _⟩
      exact ⟨o, e, notHard_cls hc (by decide) (by decide)⟩

/-- range(…) -/
noncomputable def EvRg (prog : Program) (w : World) (B : Heap → Prop) (d : Nat) (c : Cx) (σ : St) (e : Expr) (a b k : Int) : Prop :=
  ∀ (h0 : Heap) (A : Around) (s : Shared) (Q E : Value → Shared → Prop), B h0 → OkA d A → Rel prog w c h0 σ s.heap →
    (∀ r h' tk t u v, Sub s.heap h' → IsRange h' r a b k t u v → Q (.ref r) { s with heap := h', toks := tk }) → wpAny (model prog w) A (eval e c.env) Q E s
theorem EvRg.of {np pos : Pos} {es : List Expr} {ps : List PV} {a b k : Int} (Z : Base B mg mb fa) (C : c.Ok) (hk : c.env.kindOf (Str.ofString "range") = some .globalImplicit) (ha : EvAs prog w B d c σ es ps)
    (hc : ∀ (A : Around) (s : Shared) (vals : List Value) (Q E : Value → Shared → Prop), VRs s.heap ps vals → (∀ r h' tk t u v, Sub s.heap h' → IsRange h' r a b k t u v → Q (.ref r) { s with heap := h', toks := tk }) → wpAny (model prog w) A (call (.type "range") vals) Q E s)
    (hp : ∀ pos env, (backTo pos (starEach es env)).any (·.1) = false := by intro _ _; rfl) : EvRg prog w B d c σ (.Call (.Name (Str.ofString "range") np) es [] pos) a b k :=
  fun h0 A s Q E bb ok R q => wpAny_Call_ofName ((EvE.bl Z C (by decide +kernel) boot_range hk : EvE prog w B d c σ (.Name (Str.ofString "range") np) (.val (.type "range"))) h0 A s _ E bb ok R fun v h1 t1 s1 r1 => by
    obtain rfl : v = .type "range" := r1
    refine (Callee.typ "range").call Z.toBs bb (hp _ _) (evalArgsM (hp _ _) (ha h0 A _ pos _ E bb ok (R.sub s1) fun vs h2 t2 s2 vrs => ⟨((R.sub s1).sub s2).keep, ?_⟩))
    exact hc A _ vs Q E vrs fun r h' tk t u v s' r' => q r h' tk t u v ((s1.trans s2).trans s') r')
theorem EvRg.one {np pos : Pos} {e : Expr} {n : Int} (Z : Base B mg mb fa) (C : c.Ok) (hk : c.env.kindOf (Str.ofString "range") = some .globalImplicit) (he : EvE prog w B d c σ e (.int n))
    (hs : ∀ env, starEach [e] env = (false, eval e env) :: starEach [] env := by intro _; rfl) : EvRg prog w B d c σ (.Call (.Name (Str.ofString "range") np) [e] [] pos) 0 n 1 :=
  EvRg.of Z C hk (EvAs.one he hs) (fun A s vals Q E r q => by
    revert vals; exact VRs.i fun t => call_range_1 (q _ _ _ _ _ _ (Sub.push _ _) (IsRange.new ..))) (by intro pos env; rw [hs]; rfl)
theorem EvRg.two {np pos : Pos} {e1 e2 : Expr} {a b : Int} (Z : Base B mg mb fa) (C : c.Ok) (hk : c.env.kindOf (Str.ofString "range") = some .globalImplicit) (h1 : EvE prog w B d c σ e1 (.int a)) (h2 : EvE prog w B d c σ e2 (.int b))
    (hs1 : ∀ env, starEach [e1, e2] env = (false, eval e1 env) :: starEach [e2] env := by intro _; rfl) (hs2 : ∀ env, starEach [e2] env = (false, eval e2 env) :: starEach [] env := by intro _; rfl) :
    EvRg prog w B d c σ (.Call (.Name (Str.ofString "range") np) [e1, e2] [] pos) a b 1 :=
  EvRg.of Z C hk (EvAs.cons h1 (EvAs.one h2 hs2) hs1) (fun A s vals Q E r q => by
    revert vals; exact VRs.ii fun t u => call_range_2 (q _ _ _ _ _ _ (Sub.push _ _) (IsRange.new ..))) (by intro pos env; rw [hs1, hs2]; rfl)
theorem EvRg.three {np pos : Pos} {e1 e2 e3 : Expr} {a b k : Int} (Z : Base B mg mb fa) (C : c.Ok) (hk : c.env.kindOf (Str.ofString "range") = some .globalImplicit) (h1 : EvE prog w B d c σ e1 (.int a)) (h2 : EvE prog w B d c σ e2 (.int b)) (h3 : EvE prog w B d c σ e3 (.int k)) (k0 : k ≠ 0)
    (hp : Builtin.divisionGoesByPylong (b - a) k = false)
    (hs1 : ∀ env, starEach [e1, e2, e3] env = (false, eval e1 env) :: starEach [e2, e3] env := by intro _; rfl) (hs2 : ∀ env, starEach [e2, e3] env = (false, eval e2 env) :: starEach [e3] env := by intro _; rfl) (hs3 : ∀ env, starEach [e3] env = (false, eval e3 env) :: starEach [] env := by intro _; rfl) :
    EvRg prog w B d c σ (.Call (.Name (Str.ofString "range") np) [e1, e2, e3] [] pos) a b k :=
  EvRg.of Z C hk (EvAs.cons h1 (EvAs.cons h2 (EvAs.one h3 hs3) hs2) hs1) (fun A s vals Q E r q => by
    revert vals; exact VRs.iii fun t u v => call_range_3 k0 (q _ _ _ _ _ _ (Sub.push _ _) (IsRange.new ..)) (.inl hp)) (by intro pos env; rw [hs1, hs2, hs3]; rfl)

theorem IterR.range {target iter : Expr} {a b k : Int} {n : Nat} (he : EvRg prog w B d c σ iter a b k) (hsmall : Builtin.Range.small a b k = true) (hn : Builtin.Range.rangeSize a b k = (n : Int)) (go : ∀ it v, letOwnedTupleGo target it v = pure () := by intro _ _; rfl) :
    IterR prog w B d c σ target iter σ [] n (fun i => .int (a + i * k)) :=
  fun h0 A s Q E bb ok R q => he h0 A s _ E bb ok R fun r h1 t1 t u v s1 hr => by
    refine wpAny_pyIter_range hr hsmall (q _ _ _ [h1.objs.size] [h1.objs.size] (fun i v => ∃ t, v = .int (a + i * k) t) (fun i h => IsRangeIter h h1.objs.size (a + (i : Nat) * k) ((n : Int) - (i : Nat)) k) (s1.trans (Sub.push _ _)).hard (iterNew (s := { s with heap := h1, toks := t1 }) (R.sub s1) (Walks.range (prog := prog) (w := w) (A := A) ok.1 h1.objs.size a k n) ?_ rfl ?_ ?_ go))
    · show IsRangeIter _ _ _ _ _
      rw [hn]; simpa using Heap.get?_push_size _ rfl
    · intro i h e
      exact ⟨_, e, notHard_cls rfl (by decide) (by decide)⟩
    · rintro i v h' ⟨t, rfl⟩
      exact ⟨t, rfl⟩
theorem IterR.range1 {target : Expr} {np pos : Pos} {e : Expr} {n : Nat} (Z : Base B mg mb fa) (C : c.Ok) (hk : c.env.kindOf (Str.ofString "range") = some .globalImplicit) (he : EvE prog w B d c σ e (.int n)) (hn : n < 1000000)
    (go : ∀ it v, letOwnedTupleGo target it v = pure () := by intro _ _; rfl) (hs : ∀ env, starEach [e] env = (false, eval e env) :: starEach [] env := by intro _; rfl) :
    IterR prog w B d c σ target (.Call (.Name (Str.ofString "range") np) [e] [] pos) σ [] n (fun i => .int (i : Int)) := by
  have := IterR.range (target := target) (EvRg.one (np := np) (pos := pos) Z C hk he hs) (small_one (by lia) (by lia) (by lia) (by lia)) (n := n) (by rw [rangeSize_one]; split <;> lia) go
  simpa using this
end
end Mine

/-! ## W10 -/
namespace Mine
section
variable {prog : Program} {w : World} {B : Heap → Prop} {mg mb : Str → Option Value} {fa : Nat → Addr} {d : Nat} {c : Cx} {σ : St}

/-- a place that is nobody's -/
structure Free (c : Cx) (m : Ledger) (h0 : Heap) (fp : List Addr) (b : Addr) : Prop where
  l : b ≠ c.env.locals
  cl : ∀ x a, c.env.cells.lookup x = some a → b ≠ a
  m : b ∉ m.map (·.1)
  h0 : h0.get? b = none
  fp : b ∉ fp

section
variable {A : Around} {target : Expr} {h0 h1 : Heap} {σ0 : St} {extra : Ledger} {n : Nat} {it : Nat → PV} {I : Addr} {fp wr : List Addr} {Pi : Nat → Value → Prop} {Si : Nat → Heap → Prop}

/-- a change at such a place -/
theorem Mid.free (io : IterOk prog w c A target h0 σ0 extra n it I h1 fp wr Pi Si) {h h' : Heap} {σ : St} (m : Mid prog w c h0 h1 σ extra fp wr h) {b : Addr} (f : Free c σ.mem h0 fp b) (so : ∀ o, h.get? b = some o → ¬ Hard o)
    (k : ∀ a o, a ≠ b → h.get? a = some o → h'.get? a = some o) : Mid prog w c h0 h1 σ extra fp wr h' := by
  have hh : HSub h h' := fun a o hb e => k a o (fun q => so o (q ▸ e) hb) e
  exact ⟨m.rel.change hh (fun a o e => k a o (fun q => by rw [q, f.h0] at e; cases e) (m.rel.keep a o e)) (fun o e => k _ o (fun q => f.l q.symm) e) (fun y a ha o e => k _ o (fun q => f.cl y a ha q.symm) e)
    (m.rel.mem.keep hh fun a ha o e => k a o (fun q => f.m (q ▸ ha)) e) m.rel.locN (fun x a ha => (m.rel.cells x a ha).2), m.hs.trans hh, fun p hp o e => k _ o (fun q => f.fp (q ▸ (io.ex p hp).2.2.1)) (m.ke p hp o e), m.off⟩
theorem Mid.freeSt (io : IterOk prog w c A target h0 σ0 extra n it I h1 fp wr Pi Si) {i : Nat} {h h' : Heap} {b : Addr} (f : b ∉ fp) (k : ∀ a o, a ≠ b → h.get? a = some o → h'.get? a = some o) (st : Si i h) : Si i h' :=
  io.walk.frame _ _ _ st fun a ha o e => k a o (fun q => f (q ▸ ha)) e

/-- a part of the text in a frame of its own: all but the ledger and that frame stood -/
theorem Mid.inner (io : IterOk prog w c A target h0 σ0 extra n it I h1 fp wr Pi Si) {i : Nat} {h h' : Heap} {vs : List PV} {m m' : Ledger} {C : Addr} (x : Mid prog w c h0 h1 ⟨vs, m⟩ extra fp wr h) (st : Si i h) (lv : ∀ b ∈ fp, ∃ o, h.get? b = some o) (f : Free c m h0 fp C)
    (so : ∀ o, h.get? C = some o → ¬ Hard o) (k : Sub (hideAll h (C :: m.map (·.1))) h') (mm : MemOk prog w (hideAll h (C :: m.map (·.1))) m' h') : Mid prog w c h0 h1 ⟨vs, m'⟩ extra fp wr h' ∧ Si i h' ∧ (∀ b ∈ fp, ∃ o, h'.get? b = some o) := by
  have up : ∀ a o, a ≠ C → a ∉ m.map (·.1) → h.get? a = some o → (hideAll h (C :: m.map (·.1))).get? a = some o := fun a o q1 q2 e => hideAll_get _ e fun q => by
    rcases List.mem_cons.mp q with q | q
    · exact q1 q
    · exact q2 q
  have hh : HSub h h' := fun a o hb e => k a o (up a o (fun q => so o (q ▸ e) hb) (fun q => by
    obtain ⟨p, hp, rfl⟩ := List.mem_map.mp q
    obtain ⟨o', e', n⟩ := (x.rel.mem.at_ p hp).1.soft
    rw [e'] at e; cases e; exact n hb) e)
  have nin : ∀ a o, (hideAll h (C :: m.map (·.1))).get? a = some o → a ∉ m'.map (·.1) := fun a o e q => by
    obtain ⟨p, hp, rfl⟩ := List.mem_map.mp q
    rw [(mm.at_ p hp).2] at e; cases e
  have b0 : Sub h0 (hideAll h (C :: m.map (·.1))) := fun a o e => up a o (fun q => by rw [q, f.h0] at e; cases e) (fun q => by
    obtain ⟨p, hp, rfl⟩ := List.mem_map.mp q
    rw [(x.rel.mem.at_ p hp).2] at e; cases e) (x.rel.keep a o e)
  have ul : ∀ o, h.get? c.env.locals = some o → (hideAll h (C :: m.map (·.1))).get? c.env.locals = some o := fun o e => up _ o (fun q => f.l q.symm) x.rel.locN e
  have uc : ∀ y a, c.env.cells.lookup y = some a → ∀ o, h.get? a = some o → (hideAll h (C :: m.map (·.1))).get? a = some o := fun y a ha o e => up _ o (fun q => f.cl y a ha q.symm) (x.rel.cells y a ha).2 e
  have uf : ∀ b ∈ fp, ∀ o, h.get? b = some o → (hideAll h (C :: m.map (·.1))).get? b = some o := fun b hb o e => up b o (fun q => f.fp (q ▸ hb)) (x.off b hb).2.2 e
  refine ⟨⟨x.rel.change hh (b0.trans k) (fun o e => k _ o (ul o e)) (fun y a ha o e => k _ o (uc y a ha o e)) ⟨fun p hp => ⟨(mm.at_ p hp).1, ?_⟩, mm.nd⟩ (fun q => ?_) (fun y a ha q => ?_), x.hs.trans hh, fun p hp o e => k _ o (uf _ (io.ex p hp).2.2.1 o (x.ke p hp o e)), fun b hb => ⟨(x.off b hb).1, (x.off b hb).2.1, fun q => ?_⟩⟩,
    io.walk.frame _ _ _ st fun b hb o e => k _ o (uf b hb o e), fun b hb => let ⟨o, e⟩ := lv b hb; ⟨o, k _ o (uf b hb o e)⟩⟩
  · cases z : h0.get? p.1 with
    | none => rfl
    | some o => have := (mm.at_ p hp).2; rw [b0 _ _ z] at this; cases this
  · obtain ⟨mm', o, _, _, e, _⟩ := x.rel.loc
    exact nin _ o (ul o e) q
  · obtain ⟨⟨v, o, e, _⟩, -⟩ := x.rel.cells y a ha
    exact nin _ o (uc y a ha o e) q
  · obtain ⟨o, e⟩ := lv b hb
    exact nin _ o (uf b hb o e) q
end

/-- the tests of a comprehension -/
noncomputable def EvF (prog : Program) (w : World) (B : Heap → Prop) (d : Nat) (c : Cx) (σ : St) (ifs : List Expr) (b : Bool) : Prop :=
  ∀ (h0 : Heap) (A : Around) (s : Shared) (Q : Bool → Shared → Prop) (E : Value → Shared → Prop), B h0 → OkA d A → Rel prog w c h0 σ s.heap →
    (∀ h' tk, Sub s.heap h' → Q b { s with heap := h', toks := tk }) → wpAny (model prog w) A (forIn ifs true fun e r => if r = true then do let ok ← isTrue e c.env (eval e c.env); pure (ForInStep.yield ok) else pure (ForInStep.yield r)) Q E s
theorem EvF.nil : EvF prog w B d c σ [] true := fun _ _ s _ _ _ _ _ k => wpAny_pure (k s.heap s.toks Sub.rfl)
theorem EvF.one {e : Expr} {b : Bool} (he : EvB prog w B d c σ e b) : EvF prog w B d c σ [e] b := fun h0 A s Q E bb ok R k => by
  rw [List.forIn_cons, if_pos rfl]
  refine wpAny_bind (wpAny_bind (he h0 A s _ E bb ok R fun h1 t1 s1 => wpAny_pure ?_))
  dsimp only
  rw [List.forIn_nil]
  exact wpAny_pure (k h1 t1 s1)

/-- a comprehension's loop: to the list, its own frame still there -/
theorem compCore {elt iter : Expr} {x : Str} {px : Pos} {ifs : List Expr} {scope : Scope} {pos : Pos} {cl : List (Str × Addr)} {frees : List Str} {fvs : List PV} {m0 extra : Ledger} {n : Nat} {it : Nat → PV} {RR : Value → Addr → Result → Shared → Prop}
    (Z : Bs B mg mb) (hcell : ∀ y ∈ scope.names, y.2 ≠ .cell) (hkind : scope.kind = .function) (hx : scope.names.lookup x = some .local)
    (C' : ∀ L, Cx.Ok ⟨compEnvC scope cl L c.env, x :: frees, false⟩) (hcl : ∀ y a, cl.lookup y = some a → c.env.cells.lookup y = some a)
    (hfv : ∀ (k : Nat) (pv : PV), fvs[k]? = some pv → pv = .undef ∨ ∃ (y : Str) (j : Nat), frees[k]? = some y ∧ c.names[j]? = some y ∧ σ.vars[j]? = some pv ∧ c.env.kindOf y ≠ some .local ∧ ((relabel scope c.env).names.lookup y = some .cell ∨ (relabel scope c.env).names.lookup y = some .free) ∧ cl.lookup y = c.env.cells.lookup y)
    (hn : n ≤ 16777216) (J : Nat → List PV → Ledger → Prop) (j0 : J 0 [] m0)
    (turn : ∀ i L pvs m, i < n → J i pvs m → ∃ b, EvF prog w B d ⟨compEnvC scope cl L c.env, x :: frees, false⟩ ⟨it i :: fvs, m⟩ ifs b ∧ (b = false → J (i + 1) pvs m) ∧
      (b = true → EvM prog w B d ⟨compEnvC scope cl L c.env, x :: frees, false⟩ ⟨it i :: fvs, m⟩ elt (fun pv m' => J (i + 1) (pvs ++ [pv]) m')))
    {h0 : Heap} {A : Around} {E : Value → Shared → Prop} {s₂ : Shared} {I : Addr} {fp wr : List Addr} {Pi : Nat → Value → Prop} {Si : Nat → Heap → Prop} (b : B h0) (ok : OkA d A)
    (io : IterOk prog w c A (.Name x px) h0 ⟨σ.vars, m0⟩ extra n it I s₂.heap fp wr Pi Si)
    (hRR : ∀ D C h' tk pvs m mC, J n pvs m → h'.Ns C mC → Mid prog w c h0 s₂.heap ⟨σ.vars, m⟩ extra fp wr h' → Free c m h0 fp C → Free c m h0 fp D → D ≠ C → MR prog w h' D (.lst pvs) → RR (.ref D) C (.ok .next) { s₂ with heap := h', toks := tk }) :
    wpAny (model prog w) A (newList []) (fun acc s₃ => wpAny (model prog w) A (newFunctionEnv scope c.env.globals cl [] c.env.qual none .none (some c.env)) (fun cenv s₄ =>
      codeAny (model prog w) A (.compStart (.ListComp elt [⟨.Name x px, iter, ifs, 0⟩] scope pos) 0 (.ref I) acc { cenv with scope := relabel scope c.env }) (RR acc cenv.locals) s₄) E s₃) E s₂ := by
  refine wpAny_newObj_type (wpAny_newFunctionEnv hcell (by intro y hy; simp at hy) (fun h₁ hns₁ hsb₁ => ?_) hkind)
  dsimp only at hns₁ hsb₁ ⊢
  generalize hH2 : s₂.heap.push { cls := .type "list", dict := none, data := .seq ([] : List Value).toArray } = H2 at hns₁ hsb₁ ⊢
  have hC : H2.objs.size = s₂.heap.objs.size + 1 := by rw [← hH2, Heap.size_push]
  have hDC : s₂.heap.objs.size ≠ H2.objs.size := by rw [hC]; exact Nat.ne_of_lt (Nat.lt_succ_self _)
  have lt2 : ∀ b, b < s₂.heap.objs.size → b ≠ H2.objs.size ∧ b ≠ s₂.heap.objs.size := fun b hb => ⟨by rw [hC]; exact Nat.ne_of_lt (Nat.lt_succ_of_lt hb), Nat.ne_of_lt hb⟩
  have old : ∀ b o, s₂.heap.get? b = some o → h₁.get? b = some o := fun b o e => hsb₁.extBut b o (lt2 b (Heap.lt_size e)).1 (Heap.get?_push_of_some _ (hH2 ▸ Heap.get?_push_of_some _ e))
  have hacc : h₁.get? s₂.heap.objs.size = some (listO #[] 0) := hsb₁.extBut _ _ hDC (Heap.get?_push_of_some _ (hH2 ▸ Heap.get?_push_size _ rfl))
  have ltfp : ∀ b ∈ fp, b < s₂.heap.objs.size := fun b hb => let ⟨o, e⟩ := io.lv b hb; Heap.lt_size e
  -- strange places
  have fresh : ∀ a, s₂.heap.objs.size ≤ a → Free c m0 h0 fp a := fun a ha => ⟨(Nat.ne_of_gt (Nat.lt_of_lt_of_le io.rel.lt_loc ha)), fun y a' q => Nat.ne_of_gt (Nat.lt_of_lt_of_le (io.rel.lt_cell q) ha),
    fun q => Nat.lt_irrefl _ (Nat.lt_of_lt_of_le (io.rel.lt_mem q) ha), by
      cases q : h0.get? a with
      | none => rfl
      | some o => exact absurd (Heap.lt_size (io.rel.keep _ _ q)) (Nat.not_lt.mpr ha), fun q => Nat.lt_irrefl _ (Nat.lt_of_lt_of_le (ltfp _ q) ha)⟩
  have mid₁ : Mid prog w c h0 s₂.heap ⟨σ.vars, m0⟩ extra fp wr h₁ := by
    have R1 := io.rel.sub (h' := h₁) old
    exact ⟨R1, Sub.hard old, fun p hp o e => old _ o e, io.off⟩
  have st₁ : Si 0 h₁ := io.walk.frame _ _ _ io.st fun b _ o e => old b o e
  have loop : ∀ s₃ : Shared, s₃ = { s₂ with heap := h₁, toks := s₂.toks + ([] : List (Str × Value)).length } →
      codeAny (model prog w) A (.compLoop (.ListComp elt [⟨.Name x px, iter, ifs, 0⟩] scope pos) 0 (.ref I) (.ref s₂.heap.objs.size) (compEnvC scope cl H2.objs.size c.env))
        (RR (.ref s₂.heap.objs.size) H2.objs.size) s₃ := by
    rintro s₃ rfl
    refine codeAny_compLoop_tests (fun k s' => ∃ i pvs m h' tk mC, s' = { s₂ with heap := h', toks := tk } ∧ k = n + 1 - i ∧ i ≤ n ∧ J i pvs m ∧ Mid prog w c h0 s₂.heap ⟨σ.vars, m⟩ extra fp wr h' ∧ Si i h' ∧ (∀ b ∈ fp, ∃ o, h'.get? b = some o) ∧
      h'.Ns H2.objs.size mC ∧ MR prog w h' s₂.heap.objs.size (.lst pvs) ∧ Free c m h0 fp H2.objs.size ∧ Free c m h0 fp s₂.heap.objs.size ∧ pvs.length ≤ i) ?_ (n + 1)
      ⟨0, [], m0, h₁, _, _, rfl, rfl, Nat.zero_le _, j0, mid₁, st₁, fun b hb => let ⟨o, e⟩ := io.lv b hb; ⟨o, old b o e⟩, hns₁, ⟨#[], 0, hacc, trivial⟩, fresh _ (by rw [hC]; exact Nat.le_succ _), fresh _ (Nat.le_refl _), Nat.le_refl _⟩
    rintro k _ ⟨i, pvs, m, h', tk, mC, rfl, rfl, hin, hJ, mid, st, lv, hns, hD, fC, fD, hlen⟩
    by_cases hlt : i < n
    · refine io.walk.item i _ _ _ hlt st fun v h2 t2 hPi st2 k2 => ?_
      dsimp only
      have wf : ∀ b ∈ wr, b ∈ fp := io.walk.sub
      have mid2 := mid.step io st k2
      have lv2 := Mid.lv io lv st2 k2
      have hns2 : h2.Ns H2.objs.size mC := hns.at' fun o e => k2 _ o (fun q => fC.fp (wf _ q)) e
      have hs2 : HSub h' h2 := fun b o hb e => k2 b o (fun q => by
        obtain ⟨o', e', n⟩ := io.live _ _ st b q
        rw [e'] at e; cases e; exact n hb) e
      have hD2 : MR prog w h2 s₂.heap.objs.size (.lst pvs) := hD.keep hs2 fun o e => k2 _ o (fun q => fD.fp (wf _ q)) e
      refine wpAny_assign_Name (wpAny_storeName_local (lookup_relabel_local hx) hns2 (fun h3 hns3 hb3 => ?_) (by simp [compEnvC, relabel, hkind]))
      have k3 : ∀ a o, a ≠ H2.objs.size → h2.get? a = some o → h3.get? a = some o := fun a o q e => hb3.extBut a o q e
      have soC : ∀ o, h2.get? H2.objs.size = some o → ¬ Hard o := fun o e hb => by
        obtain ⟨o', _, _, e', hd, _⟩ := hns2
        rw [e'] at e; cases e
        exact notHard_dict hd hb
      have mid3 := mid2.free io fC soC k3
      have st3 := Mid.freeSt io fC.fp k3 st2
      have lv3 : ∀ b ∈ fp, ∃ o, h3.get? b = some o := fun b hb => let ⟨o, e⟩ := lv2 b hb; ⟨o, k3 b o (fun q => fC.fp (q ▸ hb)) e⟩
      have hs3 : HSub h2 h3 := hsub_of_but k3 (let ⟨o, _, _, e, hd, _⟩ := hns2; ⟨o, e, notHard_dict hd⟩)
      have hD3 : MR prog w h3 s₂.heap.objs.size (.lst pvs) := hD2.keep hs3 fun o e => k3 _ o hDC e
      have kx : Env.kindOf (compEnvC scope cl H2.objs.size c.env) x = some .local := lookup_relabel_local hx
      -- the frame within
      have R3 : Rel prog w ⟨compEnvC scope cl H2.objs.size c.env, x :: frees, false⟩ (hideAll h3 (H2.objs.size :: m.map (·.1))) ⟨it i :: fvs, m⟩ h3 := by
        refine ⟨fun a o e => of_hideAll _ e, fun kk pv e => ?_, ⟨fun p hp => ⟨(mid3.rel.mem.at_ p hp).1, hideAll_none _ (List.mem_cons_of_mem _ (List.mem_map_of_mem hp))⟩, mid3.rel.mem.nd⟩, ⟨_, hns3⟩, fC.m, hideAll_none _ List.mem_cons_self, fun y a q => mid3.rel.cells y a (hcl y a q), fun q => by cases q⟩
        cases kk with
        | zero =>
          have e' : it i = pv := by simpa using e
          subst e'
          exact .inr ⟨x, v, rfl, .inl ⟨kx, _, hns3, by simp⟩, io.vr i v h3 hPi mid3.hs⟩
        | succ kk =>
          rcases hfv kk pv (by simpa using e) with e' | ⟨y, j, e1, e2, e3, e4, e5, e6⟩
          · exact .inl e'
          · refine (mid3.rel.vars j pv e3).imp id fun ⟨y', v', hy', sto, vr⟩ => ?_
            rw [e2] at hy'; cases hy'
            refine ⟨y, v', by simpa using e1, ?_, vr⟩
            rcases sto with ⟨z, _⟩ | ⟨z, a, ha, hc⟩
            · exact absurd z e4
            · exact .inr ⟨e5, a, e6.trans ha, hc⟩
      have bI : B (hideAll h3 (H2.objs.size :: m.map (·.1))) := Z.mono _ _ b fun a o e => hideAll_get _ (mid3.rel.keep a o e) fun q => by
        rcases List.mem_cons.mp q with q | q
        · rw [q, fC.h0] at e; cases e
        · obtain ⟨p, hp, rfl⟩ := List.mem_map.mp q
          rw [(mid3.rel.mem.at_ p hp).2] at e; cases e
      have soC3 : ∀ o, h3.get? H2.objs.size = some o → ¬ Hard o := fun o e hb => by
        obtain ⟨o', _, _, e', hd, _⟩ := hns3
        have e'' : h3.get? H2.objs.size = some o' := e'
        rw [e''] at e; cases e
        exact notHard_dict hd hb
      obtain ⟨bb, hF, hN, hT⟩ := turn i H2.objs.size pvs m hlt hJ
      refine hF _ A _ _ _ bI ok R3 fun h4 t4 s4 => ?_
      have R4 := R3.sub s4
      cases bb with
      | false =>
        simp only [Bool.false_eq_true, if_false]
        refine ⟨n + 1 - (i + 1), by lia, i + 1, pvs, m, h4, t4, _, rfl, rfl, hlt, hN rfl, ⟨mid3.rel.sub s4, mid3.hs.trans s4.hard, fun p hp o e => s4 _ o (mid3.ke p hp o e), mid3.off⟩, io.walk.frame _ _ _ st3 fun b _ o e => s4 b o e,
          fun b hb => let ⟨o, e⟩ := lv3 b hb; ⟨o, s4 b o e⟩, hns3.at' fun o e => s4 _ o e, hD3.keep s4.hard fun o e => s4 _ o e, fC, fD, by lia⟩
      | true =>
        simp only [if_true]
        refine hT rfl _ A _ _ _ bI ok R4 fun pv m' y h5 t5 hJ' hs5 R5 vr => ?_
        obtain ⟨mid5, st5, lv5⟩ := mid3.inner io st3 lv3 fC soC3 R5.keep R5.mem
        have inB : ∀ a o, h3.get? a = some o → a ≠ H2.objs.size → a ∉ m.map (·.1) → (hideAll h3 (H2.objs.size :: m.map (·.1))).get? a = some o := fun a o e q1 q2 => hideAll_get _ e fun q => by
          rcases List.mem_cons.mp q with q | q
          · exact q1 q
          · exact q2 q
        have DinB : ∀ o, h3.get? s₂.heap.objs.size = some o → (hideAll h3 (H2.objs.size :: m.map (·.1))).get? s₂.heap.objs.size = some o := fun o e => inB _ o e hDC fD.m
        have hD5 : MR prog w h5 s₂.heap.objs.size (.lst pvs) := hD3.keep (s4.hard.trans hs5) fun o e => R5.keep _ o (DinB o e)
        have nD' : s₂.heap.objs.size ∉ m'.map (·.1) := fun q => by
          obtain ⟨p, hp, e⟩ := List.mem_map.mp q
          obtain ⟨o, e', _⟩ := hD3.soft
          have := (R5.mem.at_ p hp).2
          rw [e, DinB o e'] at this; cases this
        have fD' : Free c m' h0 fp s₂.heap.objs.size := ⟨fD.l, fD.cl, nD', fD.h0, fD.fp⟩
        have fC' : Free c m' h0 fp H2.objs.size := ⟨fC.l, fC.cl, R5.locN, fC.h0, fC.fp⟩
        obtain ⟨vs, nn, eD, rD⟩ := hD5
        have hvs : vs.size = pvs.length := by have := rD.length; simpa using this
        refine wpAny_list_append_plain (s := { s₂ with heap := h5, toks := t5 }) (l := s₂.heap.objs.size) (items := vs) ⟨nn, eD⟩ (fun h6 hp6 hb6 => ?_) (by show vs.size ≤ 2 ^ 24; lia)
        have k6 : ∀ a o, a ≠ s₂.heap.objs.size → h5.get? a = some o → h6.get? a = some o := fun a o q e => hb6.extBut a o q e
        have hs6 : HSub h5 h6 := hsub_of_but k6 ⟨_, eD, notHard_list⟩
        have mid6 := mid5.free io fD' (fun o e => by rw [eD] at e; cases e; exact notHard_list) k6
        obtain ⟨n6, e6⟩ := hp6
        obtain ⟨mC5, hn5⟩ := R5.loc
        exact ⟨n + 1 - (i + 1), by lia, i + 1, pvs ++ [pv], m', h6, t5, _, rfl, rfl, hlt, hJ', mid6, Mid.freeSt io fD.fp k6 st5, fun b hb => let ⟨o, e⟩ := lv5 b hb; ⟨o, k6 b o (fun q => fD.fp (q ▸ hb)) e⟩, hn5.at' fun o e => k6 _ o (Ne.symm hDC) e, MR.push e6 rD vr hs6, fC', fD', by simp; lia⟩
    · have : i = n := by lia
      subst this
      refine io.walk.done _ _ _ st fun h2 t2 k2 => ?_
      have wf : ∀ b ∈ wr, b ∈ fp := io.walk.sub
      have hs2 : HSub h' h2 := fun b o hb e => k2 b o (fun q => by
        obtain ⟨o', e', n⟩ := io.live _ _ st b q
        rw [e'] at e; cases e; exact n hb) e
      exact hRR _ _ h2 t2 pvs m mC hJ (hns.at' fun o e => k2 _ o (fun q => fC.fp (wf _ q)) e) (mid.step io st k2) fC fD hDC (hD.keep hs2 fun o e => k2 _ o (fun q => fD.fp (wf _ q)) e)
  exact codeAny_compStart_list (loop _ rfl) (io.walk.self 0 _ _ _ st₁ (loop _ rfl))

theorem Mid.made {A : Around} {target : Expr} {h0 h1 h : Heap} {σ0 : St} {extra : Ledger} {n : Nat} {it : Nat → PV} {I : Addr} {fp wr : List Addr} {Pi : Nat → Value → Prop} {Si : Nat → Heap → Prop} {vs : List PV} {m : Ledger} {D : Addr} {mo : MO}
    (io : IterOk prog w c A target h0 σ0 extra n it I h1 fp wr Pi Si) (x : Mid prog w c h0 h1 ⟨vs, m⟩ extra fp wr h) (f : Free c m h0 fp D) (hD : MR prog w h D mo) : Rel prog w c h0 ⟨vs, (D, mo) :: (extra ++ m)⟩ h := by
  have R := x.back io
  have nin : D ∉ (extra ++ m).map (·.1) := fun q => by
    rw [List.map_append] at q
    rcases List.mem_append.mp q with q | q
    · obtain ⟨p, hp, e⟩ := List.mem_map.mp q
      exact f.fp (e ▸ (io.ex p hp).2.2.1)
    · exact f.m q
  refine R.change HSub.rfl R.keep (fun _ e => e) (fun _ _ _ _ e => e) ⟨fun p hp => ?_, List.nodup_cons.mpr ⟨nin, R.mem.nd⟩⟩ (fun q => ?_) fun y a ha q => ?_
  · rcases List.mem_cons.mp hp with rfl | hp
    · exact ⟨hD, f.h0⟩
    · exact R.mem.at_ p hp
  · rcases List.mem_cons.mp q with q | q
    · exact f.l q.symm
    · exact R.locN q
  · rcases List.mem_cons.mp q with q | q
    · exact f.cl y a ha q.symm
    · exact (R.cells y a ha).2 q
/-- a frame let go -/
theorem Rel.gone {h0 h h' : Heap} {C : Addr} {mC : Str → Option Value} (R : Rel prog w c h0 σ h) (hn : h.Ns C mC) (l : C ≠ c.env.locals) (cl : ∀ x a, c.env.cells.lookup x = some a → C ≠ a) (m : C ∉ σ.mem.map (·.1)) (e0 : h0.get? C = none) (s : Heap.SameBut C h h') :
    HSub h h' ∧ Rel prog w c h0 σ h' := by
  have k : ∀ a o, a ≠ C → h.get? a = some o → h'.get? a = some o := fun a o q e => s.extBut a o q e
  have hh : HSub h h' := hsub_of_but k (let ⟨o, _, _, e, hd, _⟩ := hn; ⟨o, e, notHard_dict hd⟩)
  exact ⟨hh, R.change hh (fun a o e => k a o (fun q => by rw [q, e0] at e; cases e) (R.keep a o e)) (fun o e => k _ o (fun q => l q.symm) e) (fun y a ha o e => k _ o (fun q => cl y a ha q.symm) e)
    (R.mem.keep hh fun a ha o e => k a o (fun q => m (q ▸ ha)) e) R.locN fun x a ha => (R.cells x a ha).2⟩

section
variable {elt iter : Expr} {x : Str} {px : Pos} {ifs : List Expr} {scope : Scope} {pos : Pos} {cl : List (Str × Addr)} (frees : List Str) (fvs : List PV) {m0 extra : Ledger} {n : Nat} {it : Nat → PV}

/-- what a comprehension's scope must show -/
structure CompOk (c : Cx) (σ : St) (scope : Scope) (cl : List (Str × Addr)) (x : Str) (frees : List Str) (fvs : List PV) : Prop where
  clos : closureFor scope c.env = pure cl
  cell : ∀ y ∈ scope.names, y.2 ≠ .cell
  kind : scope.kind = .function
  names : ∀ y ∈ scope.names, y.2 = .local → scope.names.lookup y.1 = some .local
  hx : scope.names.lookup x = some .local
  ok : ∀ L, Cx.Ok ⟨compEnvC scope cl L c.env, x :: frees, false⟩
  hcl : ∀ y a, cl.lookup y = some a → c.env.cells.lookup y = some a
  fv : ∀ (k : Nat) (pv : PV), fvs[k]? = some pv → pv = .undef ∨ ∃ (y : Str) (j : Nat), frees[k]? = some y ∧ c.names[j]? = some y ∧ σ.vars[j]? = some pv ∧ c.env.kindOf y ≠ some .local ∧ ((relabel scope c.env).names.lookup y = some .cell ∨ (relabel scope c.env).names.lookup y = some .free) ∧ cl.lookup y = c.env.cells.lookup y

theorem EvM.comp {P : PV → Ledger → Prop} (Z : Bs B mg mb) (K : CompOk c σ scope cl x frees fvs) (hi : IterR prog w B d c σ (.Name x px) iter ⟨σ.vars, m0⟩ extra n it) (hn : n ≤ 16777216) (J : Nat → List PV → Ledger → Prop) (j0 : J 0 [] m0)
    (turn : ∀ i L pvs m, i < n → J i pvs m → ∃ b, EvF prog w B d ⟨compEnvC scope cl L c.env, x :: frees, false⟩ ⟨it i :: fvs, m⟩ ifs b ∧ (b = false → J (i + 1) pvs m) ∧
      (b = true → EvM prog w B d ⟨compEnvC scope cl L c.env, x :: frees, false⟩ ⟨it i :: fvs, m⟩ elt (fun pv m' => J (i + 1) (pvs ++ [pv]) m')))
    (done : ∀ pvs m D, J n pvs m → P (.ref D) ((D, .lst pvs) :: (extra ++ m))) (hs : ∀ x, foldedSetIterable iter c.env x = pure x := by intro _; rfl) :
    EvM prog w B d c σ (.ListComp elt [⟨.Name x px, iter, ifs, 0⟩] scope pos) P := by
  intro h0 A s Q E b ok R k
  rw [eval_ListComp]
  refine wpAny_comprehension_free (use := none) rfl hs K.clos K.kind K.names (hi h0 A s _ E b ok R fun I h1 t1 fp wr Pi Si hs1 io => ?_)
  refine compCore (s₂ := { s with heap := h1, toks := t1 }) (RR := fun acc C => compPost (model prog w) A E none Q acc C) Z K.cell K.kind K.hx K.ok K.hcl K.fv hn J j0 turn b ok io ?_
  intro D C h' tk pvs m mC hJ hns mid fC fD hDC hD
  refine ⟨mC, hns, fun h'' hs'' => ?_⟩
  have R1 := mid.made io fD hD
  obtain ⟨hh, R2⟩ := R1.gone hns fC.l fC.cl (fun q => by
    rcases List.mem_cons.mp q with q | q
    · exact hDC q.symm
    · rw [List.map_append] at q
      rcases List.mem_append.mp q with q | q
      · obtain ⟨p, hp, e⟩ := List.mem_map.mp q
        exact fC.fp (e ▸ (io.ex p hp).2.2.1)
      · exact fC.m q) fC.h0 hs''
  exact k (.ref D) _ (.ref D) h'' tk (done pvs m D hJ) (hs1.trans (mid.hs.trans hh)) R2 rfl

theorem ExSs.letComp {y : Str} {py spos : Pos} {ts : List Stmt} {P : FL → St → Prop} (ky : Nat) (C : c.Ok) (hrw : c.rw = true) (hky : c.names[ky]? = some y) (Z : Bs B mg mb) (K : CompOk c σ scope cl x frees fvs)
    (hsw : swapsWith (.ListComp elt [⟨.Name x px, iter, ifs, 0⟩] scope pos) (some (.Name y py)) spos.line c.env = pure true)
    (hi : IterR prog w B d c σ (.Name x px) iter ⟨σ.vars, m0⟩ extra n it) (hn : n ≤ 16777216) (J : Nat → List PV → Ledger → Prop) (j0 : J 0 [] m0)
    (turn : ∀ i L pvs m, i < n → J i pvs m → ∃ b, EvF prog w B d ⟨compEnvC scope cl L c.env, x :: frees, false⟩ ⟨it i :: fvs, m⟩ ifs b ∧ (b = false → J (i + 1) pvs m) ∧
      (b = true → EvM prog w B d ⟨compEnvC scope cl L c.env, x :: frees, false⟩ ⟨it i :: fvs, m⟩ elt (fun pv m' => J (i + 1) (pvs ++ [pv]) m')))
    (done : ∀ pvs m D, J n pvs m → ExSs prog w B d c ⟨σ.vars.set ky (.ref D), (D, .lst pvs) :: (extra ++ m)⟩ ts P) (hs : ∀ x, foldedSetIterable iter c.env x = pure x := by intro _; rfl) :
    ExSs prog w B d c σ (.Assign [.Name y py] (.ListComp elt [⟨.Name x px, iter, ifs, 0⟩] scope pos) spos :: ts) P := by
  refine ExSs.next (P1 := fun σ' => ExSs prog w B d c σ' ts P) (fun h0 A s Q E b ok R k => ?_) fun _ q => q
  rw [exec_Assign_Name_used _ _ _ _ hsw]
  refine wpAny_bind (wpAny_standAt (wpAny_bind ?_))
  show wpAny _ A (do let _ ← comprehension (.ListComp elt [⟨.Name x px, iter, ifs, 0⟩] scope pos) scope c.env _ (newList []) false (eval iter c.env) (some (assign (.Name y py) c.env))) _ _ s
  refine wpAny_bind (wpAny_mono (wpAny_comprehension_free (use := some (assign (.Name y py) c.env)) (Q := fun _ s' => Q .next s') rfl hs K.clos K.kind K.names (hi h0 A s _ E b ok R fun I h1 t1 fp wr Pi Si hs1 io => ?_)) (fun _ s' hq => wpAny_pure (wpAny_pure hq)) fun _ _ e => e)
  refine compCore (s₂ := { s with heap := h1, toks := t1 }) (RR := fun acc C => compPost (model prog w) A E (some (assign (.Name y py) c.env)) (fun _ s' => Q .next s') acc C) Z K.cell K.kind K.hx K.ok K.hcl K.fv hn J j0 turn b ok io ?_
  intro D C' h' tk pvs m mC hJ hns mid fC fD hDC hD
  have R1 := mid.made io fD hD
  have nC : C' ∉ ((D, MO.lst pvs) :: (extra ++ m)).map (·.1) := fun q => by
    rcases List.mem_cons.mp q with q | q
    · exact hDC q.symm
    · rw [List.map_append] at q
      rcases List.mem_append.mp q with q | q
      · obtain ⟨p, hp, e⟩ := List.mem_map.mp q
        exact fC.fp (e ▸ (io.ex p hp).2.2.1)
      · exact fC.m q
  show wpAny _ A (assign (.Name y py) c.env (.ref D)) _ _ _
  refine wpAny_assign_Name ?_
  have hm : y ∈ c.names := List.mem_of_getElem? hky
  -- the frame within stands while the name is stored
  refine storeVar' C hrw R1 hky (pv := .ref D) rfl fun h2 t2 hh2 R2 k2 => ?_
  have hns2 : h2.Ns C' mC := hns.at' fun o e => k2 _ o fC.l fC.cl e
  refine ⟨mC, hns2, fun h3 hs3 => ?_⟩
  obtain ⟨hh, R3⟩ := R2.gone hns2 fC.l fC.cl nC fC.h0 hs3
  exact k .next _ .next h3 t2 ⟨rfl, done pvs m D hJ⟩ R3 trivial
end
end
end Mine

/-! ## W11 -/
namespace Mine
theorem sub_ri_reversed : isSubtype (.type "range_iterator") (.type "reversed") = pure false := by rw [isSubtype_type]; kernel_rfl
section
variable {prog : Program} {w : World} {B : Heap → Prop} {mg mb : Str → Option Value} {fa : Nat → Addr} {d : Nat} {c : Cx} {σ : St}

theorem BinR.fdiv {a b : Int} (h0 : 0 < b) (h1 : b < 1000000000) : BinR prog w .FloorDiv (.int a) (.int b) (.int (a / b)) := by
  rintro A s _ _ Q E _ ⟨t, rfl⟩ ⟨u, rfl⟩ k
  refine PyProof.Rows.floordiv_int (by lia) ?_ ?_
  · rw [Int.fdiv_eq_ediv_of_nonneg a (by lia)]
    exact k _ _ _ Sub.rfl ⟨_, rfl⟩
  · exact .inl (PyProof.noPylong_small (by lia))
theorem BinR.mod {a b : Int} (h0 : 0 < b) : BinR prog w .Mod (.int a) (.int b) (.int (a % b)) := by
  rintro A s _ _ Q E _ ⟨t, rfl⟩ ⟨u, rfl⟩ k
  refine PyProof.Rows.mod_int' (by lia) ?_
  rw [Int.fmod_eq_emod_of_nonneg a (by lia)]
  exact k _ _ _ Sub.rfl ⟨_, rfl⟩

theorem call_range_reversed {A : Around} {E Q : Value → Shared → Prop} {s : Shared} {r : Addr} {n : Nat} {t u v : Tok} (hr : IsRange s.heap r 0 n 1 t u v) (hn : n < 1000000)
    (h : Q (.ref s.heap.objs.size) { s with heap := s.heap.push { cls := .type "range_iterator", data := .fields #[rawInt ((n : Int) - 1), rawInt n, rawInt (-1)] } }) : wpAny (model prog w) A (call (.builtin "range.__reversed__") [.ref r]) Q E s := by
  have e1 : Builtin.Range.rangeSize 0 (n : Int) 1 = n := by rw [rangeSize_one]; split <;> lia
  refine wpAny_call_entry F.slot_range_reversed ⟨_, hr, rfl⟩ F.entry_range_reversed ?_ (F.args_range_reversed_1 _)
  unfold Builtin.«range.__reversed__»
  refine wpAny_bind (wpAny_of_eq (a := Value.ref r) rfl ?_)
  unfold Builtin.Range.rangeFields
  have ai : ∀ (i : Int) (t : Tok), asInt? (.int i t) = pure (some i) := fun _ _ => rfl
  refine wpAny_bind (wpAny_bind (wpAny_field hr rfl (x := .int 0 t) rfl ?_))
  refine wpAny_bind (wpAny_of_eq (ai _ _) ?_)
  refine wpAny_bind (wpAny_field hr rfl (x := .int n u) rfl ?_)
  refine wpAny_bind (wpAny_of_eq (ai _ _) ?_)
  refine wpAny_bind (wpAny_field hr rfl (x := .int 1 v) rfl ?_)
  refine wpAny_bind ?_
  rw [ai]
  refine wpAny_pure ?_
  refine wpAny_pure ?_
  dsimp only
  rw [e1]
  have hs : (Builtin.Range.rangeFitsLong 0 && Builtin.Range.rangeFitsLong (n : Int) && Builtin.Range.rangeFitsLong 1 && Builtin.Range.rangeFitsLong (-1) && Builtin.Range.rangeFitsLong (0 - 1) && Builtin.Range.rangeFitsLong (n : Int)) = true := by
    simp only [Builtin.Range.rangeFitsLong, Bool.and_eq_true, decide_eq_true_eq]; lia
  rw [hs]
  have e2 : (0 : Int) + ((n : Int) - 1) * 1 = (n : Int) - 1 := by lia
  rw [e2]
  simp only [Bool.not_true, Bool.false_eq_true, if_false, if_true]
  show wpAny _ _ (newFields "range_iterator" [rawInt ((n : Int) - 1), rawInt n, rawInt (-1)] >>= _) _ _ s
  exact wpAny_bind (wpAny_newObj_type (wpAny_pure ⟨_, rfl, h⟩))

theorem code_reversed_new_range {A : Around} {E Q₁ : Value → Shared → Prop} {s : Shared} {r : Addr} {n : Nat} {t u v : Tok} (hr : IsRange s.heap r 0 n 1 t u v) (hn : n < 1000000)
    (h : Q₁ (.ref s.heap.objs.size) { s with heap := s.heap.push { cls := .type "range_iterator", data := .fields #[rawInt ((n : Int) - 1), rawInt n, rawInt (-1)] } }) :
    codeAny (model prog w) A (.call (.builtin "reversed.__new__") ⟨[.type "reversed", .ref r], []⟩) (wants Q₁ E) s := by
  have hT : s.TypeIs (.ref r) "range" := ⟨_, hr, rfl⟩
  refine codeAny_of_tree ?_
  show wpAny _ A.in1 (do checkBuiltinCall "reversed.__new__" ⟨[.type "reversed", .ref r], []⟩; again (.builtin "reversed.__new__" ⟨[.type "reversed", .ref r], []⟩)) _ _ s
  refine wpAny_bind (wpAny_of_eq (F.newCall_reversed_1 _) (wpAny_pure ⟨plainId_quiet F.plain_reversed_new _, codeAny_builtin F.entry_reversed_new ?_⟩))
  rw [Around.under_plainId F.plain_reversed_new _]
  unfold Builtin.«reversed.__new__»
  refine wpAny_bind (wpAny_of_eq (newClass_reversed _) ?_)
  try dsimp only
  refine wpAny_bind (wpAny_of_eq (a := ()) (by first | rfl | kernel_rfl) ?_)
  refine wpAny_bind (wpAny_of_eq (a := ()) (by first | rfl | kernel_rfl) ?_)
  try dsimp only
  refine wpAny_bind (wpAny_specialOf hT F.slot_range_reversed.lookup ?_)
  try dsimp only
  refine wpAny_bind (wpAny_of_eq (F.slot_range_reversed.bind _) ?_)
  try dsimp only
  first
  | rw [if_neg (show ¬ ((Value.builtin "range.__reversed__" == Value.none) = true) from Bool.false_ne_true)]
  | (show wpAny _ _ (if (Value.builtin "range.__reversed__" == Value.none) = true then _ else _) _ _ _; rw [if_neg (show ¬ ((Value.builtin "range.__reversed__" == Value.none) = true) from Bool.false_ne_true)])
  refine wpAny_bind (wpAny_rule ?_)
  refine wpAny_bind (m := runValue (.call (.builtin "range.__reversed__") ⟨[.ref r], []⟩)) (show wpAny _ _ (call (.builtin "range.__reversed__") [.ref r]) _ _ _ from call_range_reversed hr hn ?_)
  first
  | exact wpAny_pure h
  | exact wpAny_bind (wpAny_pure (wpAny_pure h))

theorem call_reversed_range {A : Around} {E Q : Value → Shared → Prop} {s : Shared} {r : Addr} {n : Nat} {t u v : Tok} (hr : IsRange s.heap r 0 n 1 t u v) (hn : n < 1000000)
    (h : Q (.ref s.heap.objs.size) { s with heap := s.heap.push { cls := .type "range_iterator", data := .fields #[rawInt ((n : Int) - 1), rawInt n, rawInt (-1)] } }) : wpAny (model prog w) A (call (.type "reversed") [.ref r]) Q E s := by
  refine callType_other (U := "range_iterator") (Q₁ := fun obj s₁ => obj = .ref s.heap.objs.size ∧ s₁ = { s with heap := s.heap.push { cls := .type "range_iterator", data := .fields #[rawInt ((n : Int) - 1), rawInt n, rawInt (-1)] } }) (by decide +kernel) F.create_reversed ⟨_, _, F.mro_reversed⟩ F.made_reversed sub_ri_reversed (F.typeCall_reversed_1 _) (code_reversed_new_range hr hn ⟨rfl, rfl⟩) ?_
  rintro obj s₁ ⟨rfl, rfl⟩
  exact ⟨⟨_, Heap.get?_push_size _ rfl, rfl⟩, h⟩

/-- for … in reversed(range(n)) -/
theorem IterR.rev {target e : Expr} {np pos : Pos} {n : Nat} (Z : Base B mg mb fa) (C : c.Ok) (hk : c.env.kindOf (Str.ofString "reversed") = some .globalImplicit) (he : EvRg prog w B d c σ e 0 n 1) (hn : n < 1000000)
    (go : ∀ it v, letOwnedTupleGo target it v = pure () := by intro _ _; rfl) (hs : ∀ env, starEach [e] env = (false, eval e env) :: starEach [] env := by intro _; rfl) :
    IterR prog w B d c σ target (.Call (.Name (Str.ofString "reversed") np) [e] [] pos) σ [] n (fun i => .int (((n : Int) - 1) + i * (-1))) :=
  fun h0 A s Q E bb ok R q => by
    have hp : ∀ pos, (backTo pos (starEach [e] c.env)).any (·.1) = false := fun pos => by rw [hs]; rfl
    refine wpAny_Call_ofName (((EvE.bl Z C (by decide +kernel) boot_reversed hk : EvE prog w B d c σ (.Name (Str.ofString "reversed") np) (.val (.type "reversed")))) h0 A s _ E bb ok R fun v h1 t1 s1 r1 => ?_)
    obtain rfl : v = .type "reversed" := r1
    refine (Callee.typ "reversed").call Z.toBs bb (hp _) (evalArgsM (hp _) (wpAny_items_cons (he h0 A _ _ E bb ok (R.sub s1) fun r h2 t2 t u v s2 hr => wpAny_items_nil ⟨((R.sub s1).sub s2).keep, ?_⟩) (hs _)))
    refine call_reversed_range hr hn (wpAny_pyIter_rangeiter (Heap.get?_push_size _ rfl) (q _ _ _ [h2.objs.size] [h2.objs.size] (fun i v => ∃ t, v = .int (((n : Int) - 1) + i * (-1)) t) (fun i h => IsRangeIter h h2.objs.size (((n : Int) - 1) + (i : Nat) * (-1)) ((n : Int) - (i : Nat)) (-1)) ((s1.trans s2).trans (Sub.push _ _)).hard
      (iterNew (s := { s with heap := h2, toks := t2 }) ((R.sub s1).sub s2) (Walks.range (prog := prog) (w := w) (A := A) ok.1 h2.objs.size ((n : Int) - 1) (-1) n) ?_ rfl ?_ ?_ go)))
    · show IsRangeIter _ _ _ _ _
      simpa using Heap.get?_push_size _ rfl
    · intro i h e
      exact ⟨_, e, notHard_cls rfl (by decide) (by decide)⟩
    · rintro i v h' ⟨t, rfl⟩
      exact ⟨t, rfl⟩
end
end Mine

/-! ## W12 -/
namespace Mine
section
variable {prog : Program} {w : World} {B : Heap → Prop} {mg mb : Str → Option Value} {fa : Nat → Addr} {d : Nat} {c : Cx} {σ : St}

/-- an if that stands last -/
theorem ExSs.ifL {t : Expr} {x y : List Stmt} {pos : Pos} {b : Bool} {P : FL → St → Prop} (ht : EvB prog w B d c σ t b) (hx : b = true → ExSs prog w B d c σ x P) (hy : b = false → ExSs prog w B d c σ y P) : ExSs prog w B d c σ [.If t x y pos] P :=
  ExSs.cons (ExS.ite ht hx hy) (fun _ p => ExSs.nil p) (fun _ _ _ p => p)
/-- a sign in a text -/
theorem CmpR.inS {x : List Nat} {ch : Nat} : CmpR prog w .In (.str [ch]) (.str x) (decide (ch ∈ x)) := by
  rintro A s _ _ Q E _ _ ⟨t, rfl⟩ ⟨u, rfl⟩ h
  refine P.in_str ?_
  have := StrLaws.found_one (S x) ch
  rw [show (S [ch]) = (⟨#[ch]⟩ : Str) from rfl, this]
  simpa using h s.heap s.toks Sub.rfl
theorem CmpR.notInS {x : List Nat} {ch : Nat} : CmpR prog w .NotIn (.str [ch]) (.str x) (!decide (ch ∈ x)) := by
  rintro A s _ _ Q E _ _ ⟨t, rfl⟩ ⟨u, rfl⟩ h
  refine P.notIn_str ?_
  have := StrLaws.found_one (S x) ch
  rw [show (S [ch]) = (⟨#[ch]⟩ : Str) from rfl, this]
  simpa using h s.heap s.toks Sub.rfl

/-- x in (a, b): texts -/
theorem EvB.inTup2 {l e1 e2 : Expr} {k : Nat} {p pos : Pos} {x a b : List Nat} (hl : EvE prog w B d c σ l (.str x)) (h1 : EvE prog w B d c σ e1 (.str a)) (h2 : EvE prog w B d c σ e2 (.str b))
    (hs1 : ∀ env, starEach [e1, e2] env = [(false, eval e1 env), (false, eval e2 env)] := by intro _; rfl) (hm : behindInMarks .In (.Tuple [e1, e2] k p) = false := by with_unfolding_all rfl) :
    EvB prog w B d c σ (.Compare l [.In] [.Tuple [e1, e2] k p] pos) (x == a || x == b) :=
  fun h0 A s Q E bb ok R q => wpAny_isTrue_Compare1 (hl h0 A s _ E bb ok R fun v0 g0 t0 s0 r0 => wpAny_Tuple (by
    rw [hs1]
    refine Calls.spliced_cons (h1 h0 A _ _ E bb ok (R.sub s0) fun v1 g1 t1 s1 r1 => ?_)
    refine Calls.spliced_cons (h2 h0 A _ _ E bb ok ((R.sub s0).sub s1) fun v2 g2 t2 s2 r2 => ?_)
    refine Calls.spliced_nil ⟨by show 2 ≤ 2 ^ 24; decide, ?_⟩
    obtain ⟨u0, rfl⟩ := r0; obtain ⟨u1, rfl⟩ := r1; obtain ⟨u2, rfl⟩ := r2
    refine PySem.SeqAt.in_tupleAt (items := #[.str (S a) u1, .str (S b) u2]) (isStrOf (S x)) ⟨_, Heap.get?_push_size _ rfl, rfl, 0, rfl⟩ (fun y hy => ?_) ?_
    · have hy' : y = .str (S a) u1 ∨ y = .str (S b) u2 := by simpa using hy
      rcases hy' with rfl | rfl
      · exact (eqGives_str _ _ _ _).at _ _
      · exact (eqGives_str _ _ _ _).at _ _
    · refine wpAny_truthy_bool ?_
      have : (#[Value.str (S a) u1, Value.str (S b) u2].any (isStrOf (S x))) = (x == a || x == b) := by
        simp only [isStrOf, List.any_toArray, List.any_cons, List.any_nil, Bool.or_false, S_beq]
        rw [Bool.beq_comm (a := a), Bool.beq_comm (a := b)]
      rw [this]
      exact q _ _ ((s0.trans (s1.trans s2)).trans (Sub.push _ _)))) hm

end
end Mine

/-! ## W13 -/
namespace Mine
/-! find, rfind -/
noncomputable def atF (s sub : List Nat) (i : Nat) : Bool := decide (i + sub.length ≤ s.length) && ((s.drop i).take sub.length == sub)
noncomputable def occF (s sub : List Nat) (lo : Nat) : List Nat := (List.range' lo (s.length + 1 - lo)).filter (atF s sub)
noncomputable def optI : Option Nat → Int
  | none => -1
  | some i => i
theorem at_iff (s sub : List Nat) (i : Nat) : StrLaws.At (S s) (S sub) (S s).length i ↔ atF s sub i = true := by
  unfold StrLaws.At atF
  rw [StrLaws.subAt_eq, S_length, S_length, Bool.and_eq_true, decide_eq_true_eq]
theorem find3_eq (s sub : List Nat) (lo : Nat) : Txt.find3 (S s) (S sub) (lo : Int) = optI (occF s sub lo).head? := by
  unfold Txt.find3
  have hf : fromIndex (S s).length (lo : Int) = lo := by unfold fromIndex; lia
  rw [hf]
  unfold occF
  rcases StrLaws.occ_head_from (S s) (S sub) lo 1 (Nat.le_refl _) with ⟨h, hn⟩ | ⟨i, r, h, hlo, hi, hn⟩
  · rw [h]
    have : (List.range' lo (s.length + 1 - lo)).filter (atF s sub) = [] := by
      rw [List.filter_eq_nil_iff]
      intro a ha q
      exact hn a (List.mem_range'_1.mp ha).1 ((at_iff s sub a).mpr q)
    rw [this]; rfl
  · rw [h]
    have h2 := (at_iff s sub i).mp hi
    have hle : i ≤ s.length := by have := hi.1; rw [S_length, S_length] at this; lia
    have : ((List.range' lo (s.length + 1 - lo)).filter (atF s sub)).head? = some i := by
      rw [List.head?_filter, List.find?_range'_eq_some]
      refine ⟨h2, by rw [List.mem_range'_1]; lia, fun j h1 h2 => ?_⟩
      have := hn j h1 h2
      rw [at_iff] at this
      simpa using this
    rw [this]; rfl
theorem last_fold (s sub : List Nat) : ∀ (l : List Nat) (st : Option Nat), (forIn l st (StrLaws.lastBody (S s) (S sub) (S s).length)).run = ((l.filter (atF s sub)).getLast?).or st
  | [], st => by simp
  | a :: l, st => by
    rw [List.forIn_cons]
    unfold StrLaws.lastBody
    by_cases h : StrLaws.At (S s) (S sub) (S s).length a
    · have h' : a + (S sub).length ≤ (S s).length ∧ Builtin.Str.subAt (S s) (S sub) a = true := h
      rw [if_pos h', List.filter_cons_of_pos ((at_iff s sub a).mp h)]
      refine (last_fold s sub l (some a)).trans ?_
      rw [List.getLast?_cons]
      cases (List.filter (atF s sub) l).getLast? <;> simp
    · have h' : ¬ (a + (S sub).length ≤ (S s).length ∧ Builtin.Str.subAt (S s) (S sub) a = true) := h
      rw [if_neg h', List.filter_cons_of_neg (fun q => h ((at_iff s sub a).mpr q))]
      exact last_fold s sub l st
theorem gives_rfind (s sub : List Nat) (lo : Nat) (t u v : Tok) : Gives (Builtin.«str.rfind» ⟨[.str (S s) t, .str (S sub) u, .int lo v], []⟩) (.int (optI (occF s sub lo).getLast?)) := by
  have hf : fromIndex (S s).length (lo : Int) = lo := by unfold fromIndex; lia
  show Gives (match Builtin.Str.lastOccurrence (S s) (S sub) (fromIndex (S s).length lo) (min (S s).length (S s).length) with | some i => retInt i | none => (do rule "str.rfind.not-found"; retInt (-1))) _
  rw [Nat.min_self, hf, StrLaws.last_eq, last_fold, Option.or_none, S_length]
  show Gives (match (occF s sub lo).getLast? with | some i => retInt i | none => (do rule "str.rfind.not-found"; retInt (-1))) _
  cases (occF s sub lo).getLast? with
  | none => exact .rule (.of_eq rfl)
  | some i => exact .of_eq rfl

section
variable {prog : Program} {w : World} {B : Heap → Prop} {mg mb : Str → Option Value} {fa : Nat → Addr} {d : Nat} {c : Cx} {σ : St}

theorem CallP.find {s sub : List Nat} {lo : Nat} : CallP prog w d c σ (.builtin "str.find") [.str s, .str sub, .int lo] (.int (optI (occF s sub lo).head?)) := by
  rintro h0 A sh vals Q E ok R r k
  revert vals; refine VRs.ssi fun t u v => ?_
  · skip
    refine SC.find3 ?_
    rw [find3_eq]
    exact k _ sh.heap _ Sub.rfl ⟨_, rfl⟩
theorem CallP.rfind {s sub : List Nat} {lo : Nat} : CallP prog w d c σ (.builtin "str.rfind") [.str s, .str sub, .int lo] (.int (optI (occF s sub lo).getLast?)) := by
  rintro h0 A sh vals Q E ok R r k
  revert vals; refine VRs.ssi fun t u v => ?_
  · skip
    exact call_gives F.slot_str_rfind (typeIs_str _ _ _) F.entry_str_rfind (F.args_str_rfind_3 _ _ _) (gives_rfind s sub lo t u v) (k _ sh.heap _ Sub.rfl ⟨_, rfl⟩)

theorem EvE.neg {e : Expr} {pos : Pos} {i : Int} (he : EvE prog w B d c σ e (.int i)) : EvE prog w B d c σ (.UnaryOp .USub e pos) (.int (-i)) :=
  fun h0 A s Q E b ok R k => wpAny_UnaryOp (he h0 A s _ E b ok R fun v h1 t1 s1 r1 => by
    obtain ⟨t, rfl⟩ := r1
    exact PyProof.Rows.neg_int (k _ h1 (t1 + 1) s1 ⟨_, rfl⟩))

/-- xs.append(e), e a new thing -/
theorem ExSs.appendM {o e : Expr} {ap p1 p2 : Pos} {a : Addr} {xs0 : List PV} {P1 : PV → Ledger → Prop} {ts : List Stmt} {P : FL → St → Prop} (ho : EvE prog w B d c σ o (.ref a)) (hm : (a, MO.lst xs0) ∈ σ.mem) (he : EvM prog w B d c σ e P1)
    (h : ∀ pv m, P1 pv m → ∃ xs m', Put a (.lst xs) (.lst (xs ++ [pv])) m m' ∧ xs.length < 16777216 ∧ ExSs prog w B d c ⟨σ.vars, m'⟩ ts P)
    (hb : attributeBase o (Str.ofString "append") c.env (eval o c.env) = eval o c.env := by rfl) (hp : (Pos.endLine ap == Pos.line p1) = true := by rfl) (hi : interactive c.env = false := by first | rfl | (apply Cx.Ok.inter; assumption))
    (hbt : ∀ env, backTo p1 (starEach [e] env) = [(false, eval e env)] := by intro _; rfl)
    (hw : swapsWith (.Call (.Attribute o (Str.ofString "append") ap) [e] [] p1) none p2.line c.env = pure false := by rfl) :
    ExSs prog w B d c σ (.Expr (.Call (.Attribute o (Str.ofString "append") ap) [e] [] p1) p2 :: ts) P :=
  ExSs.next (P1 := fun σ' => ExSs prog w B d c σ' ts P) (fun h0 A s Q E bb ok R q => wpAny_Expr (wpAny_Call_append hb (by rw [hbt]; rfl) hp (hbt _) (ho h0 A s _ E bb ok R fun v1 h1 t1 s1 r1 => by
    obtain rfl : v1 = .ref a := r1
    obtain ⟨vs, n, e1, r⟩ := ((R.sub s1).mem.at_ _ hm).1
    refine ⟨a, vs, rfl, ⟨_, n, e1, rfl, rfl, rfl⟩, he h0 A _ _ E bb ok (R.sub s1) fun pv m v2 h2 t2 p hs2 R2 r2 => ?_⟩
    obtain ⟨xs, m', pu, hl, hx⟩ := h pv m p
    exact callAppend R2 pu r2 hl fun h3 t3 hh R3 => q .next _ .next h3 t3 ⟨rfl, hx⟩ R3 trivial)) hi hw) fun _ q => q

/-- o[k] op= e, o a list -/
theorem ExSs.augIdx {o i e : Expr} {tpos pos : Pos} {op : Operator} {a : Addr} {xs : List PV} {pa pb pv : PV} {k : Int} {m' : Ledger} {ts : List Stmt} {P : FL → St → Prop} (ho : EvE prog w B d c σ o (.ref a)) (hi : EvE prog w B d c σ i (.int k)) (h0 : 0 ≤ k) (hk : xs[k.toNat]? = some pa) (he : EvE prog w B d c σ e pb)
    (hop : InpR prog w op pa pb pv) (hl : xs.length ≤ 16777216) (p : Put a (.lst xs) (.lst (xs.set k.toNat pv)) σ.mem m') (h : ExSs prog w B d c ⟨σ.vars, m'⟩ ts P)
    (hst : ∀ ov iv new, augStore i ov iv new = (do holding [new, ov, iv] (setItem ov iv new); release [new, ov, iv] []; pure .next) := by intros; rfl) : ExSs prog w B d c σ (.AugAssign (.Subscript o i tpos) op e pos :: ts) P :=
  ExSs.next (P1 := fun σ' => σ' = ⟨σ.vars, m'⟩) (fun g A s Q E bb ok R q => wpAny_AugAssign_SubscriptAny (ho g A s _ E bb ok R fun v1 h1 t1 s1 r1 => hi g A _ _ E bb ok (R.sub s1) fun v2 h2 t2 s2 r2 => by
    obtain rfl : v1 = .ref a := r1
    obtain ⟨t, rfl⟩ := r2
    have R2 := (R.sub s1).sub s2
    obtain ⟨vs, hvl, hv⟩ := R2.lst p.mem
    have hlen := hv.length
    have hkl : k.toNat < xs.length := (List.getElem?_eq_some_iff.mp hk).1
    obtain ⟨v, e1, r⟩ := hv.get hk
    refine wpAny_getItem_list (s := { s with heap := h2, toks := t2 }) hvl h0 (by lia) (by simpa using e1) (he g A _ _ E bb ok R2 fun v3 h3 t3 s3 r3 => hop A { s with heap := h3, toks := t3 } v v3 _ E ok.un (r.hsub s3.hard) r3 fun v4 h4 t4 s4 r4 => ?_)
    have R4 := (R2.sub s3).sub s4
    obtain ⟨ws, n, e4, rw4⟩ := (R4.mem.at_ _ p.mem).1
    have hlen4 := rw4.length
    simp only [Array.length_toList] at hlen4
    refine ki_setAt e4 h0 (by lia) (by lia) ?_
    obtain ⟨hh, R'⟩ := R4.put p (h' := h4.update a (Obj.mapSeq fun x => x.setIfInBounds k.toNat v4)) (fun b o q e => (Heap.get?_update_ne _ _ _ _ q).trans e) (fun hh => MR.setAt e4 rw4 r4 hh rfl)
    exact q .next _ .next _ t4 ⟨rfl, rfl⟩ R' trivial) hst) fun _ q => q ▸ h

/-- x, y = a list of two -/
theorem unpackList2 {A : Around} {s : Shared} {E : Value → Shared → Prop} {Q : List Value → Shared → Prop} {l : Addr} {x y : Value} (hh : A.handled = none) (hl : s.heap.IsList l #[x, y])
    (hQ : ∀ h' tk, Sub s.heap h' → Q [x, y] { s with heap := h', toks := tk }) : wpAny (model prog w) A (unpackItems (.ref l) 2 none) Q E s := by
  have hlt : l < s.heap.objs.size := by obtain ⟨o, ho, _⟩ := hl; exact Heap.lt_size ho
  unfold unpackItems
  refine wpAny_bind ?_
  unfold notIterableAtAll
  refine wpAny_bind (wpAny_specialOf hl.typeIs slot_list_iter.lookup ?_)
  refine wpAny_pure ?_
  simp only [Bool.false_eq_true, if_false]
  refine wpAny_bind (wpAny_holding (wpAny_pyIter_list hl ?_))
  have W := Walks.list (prog := prog) (w := w) (A := A) hh s.heap.objs.size l (Nat.ne_of_lt hlt) #[x, y]
  have up : ∀ h' : Heap, (∀ b o, b ∉ [s.heap.objs.size] → (s.heap.push { cls := .type "list_iterator", data := .fields #[.ref l, .int 0 0] }).get? b = some o → h'.get? b = some o) → Sub s.heap h' := fun h' k b o e =>
    k b o (by simpa using Nat.ne_of_lt (Heap.lt_size e)) (Heap.get?_push_of_some _ e)
  show wpAny _ _ (holding [_] (draw (.ref s.heap.objs.size) 2) >>= _) _ _ _
  refine wpAny_bind (wpAny_holding ?_)
  show wpAny _ _ (pyNext (.ref s.heap.objs.size) >>= _) _ _ _
  refine wpAny_bind (W.item 0 _ _ _ (by simp) ⟨⟨_, Heap.get?_push_size _ rfl, rfl, rfl⟩, hl.at fun o e => Heap.get?_push_of_some _ e⟩ fun v1 h1 t1 p1 st1 k1 => ?_)
  dsimp only at p1 ⊢
  have p1' : x = v1 := by simpa using p1
  subst p1'
  refine wpAny_bind (wpAny_holding ?_)
  show wpAny _ _ (pyNext (.ref s.heap.objs.size) >>= _) _ _ _
  refine wpAny_bind (W.item 1 _ _ _ (by simp) st1 fun v2 h2 t2 p2 st2 k2 => ?_)
  dsimp only at p2 ⊢
  have p2' : y = v2 := by simpa using p2
  subst p2'
  refine wpAny_bind (wpAny_holding ?_)
  show wpAny _ _ (pure []) _ _ _
  refine wpAny_pure (wpAny_pure (wpAny_pure ?_))
  rw [if_neg (by simp)]
  refine wpAny_bind (wpAny_holding (W.done _ _ _ st2 fun h3 t3 k3 => ?_))
  simp only [Option.isSome_none, Bool.false_eq_true, if_false]
  exact wpAny_pure (hQ h3 t3 (up h3 fun b o hb e => k3 b o hb (k2 b o hb (k1 b o hb e))))

theorem AsgR.two {x y : Str} {px py pos : Pos} {kk : Nat} {a : Addr} {p q : PV} (i j : Nat) (C : c.Ok) (hrw : c.rw = true) (hi : c.names[i]? = some x) (hj : c.names[j]? = some y) (hm : (a, MO.lst [p, q]) ∈ σ.mem) :
    AsgR prog w B d c σ (.Tuple [.Name x px, .Name y py] kk pos) (.ref a) ⟨(σ.vars.set i p).set j q, σ.mem⟩ := by
  intro h0 A s v Q E b ok R vr k
  obtain rfl : v = .ref a := vr
  obtain ⟨vs, hvl, hv⟩ := R.lst hm
  revert hvl; revert vs; refine VRs.e2 fun v1 v2 r1 r2 hvl => ?_
  · skip
    rw [arm_assign_Tuple]
    refine wpAny_bind (wpAny_standAt ?_)
    unfold unpack
    show wpAny _ _ (holding [_] (unpackItems (.ref a) 2 none) >>= _) _ _ _
    refine wpAny_bind (wpAny_holding (unpackList2 ok.1 hvl fun h1 t1 s1 => ?_))
    show wpAny _ _ (assignInOrder [assign (.Name x px) c.env, assign (.Name y py) c.env] [v1, v2]) _ _ _
    unfold assignInOrder
    refine wpAny_bind (wpAny_holding (wpAny_assign_Name (storeVar C hrw (R.sub s1) hi (r1.hsub s1.hard) fun h2 t2 hs2 R2 => ?_)))
    unfold assignInOrder
    refine wpAny_bind (wpAny_holding (wpAny_assign_Name (storeVar C hrw R2 hj ((r2.hsub s1.hard).hsub hs2) fun h3 t3 hs3 R3 => ?_)))
    unfold assignInOrder
    exact wpAny_pure (k h3 t3 (s1.hard.trans (hs2.trans hs3)) R3)
end
end Mine

/-! ## W14 -/
namespace Mine
/-! lists compared -/
noncomputable def EqF {α : Type} [DecidableEq α] (f : α → PV) : Prop := ∀ (a b : α) (x y : Value) (A : Around) (s : Shared), VR s.heap (f a) x → VR s.heap (f b) y → PySem.SeqAt.EqAt A s x y (decide (a = b))
theorem EqF.int : EqF PV.int := by
  rintro a b _ _ A s ⟨t, rfl⟩ ⟨u, rfl⟩ prog w E Q h
  exact wpAny_eqBool_int (by rw [show (a == b) = decide (a = b) from rfl]; exact h)
theorem EqF.nat : EqF (fun n : Nat => PV.int n) := by
  rintro a b _ _ A s ⟨t, rfl⟩ ⟨u, rfl⟩ prog w E Q h
  refine wpAny_eqBool_int ?_
  have : ((a : Int) == (b : Int)) = decide (a = b) := by rw [Bool.eq_iff_iff, beq_iff_eq, decide_eq_true_eq]; lia
  rw [this]; exact h
theorem EqF.str : EqF PV.str := by
  rintro a b _ _ A s ⟨t, rfl⟩ ⟨u, rfl⟩ prog w E Q h
  refine eqBool_str ?_
  have : (S a == S b) = decide (a = b) := by rw [S_beq]; rw [Bool.eq_iff_iff]; simp
  rw [this]; exact h

section
variable {prog : Program} {w : World} {B : Heap → Prop} {mg mb : Str → Option Value} {fa : Nat → Addr} {d : Nat} {c : Cx} {σ : St}

theorem VRs.atMap {α : Type} {f : α → PV} {h : Heap} {xs : List α} {vs : List Value} (r : VRs h (xs.map f) vs) (j : Nat) (h1 : j < vs.length) (h2 : j < xs.length) : VR h (f xs[j]) vs[j] := by
  obtain ⟨v, e, x⟩ := r.get (i := j) (p := f xs[j]) (by simp [h2])
  rw [List.getElem?_eq_getElem h1] at e
  cases e; exact x

theorem all_range_eq {α : Type} [DecidableEq α] (xs ys : List α) (hl : xs.length = ys.length) : (List.range xs.length).all (fun j => decide (xs[j]? = ys[j]?)) = decide (xs = ys) := by
  rw [Bool.eq_iff_iff]
  simp only [List.all_eq_true, List.mem_range, decide_eq_true_eq]
  constructor
  · intro h
    refine List.ext_getElem? fun j => ?_
    by_cases hj : j < xs.length
    · exact h j hj
    · rw [List.getElem?_eq_none (by lia), List.getElem?_eq_none (by lia)]
  · rintro rfl _ _; rfl

theorem neLists {α : Type} [DecidableEq α] {f : α → PV} (hf : EqF f) {A : Around} {s : Shared} {Q E : Value → Shared → Prop} {a b : Addr} {xs ys : List α} {vs ws : List Value} (hu : A.units < cLine)
    (ha : s.heap.IsList a vs.toArray) (hv : VRs s.heap (xs.map f) vs) (hb : s.heap.IsList b ws.toArray) (hw : VRs s.heap (ys.map f) ws) (h : Q (.bool (decide (xs ≠ ys))) s) : wpAny (model prog w) A (compareOp .NotEq (.ref a) (.ref b)) Q E s := by
  have l1 := hv.length; have l2 := hw.length
  rw [List.length_map] at l1 l2
  show wpAny _ _ (richCompare .NotEq (.ref a) (.ref b)) _ _ _
  by_cases hl : xs.length = ys.length
  · refine PySem.SeqAt.RcNeAt.lists (e := fun j => decide (xs[j]? = ys[j]?)) ha hb (by simp; lia) hu (fun j h1 h2 => ?_) prog w E Q ?_
    · have h1' : j < vs.length := by simpa using h1
      have h2' : j < ws.length := by simpa using h2
      have x1 := hv.atMap j h1' (by lia)
      have x2 := hw.atMap j h2' (by lia)
      have := hf xs[j] ys[j] _ _ A.in1 s x1 x2
      rw [List.getElem?_eq_getElem (by lia), List.getElem?_eq_getElem (by lia)]
      simpa using this
    · have e : vs.toArray.size = xs.length := by simp [l1]
      rw [e, all_range_eq xs ys hl]
      have : (!decide (xs = ys)) = decide (xs ≠ ys) := by by_cases q : xs = ys <;> simp [q]
      rw [this]; exact h
  · refine PySem.SeqAt.RcNeAt.lists_lengths ha hb (by simp; lia) hu prog w E Q ?_
    have : decide (xs ≠ ys) = true := by
      rw [decide_eq_true_eq]; rintro rfl; exact hl rfl
    rw [this] at h; exact h
theorem eqLists {α : Type} [DecidableEq α] {f : α → PV} (hf : EqF f) {A : Around} {s : Shared} {Q E : Value → Shared → Prop} {a b : Addr} {xs ys : List α} {vs ws : List Value} (hu : A.units < cLine)
    (ha : s.heap.IsList a vs.toArray) (hv : VRs s.heap (xs.map f) vs) (hb : s.heap.IsList b ws.toArray) (hw : VRs s.heap (ys.map f) ws) (h : Q (.bool (decide (xs = ys))) s) : wpAny (model prog w) A (compareOp .Eq (.ref a) (.ref b)) Q E s := by
  have l1 := hv.length; have l2 := hw.length
  rw [List.length_map] at l1 l2
  by_cases hl : xs.length = ys.length
  · refine PySem.SeqAt.eq_listAt (e := fun j => decide (xs[j]? = ys[j]?)) ha hb (by simp; lia) hu (fun j h1 h2 => ?_) ?_
    · have h1' : j < vs.length := by simpa using h1
      have h2' : j < ws.length := by simpa using h2
      have x1 := hv.atMap j h1' (by lia)
      have x2 := hw.atMap j h2' (by lia)
      have := hf xs[j] ys[j] _ _ A.in1 s x1 x2
      rw [List.getElem?_eq_getElem (by lia), List.getElem?_eq_getElem (by lia)]
      simpa using this
    · have e : vs.toArray.size = xs.length := by simp [l1]
      rw [e, all_range_eq xs ys hl]
      exact h
  · refine PySem.SeqAt.eq_list_lengthsAt ha hb (by simp; lia) hu ?_
    have : decide (xs = ys) = false := by
      rw [decide_eq_false_iff_not]; rintro rfl; exact hl rfl
    rw [this] at h; exact h

/-- a list of the ledger held against a written one -/
theorem EvB.neDisp {α : Type} [DecidableEq α] {f : α → PV} (hf : EqF f) {l : Expr} {es : List Expr} {p pos : Pos} {a : Addr} {xs ys : List α} (hl : EvE prog w B d c σ l (.ref a)) (hm : (a, MO.lst (xs.map f)) ∈ σ.mem) (he : EvAs prog w B d c σ es (ys.map f)) (hn : ys.length ≤ 1000)
    (hmk : behindInMarks .NotEq (.List es p) = false := by with_unfolding_all rfl) : EvB prog w B d c σ (.Compare l [.NotEq] [.List es p] pos) (decide (xs ≠ ys)) :=
  fun h0 A s Q E b ok R k => wpAny_isTrue_Compare1 (hl h0 A s _ E b ok R fun v1 h1 t1 s1 r1 => wpAny_List (he h0 A _ p _ E b ok (R.sub s1) fun vs h2 t2 s2 r2 => by
    obtain rfl : v1 = .ref a := r1
    have hlen := r2.length
    rw [List.length_map] at hlen
    refine ⟨by show _ ≤ 2 ^ 24; lia, ?_⟩
    obtain ⟨us, hu, ru⟩ := ((R.sub s1).sub s2).lst hm
    refine neLists (s := { s with heap := _, toks := _ }) hf ok.un (hu.at fun o e => Heap.get?_push_of_some _ e) (ru.hsub (Sub.push _ _).hard) ⟨_, Heap.get?_push_size _ rfl, rfl, 0, rfl⟩ (r2.hsub (Sub.push _ _).hard) ?_
    exact wpAny_truthy_bool (k _ t2 ((s1.trans s2).trans (Sub.push _ _))))) hmk

/-! sets of ints -/
theorem EvB.notInSet {l r : Expr} {pos : Pos} {i : Int} {a : Addr} {T : Int → Bool} {n : Nat} (hl : EvE prog w B d c σ l (.int i)) (hr : EvE prog w B d c σ r (.ref a)) (hm : (a, MO.set T n) ∈ σ.mem)
    (hmk : behindInMarks .NotIn r = false := by with_unfolding_all rfl) : EvB prog w B d c σ (.Compare l [.NotIn] [r] pos) (!T i) :=
  fun h0 A s Q E b ok R k => wpAny_isTrue_Compare1 (hl h0 A s _ E b ok R fun v1 h1 t1 s1 r1 => hr h0 A _ _ E b ok (R.sub s1) fun v2 h2 t2 s2 r2 => by
    obtain ⟨t, rfl⟩ := r1
    obtain rfl : v2 = .ref a := r2
    have hS : h2.SetOf (intKind prog w) a T n := (((R.sub s1).sub s2).mem.at_ _ hm).1
    exact wpAny_notInSet_of (knd := intKind prog w) (k := i) (isInt_self i t) rfl hS (wpAny_truthy_bool (k h2 _ (s1.trans s2)))) hmk
theorem CallR.setAdd {a : Addr} {i : Int} {T : Int → Bool} {n : Nat} {m' : Ledger} {P : PV → Ledger → Prop} (p : Put a (.set T n) (.set (fun k => T k || decide (k = i)) (if T i then n else n + 1)) σ.mem m') (hn : n + 1 < 4096) (h : P (.val .none) m') :
    CallR prog w B d c σ (.builtin "set.add") [.ref a, .int i] P := by
  intro h0 A s vals Q E b ok R r k
  revert vals; refine VRs.vi fun t => ?_
  · skip
    have hS : s.heap.SetOf (intKind prog w) a T n := (R.mem.at_ _ p.mem).1
    refine call_set_add (knd := intKind prog w) (k := i) (isInt_self i t) rfl hS (by unfold scanBound; lia) fun h' hs hS' => ?_
    obtain ⟨hh, R'⟩ := R.put p (h' := h') (fun b o q e => hs.extBut b o q e) (fun _ => hS')
    exact k (.val .none) m' .none h' _ h hh R' rfl
theorem ExSs.setAdd {o e : Expr} {ap pos pos2 : Pos} {a : Addr} {i : Int} {T : Int → Bool} {n : Nat} {m' : Ledger} {ts : List Stmt} {P : FL → St → Prop} (ho : EvE prog w B d c σ o (.ref a)) (he : EvE prog w B d c σ e (.int i)) (p : Put a (.set T n) (.set (fun k => T k || decide (k = i)) (if T i then n else n + 1)) σ.mem m') (hn : n + 1 < 4096)
    (h : ExSs prog w B d c ⟨σ.vars, m'⟩ ts P) (hi : interactive c.env = false := by first | rfl | (apply Cx.Ok.inter; assumption))
    (hb : attributeBase o (Str.ofString "add") c.env (eval o c.env) = eval o c.env := by rfl) (hp : (Pos.endLine ap == Pos.line pos) = true := by rfl)
    (hs : ∀ env, starEach [e] env = (false, eval e env) :: starEach [] env := by intro _; rfl) (hw : swapsWith (.Call (.Attribute o (Str.ofString "add") ap) [e] [] pos) none pos2.line c.env = pure false := by rfl) :
    ExSs prog w B d c σ (.Expr (.Call (.Attribute o (Str.ofString "add") ap) [e] [] pos) pos2 :: ts) P :=
  ExSs.expr (P1 := fun pv m => pv = .val .none ∧ m = m') (EvM.meth ho (RecvT.set p.mem) F.plainAttrs_set F.slot_set_add F.type_set_add ((EvAs.one he hs).ms (P := fun pvs m => pvs = [.int i] ∧ m = σ.mem) ⟨rfl, rfl⟩) (fun _ _ q => by rw [q.1, q.2]; exact CallR.setAdd p hn ⟨rfl, rfl⟩) hb hp
    (by intro pos env; rw [hs]; rfl) (by intro pos env; rw [hs]; rfl)) (fun _ _ q => q.1) (fun m q => q.2 ▸ h) hi hw

/-- {e} -/
theorem EvM.setOne {D : Dfn} {e : Expr} {pos : Pos} {i : Int} {P : PV → Ledger → Prop} (hE : EnvOf B D c.env) (he : EvE prog w B d c σ e (.int i)) (h : ∀ a, P (.ref a) ((a, .set (fun k => false || decide (k = i)) 1) :: σ.mem))
    (hs : ∀ env, starEach [e] env = (false, eval e env) :: starEach [] env := by intro _; rfl) : EvM prog w B d c σ (.Set [e] 0 pos) P := by
  intro h0 A s Q E b ok R k
  rw [arm_eval_Set]
  refine wpAny_bind (wpAny_standAt ?_)
  obtain ⟨cc, o, vs, t, hc, ho, hd, _⟩ := (hE.code h0 b).keeps R.keep
  have main : ∀ (Q : Bool → Shared → Prop), (∀ b, Q b s) → wpAny (model prog w) A (inMainModule c.env) Q E s := by
    intro Q hq
    unfold inMainModule
    try dsimp only
    rw [hc]
    split
    · exact wpAny_pure (hq _)
    · refine wpAny_bind (wpAny_fieldsOf ho hd ?_)
      split
      · exact wpAny_bind (wpAny_askSetting (wpAny_pure (hq _)))
      · exact wpAny_pure (hq _)
  refine wpAny_bind (main _ fun bb => ?_)
  rw [hs]
  refine kds_core (ts := [do let v ← eval e c.env; standAt pos; pure v]) (by rfl) rfl (by show 1 ≤ 30; lia) rfl fun led => ?_
  have hS0 : (s.heap.push { cls := .type "set", dict := none, data := .set #[] 0 (.fresh 0 0 led) }).SetOf (intKind prog w) s.heap.objs.size (fun _ => false) 0 :=
    ⟨_, #[], 0, _, Heap.get?_push_size _ rfl, ⟨rfl, rfl, rfl⟩, rfl, fun e he => by simp at he, fun k => by simp, by decide, by rfl, rfl⟩
  have R0 := R.new (mo := .set (fun _ => false) 0) hS0
  show wpAny _ _ ((eval e c.env >>= fun v => standAt pos >>= fun _ => pure v) >>= fun v => holding [v] (evalAll []) >>= fun r => pure (v :: r)) _ _ _
  refine wpAny_bind (wpAny_bind (he h0 A _ _ E b ok (R.sub (Sub.push _ _)) fun v h1 t1 s1 r1 => ?_))
  obtain ⟨t, rfl⟩ := r1
  refine wpAny_bind (wpAny_standAt (wpAny_pure ?_))
  refine wpAny_bind (wpAny_holding (wpAny_pure (wpAny_pure ?_)))
  have R1 := R0.sub s1
  refine kds_fill_cons ?_
  unfold setAdd
  refine wpAny_holding (wpAny_bind ((intKind prog w).pyHash (isInt_self i t) ?_))
  refine wpAny_setAddHashed_of (knd := intKind prog w) (isInt_self i t) rfl (R1.mem.at_ _ (.head _)).1 (by decide) fun h' hsb hS' => ?_
  refine kds_fill_nil rfl ?_
  obtain ⟨hh, R2⟩ := R1.put (mo' := .set (fun k => false || decide (k = i)) 1) (.head) (h' := h') (fun b o q e => hsb.extBut b o q e) (fun _ => hS')
  exact k (.ref _) _ (.ref _) h' _ (h _) ((Sub.push _ _).hard.trans (s1.hard.trans hh)) R2 rfl

/-- x, y = divmod(a, b) -/
theorem ExSs.divmod {x y : Str} {px py pt np pc pos : Pos} {kk : Nat} {e1 e2 : Expr} {a b : Int} {ts : List Stmt} {P : FL → St → Prop} (i j : Nat) (Z : Base B mg mb fa) (C : c.Ok) (hrw : c.rw = true) (hi : c.names[i]? = some x) (hj : c.names[j]? = some y) (hk : c.env.kindOf (Str.ofString "divmod") = some .globalImplicit)
    (h1 : EvE prog w B d c σ e1 (.int a)) (h2 : EvE prog w B d c σ e2 (.int b)) (b0 : 0 < b) (b1 : b < 1000000) (h : ExSs prog w B d c ⟨(σ.vars.set i (.int (a / b))).set j (.int (a % b)), σ.mem⟩ ts P)
    (hs1 : ∀ env, starEach [e1, e2] env = (false, eval e1 env) :: starEach [e2] env := by intro _; rfl) (hs2 : ∀ env, starEach [e2] env = (false, eval e2 env) :: starEach [] env := by intro _; rfl) :
    ExSs prog w B d c σ (.Assign [.Tuple [.Name x px, .Name y py] kk pt] (.Call (.Name (Str.ofString "divmod") np) [e1, e2] [] pc) pos :: ts) P := by
  have hp : ∀ pos env, (backTo pos (starEach [e1, e2] env)).any (·.1) = false := fun pos env => by rw [hs1, hs2]; rfl
  refine ExSs.next (P1 := fun σ' => σ' = ⟨(σ.vars.set i (.int (a / b))).set j (.int (a % b)), σ.mem⟩) (fun h0 A s Q E bb ok R q => ?_) fun _ q => q ▸ h
  refine wpAny_Assign_stores ?_ rfl rfl
  refine wpAny_Call_ofName ((EvE.bl Z C (by decide +kernel) boot_divmod hk : EvE prog w B d c σ (.Name (Str.ofString "divmod") np) (.val (.builtin "divmod"))) h0 A s _ E bb ok R fun v g1 t1 s1 r1 => ?_)
  obtain rfl : v = .builtin "divmod" := r1
  refine (Callee.blt "divmod").call Z.toBs bb (hp _ _) (evalArgsM (hp _ _) ((EvAs.cons h1 (EvAs.one h2 hs2) hs1) h0 A _ pc _ E bb ok (R.sub s1) fun vs g2 t2 s2 r2 => ⟨((R.sub s1).sub s2).keep, ?_⟩))
  revert vs; refine VRs.ii fun t u => ?_
  · skip
    refine divmod_int (by lia) ?_ (.inl (PyProof.noPylong_small (by lia)))
    have R2 := ((R.sub s1).sub s2).sub (Sub.push g2 { cls := .type "tuple", data := .seq #[.int (a.fdiv b) t2, .int (a.fmod b) (t2 + 1)] })
    show wpAny _ _ (assign (.Tuple [.Name x px, .Name y py] kk pt) c.env (.ref g2.objs.size)) _ _ _
    refine wpAny_assign_Tuple ok.1 ⟨_, Heap.get?_push_size _ rfl, rfl, 0, rfl⟩ rfl rfl fun h' he => ?_
    show wpAny _ _ (assignInOrder [assign (.Name x px) c.env, assign (.Name y py) c.env] [_, _]) _ _ _
    have s3 : Sub (g2.push { cls := .type "tuple", data := .seq #[.int (a.fdiv b) t2, .int (a.fmod b) (t2 + 1)] }) h' := fun b o e => he b o (Nat.ne_of_lt (Heap.lt_size e)) e
    unfold assignInOrder
    refine wpAny_bind (wpAny_holding (wpAny_assign_Name (storeVar C hrw (R2.sub s3) hi (pv := .int (a / b)) ⟨t2, by rw [Int.fdiv_eq_ediv_of_nonneg a (by lia)]⟩ fun h2 t2 hs2 R2 => ?_)))
    unfold assignInOrder
    refine wpAny_bind (wpAny_holding (wpAny_assign_Name (storeVar C hrw R2 hj (pv := .int (a % b)) ⟨_, by rw [Int.fmod_eq_emod_of_nonneg a (by lia)]⟩ fun h3 t3 hs3 R3 => ?_)))
    unfold assignInOrder
    exact wpAny_pure (q .next _ .next h3 t3 ⟨rfl, rfl⟩ R3 trivial)

/-- a choice of new things -/
theorem EvM.ite {t x y : Expr} {pos : Pos} {b : Bool} {P : PV → Ledger → Prop} (ht : EvB prog w B d c σ t b) (hx : b = true → EvM prog w B d c σ x P) (hy : b = false → EvM prog w B d c σ y P) : EvM prog w B d c σ (.IfExp t x y pos) P :=
  fun h0 A s Q E bb ok R h => wpAny_IfExp (ht h0 A s _ E bb ok R fun h1 t1 s1 => by
    cases b with
    | true => exact hx rfl h0 A _ _ E bb ok (R.sub s1) fun pv m v h2 t2 p hs R2 r2 => h pv m v h2 t2 p (s1.hard.trans hs) R2 r2
    | false => exact hy rfl h0 A _ _ E bb ok (R.sub s1) fun pv m v h2 t2 p hs R2 r2 => h pv m v h2 t2 p (s1.hard.trans hs) R2 r2)
end
end Mine

/-! ## W15 -/
namespace Mine
/-! split at a sign -/
noncomputable def splitF (ch : Nat) : List Nat → List (List Nat)
  | [] => [[]]
  | x :: r => if x = ch then [] :: splitF ch r else match splitF ch r with
    | p :: ps => (x :: p) :: ps
    | [] => [[x]]
noncomputable def joinF (ch : Nat) : List (List Nat) → List Nat
  | [] => []
  | [p] => p
  | p :: q :: ps => p ++ ch :: joinF ch (q :: ps)
theorem splitF_ne (ch : Nat) (l : List Nat) : splitF ch l ≠ [] := by
  cases l with
  | nil => simp [splitF]
  | cons x r =>
    unfold splitF
    split
    · simp
    · split <;> simp
theorem splitF_join (ch : Nat) : ∀ (l : List Nat) (ps : List (List Nat)), ps ≠ [] → (∀ p ∈ ps, ch ∉ p) → joinF ch ps = l → splitF ch l = ps
  | [], ps, hne, hf, hj => by
    match ps, hne with
    | [p], _ => rw [joinF] at hj; subst hj; rfl
    | p :: q :: r, _ => rw [joinF] at hj; simp at hj
  | x :: l, ps, hne, hf, hj => by
    match ps, hne with
    | [p], _ =>
      rw [joinF] at hj
      subst hj
      have hx : x ≠ ch := fun e => hf (x :: l) (.head _) (e ▸ .head _)
      have hl : splitF ch l = [l] := splitF_join ch l [l] (by simp) (fun p hp q => by rw [List.mem_singleton.mp hp] at q; exact hf (x :: l) (.head _) (.tail _ q)) rfl
      rw [splitF, if_neg hx, hl]
    | [] :: q :: r, _ =>
      rw [joinF, List.nil_append] at hj
      injection hj with e1 e2
      subst e1
      rw [splitF, if_pos rfl, splitF_join ch l (q :: r) (by simp) (fun p hp => hf p (.tail _ hp)) e2]
    | (y :: p) :: q :: r, _ =>
      rw [joinF, List.cons_append] at hj
      injection hj with e1 e2
      subst e1
      have hx : y ≠ ch := fun e => hf (y :: p) (.head _) (e ▸ .head _)
      have hl := splitF_join ch l (p :: q :: r) (by simp) (fun p' hp q' => by
        rcases List.mem_cons.mp hp with rfl | hp
        · exact hf (y :: p') (.head _) (.tail _ q')
        · exact hf p' (.tail _ hp) q') (by rw [joinF]; exact e2)
      rw [splitF, if_neg hx, hl]
theorem join_S (ch : Nat) : ∀ (l : List Str), (Str.join (S [ch]) l).cps.toList = joinF ch (l.map (·.cps.toList))
  | [] => rfl
  | [x] => rfl
  | x :: y :: r => by
    rw [Str.join]
    · show (x ++ S [ch] ++ Str.join (S [ch]) (y :: r)).cps.toList = _
      simp only [Str.cps_append, Array.toList_append, join_S ch (y :: r)]
      simp [joinF]
    · simp
theorem split_S (s : List Nat) (ch : Nat) : Txt.split (S s) (S [ch]) = (splitF ch s).map S := by
  have h1 := StrLaws.join_split (S s) (S [ch])
  have h2 := StrLaws.split_free (S s) ch
  have h3 := join_S ch (Txt.split (S s) (S [ch]))
  rw [h1] at h3
  have hne : Txt.split (S s) (S [ch]) ≠ [] := by
    intro e
    have := split_pos (S s) (S [ch])
    rw [e] at this
    simp at this
  have := splitF_join ch s ((Txt.split (S s) (S [ch])).map (·.cps.toList)) (by simpa using hne) (fun p hp => by
    obtain ⟨q, hq, rfl⟩ := List.mem_map.mp hp
    exact h2 q hq) (by rw [← h3])
  rw [this, List.map_map]
  have : (S ∘ fun x : Str => x.cps.toList) = id := by funext x; exact S_toList x
  rw [this, List.map_id]

theorem VRs.strsFrom (h : Heap) : ∀ (l : List (List Nat)) (t : Nat), VRs h (l.map .str) (strsFrom t (l.map S))
  | [], _ => trivial
  | _ :: l, t => ⟨⟨t, rfl⟩, VRs.strsFrom h l (t + 1)⟩

theorem splitF_len (ch : Nat) (l : List Nat) : (splitF ch l).length ≤ l.length + 1 := by
  induction l with
  | nil => simp [splitF]
  | cons x r ih =>
    unfold splitF
    split
    · simp; lia
    · split
      · rename_i p ps e
        rw [e] at ih; simp at ih ⊢; lia
      · simp

section
variable {prog : Program} {w : World} {B : Heap → Prop} {mg mb : Str → Option Value} {fa : Nat → Addr} {d : Nat} {c : Cx} {σ : St}

theorem CallR.split {s : List Nat} {ch : Nat} {P : PV → Ledger → Prop} (hl : s.length ≤ 1000000) (h : ∀ a, P (.ref a) ((a, .lst ((splitF ch s).map .str)) :: σ.mem)) : CallR prog w B d c σ (.builtin "str.split") [.str s, .str [ch]] P := by
  intro h0 A sh vals Q E b ok R r k
  revert vals; refine VRs.ss fun t u => ?_
  · skip
    have sp := split_S s ch
    have fin : ∀ (vs : List Value) (tk : Nat), VRs (sh.heap.push (listO vs.toArray 0)) ((splitF ch s).map .str) vs → Q (.ref sh.heap.objs.size) { sh with heap := sh.heap.push (listO vs.toArray 0), toks := tk } := fun vs tk hv =>
      k (.ref sh.heap.objs.size) _ _ _ tk (h _) (Sub.push _ _).hard (R.new (mo := .lst ((splitF ch s).map .str)) ⟨vs.toArray, 0, Heap.get?_push_size _ rfl, by simpa using hv⟩) rfl
    have hx : (S s).length ≤ sizeLine := by rw [S_length]; show _ ≤ 2 ^ 24; lia
    have itself : Txt.split (S s) (S [ch]) = [S s] → VRs (sh.heap.push (listO #[.str (S s) t] 0)) ((splitF ch s).map .str) [.str (S s) t] := by
      intro e
      rw [e] at sp
      have : splitF ch s = [s] := by
        have := congrArg (List.map fun x : Str => x.cps.toList) sp
        rw [List.map_map] at this
        simpa [Function.comp_def] using this.symm
      rw [this]
      exact ⟨⟨t, rfl⟩, trivial⟩
    cases h1 : (decide ((S s).length < (S [ch]).length) || decide (Builtin.Str.strKind (S s) < Builtin.Str.strKind (S [ch])))
    · cases hf : (Builtin.Str.occurrences (S s) (S [ch]) 0 (S s).length ((S s).length + 1)).isEmpty
      · have e : Txt.split (S s) (S [ch]) = Builtin.Str.partsBetween (S s) (Builtin.Str.occurrences (S s) (S [ch]) 0 (S s).length ((S s).length + 1)) (S [ch]).length := by
          unfold Txt.split; rw [if_neg (by rw [h1]; decide), if_neg (by rw [hf]; decide)]
        have e2 := e.symm.trans sp
        refine call_meets F.slot_str_split (typeIs_str _ _ _) F.entry_str_split (F.args_str_split_2 _ _) (meets_str_split_sep (S s) (S [ch]) t u h1 rfl hf hx (by
          rw [e2, List.length_map]; have := splitF_len ch s; show _ ≤ 2 ^ 24; lia)) ?_
        rw [e2]
        exact fin _ _ (VRs.strsFrom _ _ _)
      · have e : Txt.split (S s) (S [ch]) = [S s] := by
          unfold Txt.split; rw [if_neg (by rw [h1]; decide), if_pos hf]
        exact call_meets F.slot_str_split (typeIs_str _ _ _) F.entry_str_split (F.args_str_split_2 _ _) (meets_str_split_not_found (S s) (S [ch]) t u h1 rfl hf) (fin [.str (S s) t] _ (itself e))
    · have e : Txt.split (S s) (S [ch]) = [S s] := by
        unfold Txt.split; rw [if_pos h1]
      exact call_meets F.slot_str_split (typeIs_str _ _ _) F.entry_str_split (F.args_str_split_2 _ _) (meets_str_split_cannot_occur (S s) (S [ch]) t u h1) (fin [.str (S s) t] _ (itself e))

/-! join -/
noncomputable def gl (vs : List Value) : List (Str × Tok) := vs.filterMap fun | .str x t => some (x, t) | _ => none
theorem VRs.strs {h : Heap} : ∀ {l : List (List Nat)} {vs : List Value}, VRs h (l.map .str) vs → ∃ g : List (Str × Tok), vs = strValues g ∧ g.map (·.1) = l.map S
  | [], [], _ => ⟨[], rfl, rfl⟩
  | x :: l, v :: vs, ⟨⟨t, e⟩, r⟩ => by
    obtain ⟨g, e1, e2⟩ := VRs.strs r
    exact ⟨(S x, t) :: g, by rw [e, e1]; rfl, by simp [e2]⟩
  | [], _ :: _, x => x.elim
  | _ :: _, [], x => x.elim
theorem foldl_len (l : List (List Nat)) : ∀ n, (l.map S).foldl (fun a (x : Str) => a + x.length + (S []).length) n = n + l.flatten.length := by
  induction l with
  | nil => intro n; simp
  | cons x l ih =>
    intro n
    rw [List.map_cons, List.foldl_cons, ih]
    simp only [S_length, List.flatten_cons, List.length_append, List.length_nil]; lia
theorem glued_S (l : List (List Nat)) : Txt.join (S []) (l.map S) = S l.flatten := by
  show Builtin.Str.glued (S []) (l.map S) = _
  unfold Builtin.Str.glued
  have key : ∀ (r : List (List Nat)) (acc : List Nat), (r.map S).foldl (fun a (p : Str) => a ++ (S []).cps ++ p.cps) acc.toArray = (acc ++ r.flatten).toArray := by
    intro r
    induction r with
    | nil => intro acc; simp
    | cons x r ih =>
      intro acc
      rw [List.map_cons, List.foldl_cons]
      have : acc.toArray ++ (S []).cps ++ (S x).cps = (acc ++ x).toArray := by simp
      rw [this, ih]; simp
  cases l with
  | nil => rfl
  | cons x r =>
    show (⟨_⟩ : Str) = _
    simp only [List.map_cons, List.drop_succ_cons, List.drop_zero, List.headD_cons]
    rw [key r x]; simp
theorem CallP.join {a : Addr} {l : List (List Nat)} (hm : (a, MO.lst (l.map .str)) ∈ σ.mem) (hl : l.flatten.length ≤ 16777216) : CallP prog w d c σ (.builtin "str.join") [.str [], .ref a] (.str l.flatten) := by
  intro h0 A sh vals Q E ok R r k
  revert vals; refine VRs.sv fun t => ?_
  · skip
    obtain ⟨vs, hv, rv⟩ := R.lst hm
    obtain ⟨g, e1, e2⟩ := rv.strs
    rw [e1] at hv
    refine SC.join hv e2 ?_ fun t' tk => ?_
    · unfold JoinOk
      rw [← Array.foldl_toList]
      show (!Builtin.Str.tooLong ((l.map S).foldl (fun a (x : Str) => a + x.length + (S []).length) 0)) = true
      rw [foldl_len]
      unfold Builtin.Str.tooLong sizeLine
      rw [Nat.zero_add]
      generalize l.flatten.length = n at hl
      simp; lia
    · rw [glued_S]
      exact k _ sh.heap tk Sub.rfl ⟨_, rfl⟩
theorem EvE.join {o e : Expr} {ap pos : Pos} {a : Addr} {l : List (List Nat)} (ho : EvE prog w B d c σ o (.str [])) (he : EvE prog w B d c σ e (.ref a)) (hm : (a, MO.lst (l.map .str)) ∈ σ.mem) (hl : l.flatten.length ≤ 16777216)
    (hb : attributeBase o (Str.ofString "join") c.env (eval o c.env) = eval o c.env := by rfl) (hp : (Pos.endLine ap == Pos.line pos) = true := by rfl)
    (hs : ∀ env, starEach [e] env = (false, eval e env) :: starEach [] env := by intro _; rfl) : EvE prog w B d c σ (.Call (.Attribute o (Str.ofString "join") ap) [e] [] pos) (.str l.flatten) :=
  EvE.meth ho RecvT.str F.plainAttrs_str F.slot_str_join F.type_str_join (EvAs.one he hs) (CallP.join hm hl) hb hp (by intro pos env; rw [hs]; rfl) (by intro pos env; rw [hs]; rfl)
end
end Mine

/-! ## W16 -/
namespace Mine
open PySem.Builtin PySem.Builtin.Str

theorem sub_key_lookup : isSubtype (.type "KeyError") (.type "LookupError") = pure true := by rw [isSubtype_type]; kernel_rfl

/-- what a table of signs answers -/
noncomputable def TabSays (f : Int → Option Value) (e : Nat → List Nat) (c : Nat) : Prop := (f c = none ∧ e c = [c]) ∨ ∃ l t, f c = some (.str (S l) t) ∧ l.length = 2 ∧ e c = l

section
variable {prog : Program} {w : World} {A : Around} {E : Value → Shared → Prop} {s : Shared}

theorem tab_sub {h h' : Heap} {T : Addr} {f : Int → Option Value} (m : h.MapOf (intKind prog w) T f) (s : Sub h h') : h'.MapOf (intKind prog w) T f :=
  let ⟨o, es, ep, e, r⟩ := m; ⟨o, es, ep, s _ _ e, r⟩

theorem tableLookup_ok {T : Addr} {f : Int → Option Value} {e : Nat → List Nat} {ch : Nat} {Q : Mapped → Shared → Prop} (hh : A.handled = none) (hT : (T == sysModules) = false) (m : s.heap.MapOf (intKind prog w) T f) (hf : TabSays f e ch)
    (h : ∀ (r : Mapped) h' tk, Sub s.heap h' → ((r = .keep ∧ e ch = [ch]) ∨ (∃ l, r = .text (S l) ∧ l.length = 2 ∧ e ch = l)) → Q r { s with heap := h', toks := tk }) : wpAny (model prog w) A (tableLookup (.ref T) ch) Q E s := by
  unfold tableLookup
  refine wpAny_bind (wpAny_attempt (wpAny_bind (wpAny_mkInt ?_)))
  rcases hf with ⟨h1, h2⟩ | ⟨l, t, h1, h2, h3⟩
  · refine wpAny_getItem_missing_of (knd := intKind prog w) (k := (ch : Int)) (isInt_self _ s.toks) hT hh m h1 fun h' ee ne => ?_
    obtain ⟨ob, u, e1, e2, e3⟩ := ne.there
    dsimp only
    refine wpAny_bind (wpAny_isInstance (T := "KeyError") (b := true) ⟨_, e1, e2⟩ sub_key_lookup ?_)
    simp only [if_true]
    exact wpAny_bind (wpAny_rule (wpAny_pure (h .keep h' _ (fun b o e => ne.keeps b o e) (.inl ⟨rfl, h2⟩))))
  · refine wpAny_getItem_of (knd := intKind prog w) (k := (ch : Int)) (isInt_self _ s.toks) m h1 ?_
    dsimp only
    refine wpAny_bind (wpAny_of_eq (a := none) rfl ?_)
    dsimp only
    refine wpAny_bind (wpAny_of_eq (a := some (S l)) rfl ?_)
    exact wpAny_pure (h (.text (S l)) s.heap _ Sub.rfl (.inr ⟨l, rfl, h2, h3⟩))

theorem flat_len {f : Int → Option Value} {e : Nat → List Nat} : ∀ {x : List Nat}, (∀ c ∈ x, TabSays f e c) → (x.flatMap e).length ≤ 2 * x.length
  | [], _ => Nat.le_refl _
  | c :: x, h => by
    have ih := flat_len (x := x) fun c hc => h c (.tail _ hc)
    have hc : (e c).length ≤ 2 := by
      rcases h c (.head _) with ⟨_, q⟩ | ⟨l, t, _, q1, q2⟩
      · rw [q]; simp
      · rw [q2, q1]; exact Nat.le_refl _
    simp only [List.flatMap_cons, List.length_append, List.length_cons]
    lia

structure TrI (f : Int → Option Value) (e : Nat → List Nat) (x : List Nat) (s0 : Shared) (rest : List Nat) (st : List Str × Nat × Bool × List (Nat × Option Nat) × Bool) (s : Shared) : Prop where
  sp : ∃ done, x = done ++ rest ∧ st.1 = (done.map fun c => S (e c)).reverse ∧ st.2.1 ≤ 2 * done.length
  kn : ∀ c a, st.2.2.2.1.lookup c = some a → a = some c ∧ e c = [c]
  ad : st.2.2.2.2 = false
  sh : ∃ h' tk, s = { s0 with heap := h', toks := tk } ∧ Sub s0.heap h'

theorem foldl_cps (l : List (List Nat)) : ∀ acc : List Nat, (l.map S).foldl (fun a (p : Str) => a ++ p.cps) acc.toArray = (acc ++ l.flatten).toArray := by
  induction l with
  | nil => intro acc; simp
  | cons x l ih =>
    intro acc
    rw [List.map_cons, List.foldl_cons]
    have : acc.toArray ++ (S x).cps = (acc ++ x).toArray := by simp
    rw [this, ih]; simp

theorem call_translate {T : Addr} {f : Int → Option Value} {e : Nat → List Nat} {x : List Nat} {t : Tok} {Q : Value → Shared → Prop} (hh : A.handled = none) (hT : (T == sysModules) = false) (m : s.heap.MapOf (intKind prog w) T f)
    (hf : ∀ c ∈ x, TabSays f e c) (hx : x.length ≤ 1000000) (h : ∀ t' h' tk, Sub s.heap h' → Q (.str (S (x.flatMap e)) t') { s with heap := h', toks := tk }) : wpAny (model prog w) A (call (.builtin "str.translate") [.str (S x) t, .ref T]) Q E s := by
  refine wpAny_call_entry F.slot_str_translate (typeIs_str _ _ _) F.entry_str_translate ?_ (F.args_str_translate_2 _ _)
  unfold Builtin.«str.translate»
  refine wpAny_bind (wpAny_of_eq (a := ((.str (S x) t, S x, .ref T) : Value × Str × Value)) rfl ?_)
  dsimp only
  have notLong : ∀ n : Nat, n ≤ 2000000 → ¬ (tooLong n = true) := fun n hn q => by
    unfold tooLong sizeLine at q; simp at q; lia
  by_cases h0 : x = []
  · subst h0
    rw [if_pos (by decide)]
    refine wpAny_bind (wpAny_rule ?_)
    refine wpAny_bind (wpAny_of_eq (a := .str (S []) t) rfl ?_)
    exact wpAny_pure ⟨_, rfl, h _ s.heap s.toks Sub.rfl⟩
  · rw [if_neg (by rw [S_length]; cases x with | nil => exact absurd rfl h0 | cons _ _ => simp)]
    refine wpAny_bind ?_
    have fa : ∀ {β : Type} (g : Nat → β → Sem (ForInStep β)) (b : β), forIn x.toArray b g = forIn x b g := fun g b => by rw [← Array.forIn_toList]
    rw [fa]
    refine wpAny_forIn_list _ (TrI f e x s) _ ?_ ?_ _ _ ⟨⟨[], rfl, rfl, Nat.le_refl _⟩, (fun c a q => by cases q), rfl, s.heap, s.toks, rfl, Sub.rfl⟩
    · rintro c rest ⟨pieces, total, fast, known, ad⟩ s' ⟨⟨done, hx1, hp, ht⟩, hk, had, h1, tk1, rfl, hs1⟩
      dsimp only at hp ht hk had ⊢
      subst had
      have hc : c ∈ x := by rw [hx1]; simp
      have hdl : done.length + 1 ≤ x.length := by rw [hx1]; simp
      rw [if_neg (notLong total (by lia))]
      have m1 := tab_sub m hs1
      have sp1 : x = (done ++ [c]) ++ rest := by rw [hx1]; simp
      have keepI : ∀ (fast' : Bool) (known' : List (Nat × Option Nat)) (h2 : Heap) (tk2 : Nat), e c = [c] → Sub h1 h2 → (∀ c' a, known'.lookup c' = some a → a = some c' ∧ e c' = [c']) → TrI f e x s rest (S [c] :: pieces, total + 1, fast', known', false) { s with heap := h2, toks := tk2 } :=
        fun fast' known' h2 tk2 he hs2 hk2 => ⟨⟨done ++ [c], sp1, by simp [hp, he], by simp; lia⟩, hk2, rfl, h2, tk2, rfl, hs1.trans hs2⟩
      have textI : ∀ (l : List Nat) (fast' : Bool) (h2 : Heap) (tk2 : Nat), l.length = 2 → e c = l → Sub h1 h2 → TrI f e x s rest (S l :: pieces, total + (S l).length, fast', known, false) { s with heap := h2, toks := tk2 } :=
        fun l fast' h2 tk2 hl he hs2 => ⟨⟨done ++ [c], sp1, by simp [hp, he], by rw [S_length, hl]; simp; lia⟩, hk, rfl, h2, tk2, rfl, hs1.trans hs2⟩
      cases fast with
      | true =>
        simp only [if_true]
        cases hkc : known.lookup c with
        | some a =>
          obtain ⟨rfl, he⟩ := hk c a hkc
          dsimp only
          refine wpAny_bind (wpAny_pure ?_)
          dsimp only
          exact wpAny_pure (keepI _ _ h1 tk1 he Sub.rfl hk)
        | none =>
          dsimp only
          refine wpAny_bind (tableLookup_ok (s := { s with heap := h1, toks := tk1 }) hh hT m1 (hf c hc) fun r h2 tk2 hs2 hr => ?_)
          rcases hr with ⟨rfl, he⟩ | ⟨l, rfl, hl, he⟩
          · dsimp only
            refine wpAny_bind (wpAny_pure ?_)
            dsimp only
            refine wpAny_pure (keepI _ _ h2 tk2 he hs2 fun c' a q => ?_)
            rw [List.lookup_cons] at q
            cases hb : c' == c with
            | true =>
              rw [hb] at q
              cases q
              have := beq_iff_eq.mp hb
              subst this
              exact ⟨rfl, he⟩
            | false => rw [hb] at q; exact hk c' a q
          · dsimp only
            have e2 : ((S l).length == 1 && (S l).cps.all fun x => decide (x < 128)) = false := by rw [S_length, hl]; rfl
            rw [if_neg (by rw [e2]; decide)]
            dsimp only
            refine wpAny_bind (wpAny_pure ?_)
            dsimp only
            refine wpAny_bind (wpAny_rule ?_)
            simp only [Bool.false_eq_true, if_false]
            refine wpAny_bind (tableLookup_ok (s := { s with heap := h2, toks := tk2 }) hh hT (tab_sub m1 hs2) (hf c hc) fun r h3 tk3 hs3 hr => ?_)
            rcases hr with ⟨rfl, he'⟩ | ⟨l', rfl, hl', he'⟩
            · dsimp only
              rw [he] at he'
              rw [he'] at hl; cases hl
            · dsimp only
              exact wpAny_pure (textI l' _ h3 tk3 hl' he' (hs2.trans hs3))
      | false =>
        simp only [Bool.false_eq_true, if_false]
        refine wpAny_bind (tableLookup_ok (s := { s with heap := h1, toks := tk1 }) hh hT m1 (hf c hc) fun r h2 tk2 hs2 hr => ?_)
        rcases hr with ⟨rfl, he⟩ | ⟨l, rfl, hl, he⟩
        · dsimp only
          exact wpAny_pure (keepI _ _ h2 tk2 he hs2 hk)
        · dsimp only
          exact wpAny_pure (textI l _ h2 tk2 hl he hs2)
    · rintro ⟨pieces, total, fast, known, ad⟩ s' ⟨⟨done, hx1, hp, ht⟩, hk, had, h1, tk1, rfl, hs1⟩
      dsimp only at hp ht hk had ⊢
      rw [List.append_nil] at hx1
      subst hx1
      rw [if_neg (notLong total (by lia))]
      have e1 : (pieces.reverse.foldl (fun acc (p : Str) => acc ++ p.cps) #[]) = (x.flatMap e).toArray := by
        rw [hp, List.reverse_reverse]
        have := foldl_cps (x.map e) []
        rw [List.map_map] at this
        rw [show (List.map (fun c => S (e c)) x) = List.map (S ∘ e) x from rfl, this]
        simp [List.flatMap]
      rw [e1]
      unfold retStr
      refine wpAny_bind (wpAny_mkStr ?_ ?_)
      · exact wpAny_pure ⟨_, rfl, h _ h1 _ hs1⟩
      · show (S (x.flatMap e)).length ≤ 2 ^ 24
        rw [S_length]
        have := flat_len hf
        lia
end
end Mine

/-! ## W17a -/
namespace Mine
open PySem.Builtin

/-! map objects -/
theorem owner_map : Manifest.owners.lookup (String.ofList ['p', 'a', 'm'].reverse) = some Manifest.sig_map := by kernel_rfl
theorem slot_map_iter : Slot "map" "__iter__" "map.__iter__" :=
  .of (owner := "map") (n := "__iter__") (by rw [typeLookup_type, builtinLookup_eq_fast]; kernel_rfl) (by decide +kernel) (by decide +kernel) (by decide +kernel)
    (by first | exact .inl (by decide +kernel) | exact .inr (by decide +kernel)) (by rw [isSubtype_type]; kernel_rfl)
theorem args_map_iter (a : Value) : argsOk "map.__iter__" ⟨[a], []⟩ := by
  unfold argsOk; rw [signature?_of (id := "map.__iter__") (n := ['_', '_', 'r', 'e', 't', 'i', '_', '_']) (o := ['p', 'a', 'm']) (by kernel_rfl) owner_map]; kernel_rfl
theorem entry_map_iter : entryFor table "map.__iter__" = some Builtin.«dict_keyiterator.__iter__» :=
  entryFor_alias (id' := "dict_keyiterator.__iter__") (by kernel_rfl) (by first | rfl | decide +kernel | (unfold String.splitOn; simp +decide [String.splitOnAux])) (by decide +kernel) (by kernel_rfl)
theorem slot_map_next : Slot "map" "__next__" "map.__next__" :=
  .of (owner := "map") (n := "__next__") (by rw [typeLookup_type, builtinLookup_eq_fast]; kernel_rfl) (by decide +kernel) (by decide +kernel) (by decide +kernel)
    (by first | exact .inl (by decide +kernel) | exact .inr (by decide +kernel)) (by rw [isSubtype_type]; kernel_rfl)
theorem args_map_next (a : Value) : argsOk "map.__next__" ⟨[a], []⟩ := by
  unfold argsOk; rw [signature?_of (id := "map.__next__") (n := ['_', '_', 't', 'x', 'e', 'n', '_', '_']) (o := ['p', 'a', 'm']) (by kernel_rfl) owner_map]; kernel_rfl
theorem entry_map_next : entryFor table "map.__next__" = some Builtin.«map.__next__» := entryFor_of_tree (by kernel_rfl)
theorem slot_map_init : Slot "map" "__init__" "object.__init__" :=
  .of (owner := "object") (n := "__init__") (by rw [typeLookup_type, builtinLookup_eq_fast]; kernel_rfl) (by decide +kernel) (by decide +kernel) (by decide +kernel)
    (by first | exact .inl (by decide +kernel) | exact .inr (by decide +kernel)) (by rw [isSubtype_type]; kernel_rfl)
theorem mro_map : mroOf (.type "map") = pure [.type "map", .type "object"] := by rw [mroOf_type]; kernel_rfl
theorem lookup_map_new : typeLookup (.type "map") "__new__" = pure (some (.builtin "map.__new__")) := by rw [typeLookup_type, builtinLookup_eq_fast]; kernel_rfl
theorem sub_map : isSubtype (.type "map") (.type "map") = pure true := by rw [isSubtype_type]; kernel_rfl
theorem called_map : TypeCalled "map" "map.__new__" "object.__init__" :=
  ⟨by decide +kernel, by decide +kernel, ⟨_, _, mro_map⟩, madeBy_type mro_map lookup_map_new (by decide +kernel), by decide +kernel, sub_map, slot_map_init⟩
theorem typeCall_map (a b : Value) : checkTypeCall "map" ⟨[a, b], []⟩ = pure () := by kernel_rfl
theorem newCall_map (a b : Value) : checkBuiltinCall "map.__new__" ⟨[.type "map", a, b], []⟩ = pure () := by kernel_rfl
theorem entry_map_new : entryFor table "map.__new__" = some Builtin.«map.__new__» := entryFor_of_tree (by kernel_rfl)
theorem map_no_len : typeLookup (.type "map") "__len__" = pure none := by rw [typeLookup_type, builtinLookup_eq_fast]; kernel_rfl
theorem map_no_hint : typeLookup (.type "map") "__length_hint__" = pure none := by rw [typeLookup_type, builtinLookup_eq_fast]; kernel_rfl
end Mine

/-! ## W17 -/
namespace Mine
open PySem.Builtin

noncomputable abbrev iterO (l : Addr) : Obj := { cls := .type "list_iterator", data := .fields #[.ref l, .int 0 0] }
noncomputable abbrev mapO (TU : Addr) (f : Value) : Obj := { cls := .type "map", data := .fields #[.ref TU, f] }

theorem newClass_map (a b : Value) : Builtin.SmallTypes.newClass "map" ⟨[.type "map", a, b], []⟩ = pure (.type "map", [a, b]) := by
  unfold Builtin.SmallTypes.newClass
  simp only [isType, sub_map, pure_bind, Bool.not_true, Bool.false_eq_true, if_false]

section
variable {prog : Program} {w : World} {A : Around} {E : Value → Shared → Prop} {s : Shared}

theorem map_new (f : Value) (l : Addr) (items : Array Value) : Meets (Builtin.«map.__new__» ⟨[.type "map", f, .ref l], []⟩) (fun A R s => s.heap.IsList l items ∧
    R (.ok (.ret (.ref (s.heap.objs.size + 2)))) { s with heap := ((s.heap.push (iterO l)).push (tupO #[.ref s.heap.objs.size] 0)).push (mapO (s.heap.objs.size + 1) f) }) :=
  .of_wp fun prog w A R s h => by
    obtain ⟨hl, h⟩ := h
    unfold Builtin.«map.__new__»
    refine wpAny_bind (wpAny_of_eq (newClass_map _ _) ?_)
    try dsimp only
    refine wpAny_bind (wpAny_of_eq (a := ()) (by first | rfl | kernel_rfl) ?_)
    refine wpAny_ite_split (fun q => absurd q (by simp)) (fun _ => ?_)
    refine wpAny_bind ?_
    unfold Builtin.SmallTypes.iterAll
    simp only [List.drop_succ_cons, List.drop_zero, List.forIn_cons, List.forIn_nil]
    refine wpAny_bind (wpAny_bind (wpAny_bind (wpAny_holding (wpAny_pyIter_list hl ?_))))
    refine wpAny_pure (wpAny_pure (wpAny_pure ?_))
    refine wpAny_bind (wpAny_newTuple ?_ (by show 1 ≤ 2 ^ 24; decide))
    unfold Builtin.SmallTypes.newRecord
    dsimp only
    refine wpAny_bind (wpAny_newObj_type ?_)
    refine wpAny_pure ⟨_, rfl, ?_⟩
    have e1 : (s.heap.push (iterO l)).objs.size = s.heap.objs.size + 1 := Heap.size_push _ _
    have e2 : ((s.heap.push (iterO l)).push (tupO #[.ref s.heap.objs.size] 0)).objs.size = s.heap.objs.size + 2 := by rw [Heap.size_push, e1]
    have goal : ∀ (a b : Nat), a = s.heap.objs.size + 1 → b = s.heap.objs.size + 2 → R (.ok (.ret (.ref b))) { s with heap := ((s.heap.push (iterO l)).push (tupO #[.ref s.heap.objs.size] 0)).push (mapO a f) } := by
      rintro _ _ rfl rfl; exact h
    exact goal _ _ e1 e2

/-- an iterator of a type without a length, made a list -/
theorem extend_iter {T : String} {I : Addr} {fp wr : List Addr} {G : Array GenState → Array GenState → Prop} {n : Nat} {P : Nat → Value → Prop} {St : Nat → Shared → Prop} {R : Result → Shared → Prop}
    (h2 : (Value.type T == Value.type "list") = false) (h3 : (Value.type T == Value.type "tuple") = false) (hlen : typeLookup (.type T) "__len__" = pure none) (hhint : typeLookup (.type T) "__length_hint__" = pure none)
    (W : WalksS prog w A.in1 I fp wr G n P St) (hT : ∀ i s, St i s → s.TypeIs (.ref I) T) (S : Addr) (res : Value) (c₀ : Nat) (hst : St 0 s) (hSf : S ∉ fp) (hI : I ∈ fp) (hS : s.heap.get? S = some (listO #[] c₀))
    (hR : ∀ s' acc' c', Moved (S :: wr) G s s' → s'.heap.get? S = some { cls := .type "list", dict := none, data := .seq acc' c', slots := #[] } → ItemsOf P acc' n → R (.ok (.ret res)) s') (hn : n ≤ sizeLine) :
    wpAny (model prog w) A.in1 (Builtin.List.listExtendWith (.ref S) (.ref I) res)
      (fun fin s' => match fin with | .done f => R (.ok f) s' | .again c' => c'.quiet = true ∧ codeAny (model prog w) A c' R s') (fun e s' => R (.error e) s') s := by
  have hSI : S ≠ I := fun e => hSf (e ▸ hI)
  unfold Builtin.List.listExtendWith
  refine wpAny_bind (wpAny_typeOf (hT 0 _ hst) ?_)
  have h1 : Builtin.List.listSameRef (.ref S) (.ref I) = false := by simp [Builtin.List.listSameRef, hSI]
  simp only [h1, h2, h3, Bool.or_false, Bool.false_eq_true, if_false]
  refine wpAny_bind (W.self 0 _ _ _ hst ?_)
  refine wpAny_bind (wpAny_holding ?_)
  unfold Builtin.List.listLengthHint
  refine wpAny_bind (wpAny_specialOf (hT 0 _ hst) hlen ?_)
  show wpAny _ A.in1 (specialOf (Value.ref I) (Str.ofString "__length_hint__") >>= _) _ _ _
  refine wpAny_bind (wpAny_specialOf (hT 0 _ hst) hhint ?_)
  refine wpAny_pure ?_
  show wpAny _ A.in1 (rule "list.extend.makes-room" >>= fun _ => Builtin.List.listTouch (.ref S) >>= fun _ =>
    again (.builtin "list.extend.loop" ⟨[.ref S, .ref I, res], []⟩)) _ _ _
  refine wpAny_bind (wpAny_rule ?_)
  refine wpAny_bind ?_
  show wpAny _ A.in1 (updateSeq S (·.push .none) >>= fun _ => updateSeq S (·.pop)) _ _ _
  refine wpAny_bind (wpAny_updateSeq hS rfl ?_)
  have hS₂ := Heap.get?_update_self (Obj.mapSeq (·.push Value.none)) hS rfl
  refine wpAny_updateSeq (hz := by seq_fits) hS₂ rfl ?_
  have hS₃ := Heap.get?_update_self (Obj.mapSeq (·.pop)) hS₂ rfl
  have oth : ∀ b o, b ≠ S → s.heap.get? b = some o → ((s.heap.update S (Obj.mapSeq (·.push Value.none))).update S (Obj.mapSeq (·.pop))).get? b = some o :=
    fun b o hb e => (Heap.get?_update_other _ _ (Ne.symm hb)).trans ((Heap.get?_update_other _ _ (Ne.symm hb)).trans e)
  refine wpAny_pure ⟨plainId_quiet PySem.F.plain_extend_loop _, codeAny_extend_loopS W hn _ hSf _ n 0 _ _ _ rfl (Nat.zero_le _)
    (W.frame 0 s _ s.toks hst (Nat.le_refl _) fun b hb o e => oth b o (fun h => hSf (h ▸ hb)) e) hS₃ (ItemsOf.nil P) fun s' acc' c' hm hS' hacc => ?_⟩
  exact hR s' acc' c' (Moved.trans W.gtrans ((Moved.refl W.grefl).then_heap (Nat.le_refl _) fun b o hb e => oth b o (fun h => hb (h ▸ List.mem_cons_self)) e) hm) hS' hacc

theorem call_list_iter {T : String} {I : Addr} {fp wr : List Addr} {n : Nat} {P : Nat → Value → Prop} {St : Nat → Heap → Prop} {Q : Value → Shared → Prop}
    (h2 : (Value.type T == Value.type "list") = false) (h3 : (Value.type T == Value.type "tuple") = false) (hlen : typeLookup (.type T) "__len__" = pure none) (hhint : typeLookup (.type T) "__length_hint__" = pure none)
    (W0 : Walks prog w A.in1.in1 I fp wr n P St) (hT : ∀ i h, St i h → ∃ o, h.get? I = some o ∧ o.cls = .type T) (hst : St 0 s.heap) (hfp : ∀ b ∈ fp, b < s.heap.objs.size) (hI : I ∈ fp)
    (hQ : ∀ h' tk acc' c', (∀ b o, b ∉ wr → s.heap.get? b = some o → h'.get? b = some o) → h'.get? s.heap.objs.size = some (listO acc' c') → ItemsOf P acc' n → Q (.ref s.heap.objs.size) { s with heap := h', toks := tk }) (hn : n ≤ sizeLine) :
    wpAny (model prog w) A (call (.type "list") [.ref I]) Q E s := by
  have W := W0.toS
  have hT' : ∀ i (s : Shared), St i s.heap → s.TypeIs (.ref I) T := fun i s st => hT i s.heap st
  have hSf : s.heap.objs.size ∉ fp := fun hm => Nat.lt_irrefl _ (hfp _ hm)
  refine callType_codes (Q₁ := fun obj s₁ => obj = .ref s.heap.objs.size ∧ s₁ = { s with heap := s.heap.push { cls := .type "list", data := .seq #[] } }) PySem.F.called_list (PySem.F.typeCall_list_1 _) PySem.F.entry_list_init
    (code_list_new _ ⟨rfl, rfl⟩) fun obj s₁ h₁ => ?_
  obtain ⟨rfl, rfl⟩ := h₁
  have hS : (s.heap.push { cls := .type "list", data := .seq #[] }).get? s.heap.objs.size = some { cls := .type "list", data := .seq #[] } := Heap.get?_push_size _ rfl
  refine ⟨⟨_, hS, rfl⟩, PySem.F.args_list_init_2 _ _, ?_⟩
  show wpAny _ A.in1.in1 (do let old ← Builtin.List.listItems (.ref s.heap.objs.size); Builtin.List.listUpdate (.ref s.heap.objs.size) (fun _ => #[]); letGo old.toList.reverse; Builtin.List.listExtendWith (.ref s.heap.objs.size) (.ref I) .none) _ _ _
  refine wpAny_bind ?_
  unfold Builtin.List.listItems
  refine wpAny_bind (wpAny_seqItems hS rfl (wpAny_pure ?_))
  show wpAny _ A.in1.in1 (updateSeq s.heap.objs.size (fun _ => #[]) >>= fun _ => letGo (#[] : Array Value).toList.reverse >>= fun _ => Builtin.List.listExtendWith (.ref s.heap.objs.size) (.ref I) .none) _ _ _
  refine wpAny_bind (wpAny_updateSeq hS rfl ?_)
  have hS₂ := Heap.get?_update_self (Obj.mapSeq (fun _ => (#[] : Array Value))) hS rfl
  have oth : ∀ b o, b ≠ s.heap.objs.size → (s.heap.push { cls := .type "list", data := .seq #[] }).get? b = some o → ((s.heap.push { cls := .type "list", data := .seq #[] }).update s.heap.objs.size (Obj.mapSeq (fun _ => (#[] : Array Value)))).get? b = some o :=
    fun b o hb e => (Heap.get?_update_other _ _ (Ne.symm hb)).trans e
  have up : ∀ b o, s.heap.get? b = some o → ((s.heap.push { cls := .type "list", data := .seq #[] }).update s.heap.objs.size (Obj.mapSeq (fun _ => (#[] : Array Value)))).get? b = some o := fun b o e => oth b o (Nat.ne_of_lt (Heap.lt_size e)) (Heap.get?_push_of_some _ e)
  refine wpAny_bind (wpAny_letGo ?_)
  refine extend_iter h2 h3 hlen hhint W hT' s.heap.objs.size .none _ (W0.frame 0 _ _ hst fun b _ o e => up b o e) hSf hI hS₂ (fun s' acc' c' hm hS' hacc => ?_) hn
  have e := Moved.eq_with hm
  rw [e]
  refine ⟨rfl, hQ s'.heap s'.toks acc' c' (fun b o hb e => hm.heap b o (fun hmem => ?_) (up b o e)) hS' hacc⟩
  rcases List.mem_cons.mp hmem with e' | hmem
  · exact absurd (Heap.lt_size e) (by rw [e']; exact Nat.lt_irrefl _)
  · exact hb hmem

/-- the turns of a map over a list -/
structure MapAt (h0 h : Heap) (M TU I L : Addr) (f : Value) (vs : Array Value) (i : Nat) : Prop where
  m : h.get? M = some (mapO TU f)
  t : h.get? TU = some (tupO #[.ref I] 0)
  i : h.IsListIter I L i
  l : h.IsList L vs
  k : Sub h0 h
theorem mapWalks {h0 : Heap} {M TU I L : Addr} {f : Value} {vs : Array Value} {P : Nat → Value → Prop} (hh : A.handled = none) (hM : I ≠ M) (hTU : I ≠ TU) (hL : I ≠ L) (hI : h0.get? I = none)
    (hcall : ∀ (s : Shared) i v (Q E : Value → Shared → Prop), Sub h0 s.heap → vs[i]? = some v → (∀ v' h' tk, Sub s.heap h' → P i v' → Q v' { s with heap := h', toks := tk }) → wpAny (model prog w) A.in1 (call f [v]) Q E s) :
    Walks prog w A M ([M, TU, I, L] ++ List.range h0.objs.size) [I] vs.size P (fun i h => MapAt h0 h M TU I L f vs i) where
  sub := fun b hb => by simp at hb; simp [hb]
  frame := fun i h h' st hk => ⟨hk _ (by simp) _ st.m, hk _ (by simp) _ st.t, st.i.at fun o e => hk _ (by simp) o e, st.l.at fun o e => hk _ (by simp) o e, fun b o e => hk b (List.mem_append_right _ (List.mem_range.mpr (Heap.lt_size e))) o (st.k b o e)⟩
  item := fun i s Q E hi st hQ => by
    have hT : s.TypeIs (.ref M) "map" := ⟨_, st.m, rfl⟩
    unfold pyNext
    refine wpAny_bind (wpAny_attempt (wpAny_callSpecial?_slot (name := Str.ofString "__next__") hT slot_map_next (wpAny_call_entry slot_map_next hT entry_map_next ?_ (args_map_next _))))
    unfold Builtin.«map.__next__»
    refine wpAny_bind (wpAny_of_eq (a := (Value.ref M, [])) rfl ?_)
    try dsimp only
    refine wpAny_bind (wpAny_field st.m rfl (x := .ref TU) rfl ?_)
    refine wpAny_bind (wpAny_seqItems st.t rfl ?_)
    try dsimp only
    refine wpAny_bind ?_
    rw [← Array.forIn_toList]
    simp only [List.forIn_cons, List.forIn_nil]
    refine wpAny_bind (wpAny_bind (wpAny_holding (wpAny_nextOf_list_item st.i st.l (x := vs[i]) (by simp [hi]) fun h1 hit1 hs1 => ?_)))
    refine wpAny_pure (wpAny_pure ?_)
    have k1 : ∀ b o, b ≠ I → s.heap.get? b = some o → h1.get? b = some o := fun b o q e => hs1.extBut b o q e
    have m1 := k1 _ _ (Ne.symm hM) st.m
    refine wpAny_bind (wpAny_field (s := { s with heap := h1 }) m1 rfl (x := f) rfl ?_)
    have sub1 : Sub h0 h1 := fun b o e => k1 b o (fun q => by rw [q, hI] at e; cases e) (st.k b o e)
    refine wpAny_bind (wpAny_holding (hcall { s with heap := h1 } i vs[i] _ _ sub1 (by simp [hi]) fun v' h2 tk hs2 hP => ?_))
    refine wpAny_bind (wpAny_letGo (wpAny_pure ⟨v', rfl, ?_⟩))
    refine wpAny_pure (hQ v' h2 tk hP ⟨hs2 _ _ m1, hs2 _ _ (k1 _ _ (Ne.symm hTU) st.t), hit1.at fun o e => hs2 _ o e, (st.l.at fun o e => k1 _ o (Ne.symm hL) e).at fun o e => hs2 _ o e, sub1.trans hs2⟩ fun b o hb e => hs2 b o (k1 b o (by simpa using hb) e))
  done := fun s Q E st hQ => by
    have hT : s.TypeIs (.ref M) "map" := ⟨_, st.m, rfl⟩
    unfold pyNext
    refine wpAny_bind (wpAny_attempt (wpAny_callSpecial?_slot (name := Str.ofString "__next__") hT slot_map_next (wpAny_call_entry slot_map_next hT entry_map_next ?_ (args_map_next _))))
    unfold Builtin.«map.__next__»
    refine wpAny_bind (wpAny_of_eq (a := (Value.ref M, [])) rfl ?_)
    try dsimp only
    refine wpAny_bind (wpAny_field st.m rfl (x := .ref TU) rfl ?_)
    refine wpAny_bind (wpAny_seqItems st.t rfl ?_)
    try dsimp only
    refine wpAny_bind ?_
    rw [← Array.forIn_toList]
    simp only [List.forIn_cons, List.forIn_nil]
    refine wpAny_bind (wpAny_bind (wpAny_holding (wpAny_nextOf_list_end (by exact hh) st.i st.l (by simp) fun h1 e he1 ⟨o, e1, e2⟩ => ?_)))
    refine wpAny_bind (wpAny_isInstance (T := "StopIteration") (b := true) ⟨_, e1, e2⟩ isSubtype_stop ?_)
    exact wpAny_pure (hQ h1 s.toks fun b o hb e => he1 b o (by simpa using hb) e)
  self := fun i s Q E st hQ => by
    have hT : s.TypeIs (.ref M) "map" := ⟨_, st.m, rfl⟩
    refine wpAny_pyIter_slot hT slot_map_iter (wpAny_call_entry slot_map_iter hT entry_map_iter ?_ (args_map_iter _))
    show wpAny _ _ (ret (.ref M)) _ _ s
    exact wpAny_pure ⟨_, rfl, "map", _, hT, slot_map_next.lookup, hQ⟩
end
section
variable {prog : Program} {w : World} {B : Heap → Prop} {mg mb : Str → Option Value} {fa : Nat → Addr} {d : Nat} {c : Cx} {σ : St}

theorem Rel.newSub {h0 h h' : Heap} {a : Addr} {mo : MO} (R : Rel prog w c h0 σ h) (s : Sub h h') (ha : h.get? a = none) (x : MR prog w h' a mo) : Rel prog w c h0 ⟨σ.vars, (a, mo) :: σ.mem⟩ h' := by
  have R' := R.sub s
  have ne : ∀ b o, h.get? b = some o → b ≠ a := fun b o e q => by rw [q, ha] at e; cases e
  refine R'.change HSub.rfl R'.keep (fun _ e => e) (fun _ _ _ _ e => e) ⟨fun p hp => ?_, List.nodup_cons.mpr ⟨fun q => ?_, R.mem.nd⟩⟩ (fun q => ?_) fun y b hb q => ?_
  · rcases List.mem_cons.mp hp with rfl | hp
    · refine ⟨x, ?_⟩
      cases q : h0.get? a with
      | none => rfl
      | some o => exact absurd rfl (ne _ _ (R.keep _ _ q))
    · exact R'.mem.at_ p hp
  · obtain ⟨p, hp, e⟩ := List.mem_map.mp q
    obtain ⟨o, e', -⟩ := (R.mem.at_ p hp).1.soft
    exact ne _ _ e' e
  · rcases List.mem_cons.mp q with q | q
    · obtain ⟨m, o, _, _, e', _⟩ := R.loc
      exact ne _ _ e' q
    · exact R'.locN q
  · rcases List.mem_cons.mp q with q | q
    · obtain ⟨⟨v, o, e', _⟩, -⟩ := R.cells y b hb
      exact ne _ _ e' q
    · exact (R'.cells y b hb).2 q

theorem itemsVRs {α : Type} {f : α → PV} {h : Heap} {P : Nat → Value → Prop} {xs : List α} (hP : ∀ i v x, xs[i]? = some x → P i v → VR h (f x) v) : ∀ {acc : List Value}, acc.length = xs.length → (∀ j v, acc[j]? = some v → P j v) → VRs h (xs.map f) acc := by
  induction xs generalizing P with
  | nil => intro acc hl _; rw [List.eq_nil_of_length_eq_zero hl]; trivial
  | cons x xs ih =>
    intro acc hl ha
    cases acc with
    | nil => cases hl
    | cons v acc =>
      refine ⟨hP 0 v x rfl (ha 0 v rfl), ih (P := fun i v => P (i + 1) v) (fun i v y e p => hP (i + 1) v y (by simpa using e) p) (by simpa using hl) fun j u e => ha (j + 1) u (by simpa using e)⟩

/-- list(map(f, e)), f a def over texts -/
theorem EvM.listMap {ln mn fnn mp lp : Pos} {fname : Str} {e : Expr} {xs : List (List Nat)} {g : List Nat → List Nat} {d' : Nat} {P : PV → Ledger → Prop} (n : Nat) (Z : Base B mg mb fa) (C : c.Ok) (hn : n ∈ defIdx) (hx : (dfn n).name = fname) (hk : c.env.kindOf fname = some .globalImplicit)
    (hkl : c.env.kindOf (Str.ofString "list") = some .globalImplicit) (hkm : c.env.kindOf (Str.ofString "map") = some .globalImplicit) (hxl : xs.length ≤ 1000000)
    (he : EvM prog w B d c σ e (fun pv m => ∃ a, pv = .ref a ∧ m = (a, .lst (xs.map .str)) :: σ.mem)) (hf : ∀ x ∈ xs, FnOk prog w B d' (.ref (fa n)) [.str x] [] (fun pv m => pv = .str (g x) ∧ m = [])) (hd : d' + 4 ≤ d)
    (h : ∀ a b, P (.ref b) ((b, .lst (xs.map fun x => .str (g x))) :: (a, .lst (xs.map .str)) :: σ.mem)) (hdb : (fname == ("__debug__" : Str)) = false := by decide)
    (hs1 : ∀ env, starEach [.Name fname fnn, e] env = (false, eval (.Name fname fnn) env) :: starEach [e] env := by intro _; rfl) (hs2 : ∀ env, starEach [e] env = (false, eval e env) :: starEach [] env := by intro _; rfl) :
    EvM prog w B d c σ (.Call (.Name (Str.ofString "list") ln) [.Call (.Name (Str.ofString "map") mn) [.Name fname fnn, e] [] mp] [] lp) P := by
  intro h0 A s Q E b ok R k
  have hp1 : ∀ pos, (backTo pos (starEach [.Call (.Name (Str.ofString "map") mn) [.Name fname fnn, e] [] mp] c.env)).any (·.1) = false := fun pos => rfl
  have hp2 : ∀ pos, (backTo pos (starEach [.Name fname fnn, e] c.env)).any (·.1) = false := fun pos => by rw [hs1, hs2]; rfl
  refine wpAny_Call_ofName ((EvE.bl Z C (by decide +kernel) boot_list hkl : EvE prog w B d c σ (.Name (Str.ofString "list") ln) (.val (.type "list"))) h0 A s _ E b ok R fun v h1 t1 s1 r1 => ?_)
  obtain rfl : v = .type "list" := r1
  refine (Callee.typ "list").call Z.toBs b (hp1 _) (evalArgsM (hp1 _) (wpAny_items_cons ?_ rfl))
  refine wpAny_Call_ofName ((EvE.bl Z C (by decide +kernel) boot_map hkm : EvE prog w B d c σ (.Name (Str.ofString "map") mn) (.val (.type "map"))) h0 A _ _ E b ok (R.sub s1) fun v h2 t2 s2 r2 => ?_)
  obtain rfl : v = .type "map" := r2
  refine (Callee.typ "map").call Z.toBs b (hp2 _) (evalArgsM (hp2 _) (wpAny_items_cons ((EvE.fn Z n C hn hx hk hdb : EvE prog w B d c σ (.Name fname fnn) (.val (.ref (fa n)))) h0 A _ _ E b ok ((R.sub s1).sub s2) fun v h3 t3 s3 r3 => ?_) (hs1 _)))
  obtain rfl : v = .ref (fa n) := r3
  refine wpAny_items_cons (he h0 A _ _ E b ok (((R.sub s1).sub s2).sub s3) fun pv m v h4 t4 p hs4 R4 r4 => wpAny_items_nil ⟨R4.keep, ?_⟩) (hs2 _)
  obtain ⟨a, rfl, rfl⟩ := p
  obtain rfl : v = .ref a := r4
  obtain ⟨vs, hl, hv⟩ := R4.lst (σ := ⟨σ.vars, _⟩) (.head _)
  have hlen := hv.length
  rw [List.length_map] at hlen
  refine callType_new called_map (by decide) (typeCall_map _ _) (newCall_map _ _) (fun obj => PySem.F.initArgs_range_2 obj _ _) entry_map_new (map_new (.ref (fa n)) a vs.toArray) ⟨hl, ⟨mapO (h4.objs.size + 1) (.ref (fa n)), ?_, rfl⟩, ?_⟩
  · have e2 : ((h4.push (iterO a)).push (tupO #[.ref h4.objs.size] 0)).objs.size = h4.objs.size + 2 := by rw [Heap.size_push, Heap.size_push]
    have := Heap.get?_push_size ((h4.push (iterO a)).push (tupO #[.ref h4.objs.size] 0)) (o := mapO (h4.objs.size + 1) (.ref (fa n))) rfl
    rw [e2] at this
    exact this
  refine wpAny_items_nil ?_
  generalize hh5 : ((h4.push (iterO a)).push (tupO #[.ref h4.objs.size] 0)).push (mapO (h4.objs.size + 1) (.ref (fa n))) = h5
  have z1 : (h4.push (iterO a)).objs.size = h4.objs.size + 1 := Heap.size_push _ _
  have z2 : ((h4.push (iterO a)).push (tupO #[.ref h4.objs.size] 0)).objs.size = h4.objs.size + 2 := by rw [Heap.size_push, z1]
  have z3 : h5.objs.size = h4.objs.size + 3 := by rw [← hh5, Heap.size_push, z2]
  have gI : h5.get? h4.objs.size = some (iterO a) := by
    rw [← hh5]; exact Heap.get?_push_of_some _ (Heap.get?_push_of_some _ (Heap.get?_push_size _ rfl))
  have gT : h5.get? (h4.objs.size + 1) = some (tupO #[.ref h4.objs.size] 0) := by
    have := Heap.get?_push_size (h4.push (iterO a)) (o := tupO #[.ref h4.objs.size] 0) rfl
    rw [z1] at this
    rw [← hh5]; exact Heap.get?_push_of_some _ this
  have gM : h5.get? (h4.objs.size + 2) = some (mapO (h4.objs.size + 1) (.ref (fa n))) := by
    have := Heap.get?_push_size ((h4.push (iterO a)).push (tupO #[.ref h4.objs.size] 0)) (o := mapO (h4.objs.size + 1) (.ref (fa n))) rfl
    rw [z2] at this
    rw [← hh5]; exact this
  have s5 : Sub h4 h5 := fun b o e => by rw [← hh5]; exact Heap.get?_push_of_some _ (Heap.get?_push_of_some _ (Heap.get?_push_of_some _ e))
  have hal : a < h4.objs.size := let ⟨o, e, _⟩ := hl; Heap.lt_size e
  refine ⟨(R4.sub s5).keep, ?_⟩
  have W := mapWalks (prog := prog) (w := w) (A := A.in1.in1) (h0 := h4) (M := h4.objs.size + 2) (TU := h4.objs.size + 1) (I := h4.objs.size) (L := a) (f := .ref (fa n)) (vs := vs.toArray) (P := fun i v => ∃ x t, xs[i]? = some x ∧ v = .str (S (g x)) t) ok.1 (show (h4.objs.size : Nat) ≠ h4.objs.size + 2 by lia) (show (h4.objs.size : Nat) ≠ h4.objs.size + 1 by lia) (show (h4.objs.size : Nat) ≠ a from Nat.ne_of_gt hal) (by
      cases q : h4.get? h4.objs.size with
      | none => rfl
      | some o => exact absurd (Heap.lt_size q) (Nat.lt_irrefl _)) (fun s' i v Q' E' hs' hi hk' => by
      have hi' : vs[i]? = some v := by simpa using hi
      have hlt : i < xs.length := by rw [← hlen]; exact (List.getElem?_eq_some_iff.mp hi').1
      obtain ⟨v', e', r⟩ := hv.get (i := i) (p := .str xs[i]) (by simp [hlt])
      rw [hi'] at e'; cases e'
      have ok3 : OkA d' A.in1.in1.in1 := by
        have o4 : OkA (d' + 3) A := ok.le (by lia)
        exact OkA.in1 (OkA.in1 (OkA.in1 o4))
      refine hf xs[i] (List.getElem_mem hlt) s'.heap A.in1.in1.in1 s' [v] Q' E' (Z.mono _ _ b (R4.keep.trans hs')) ok3 Sub.rfl ⟨fun p hp => (by cases hp), List.nodup_nil⟩ ⟨r.hsub hs'.hard, trivial⟩ fun pv m1 v' h' tk q hg _ vr => ?_
      obtain ⟨rfl, -⟩ := q
      obtain ⟨t, rfl⟩ := vr
      exact hk' _ h' tk hg ⟨xs[i], t, List.getElem?_eq_getElem hlt, rfl⟩)
  refine call_list_iter (T := "map") (by decide) (by decide) map_no_len map_no_hint W (fun i h st => ⟨_, st.m, rfl⟩) ⟨gM, gT, ⟨_, gI, rfl, rfl⟩, hl.at fun o e => s5 _ o e, s5⟩ (fun b hb => ?_) (by simp) (fun h6 tk acc' c' k6 e6 hacc => ?_) (by show vs.toArray.size ≤ 2 ^ 24; simp; lia)
  · show b < h5.objs.size
    rw [z3]
    rcases List.mem_append.mp hb with hb | hb
    · have hb' : b = h4.objs.size + 2 ∨ b = h4.objs.size + 1 ∨ b = h4.objs.size ∨ b = a := by simpa using hb
      rcases hb' with q | q | q | q
      · rw [q]; exact Nat.lt_succ_self _
      · rw [q]; exact Nat.lt_succ_of_lt (Nat.lt_succ_self _)
      · rw [q]; exact Nat.lt_add_of_pos_right (by decide)
      · rw [q]; exact Nat.lt_of_lt_of_le hal (Nat.le_add_right _ 3)
    · exact Nat.lt_of_lt_of_le (List.mem_range.mp hb) (Nat.le_add_right _ 3)
  · have s6 : Sub h4 h6 := fun b o e => k6 b o (by simpa using Nat.ne_of_lt (Heap.lt_size e)) (s5 b o e)
    have hnew : h4.get? h5.objs.size = none := by
      cases q : h4.get? h5.objs.size with
      | none => rfl
      | some o => exact absurd (Heap.lt_size q) (by rw [z3]; show ¬ ((h4.objs.size + 3 : Nat) < h4.objs.size); lia)
    refine k (.ref h5.objs.size) _ _ h6 tk (h a h5.objs.size) (s1.hard.trans (s2.hard.trans (s3.hard.trans (hs4.trans s6.hard)))) (R4.newSub s6 hnew ⟨acc', c', e6, ?_⟩) rfl
    obtain ⟨ha1, ha2⟩ := hacc
    have := itemsVRs (h := h6) (f := fun x => PV.str (g x)) (xs := xs) (P := fun i v => ∃ x t, xs[i]? = some x ∧ v = .str (S (g x)) t) (fun i v x e ⟨x', t, e', q⟩ => by rw [e] at e'; cases e'; exact ⟨t, q⟩) (acc := acc'.toList) (by simp [ha1, hlen]) (fun j v e => ha2 j v (by simpa using e))
    exact this
end
end Mine

/-! ## W18 -/
namespace Mine
open PySem.Builtin

theorem md_get : typeLookup (.type "method_descriptor") "__get__" = pure (some (.builtin "method_descriptor.__get__")) := by rw [typeLookup_type, builtinLookup_eq_fast]; kernel_rfl
theorem md_set : typeLookup (.type "method_descriptor") "__set__" = pure none := by rw [typeLookup_type, builtinLookup_eq_fast]; kernel_rfl
theorem md_del : typeLookup (.type "method_descriptor") "__delete__" = pure none := by rw [typeLookup_type, builtinLookup_eq_fast]; kernel_rfl
theorem slot_md_get : Slot "method_descriptor" "__get__" "method_descriptor.__get__" :=
  .of (owner := "method_descriptor") (n := "__get__") (by rw [typeLookup_type, builtinLookup_eq_fast]; kernel_rfl) (by decide +kernel) (by decide +kernel) (by decide +kernel)
    (by first | exact .inl (by decide +kernel) | exact .inr (by decide +kernel)) (by rw [isSubtype_type]; kernel_rfl)
theorem entry_md_get : entryFor table "method_descriptor.__get__" = some Builtin.«method_descriptor.__get__» := entryFor_of_tree (by kernel_rfl)
theorem args_md_get (a b c : Value) : argsOk "method_descriptor.__get__" ⟨[a, b, c], []⟩ := by unfold argsOk; kernel_rfl
theorem type_append : typeOf (.builtin "list.append") = pure (.type "method_descriptor") := by show builtinType _ = _; rw [builtinType_eq_fast]; kernel_rfl
theorem told_append : Manifest.toldItsClass.contains "list.append" = false := by decide +kernel

section
variable {prog : Program} {w : World} {A : Around} {E : Value → Shared → Prop} {s : Shared}

theorem md_get_append {a : Addr} {xs : Array Value} {k : Nat} {P : Fin → Shared → Prop} (hx : s.heap.get? a = some (listO xs k)) (h : P (.done (.ret (.ref s.heap.objs.size))) { s with heap := s.heap.push (appO a) }) :
    wpAny (model prog w) A (Builtin.«method_descriptor.__get__» ⟨[.builtin "list.append", .ref a, .type "list"], []⟩) P E s := by
  unfold Builtin.«method_descriptor.__get__»
  refine wpAny_bind (wpAny_of_eq (a := (.builtin "list.append", some (.ref a), some (.type "list"))) (by first | rfl | kernel_rfl) ?_)
  dsimp only
  rw [told_append]
  simp only [Bool.false_eq_true, if_false]
  refine wpAny_bind ?_
  refine wpAny_bind (wpAny_of_eq (a := (Str.ofString "append", .type "list")) (by first | rfl | kernel_rfl) ?_)
  dsimp only
  refine wpAny_bind (wpAny_isInstance (T := "list") (b := true) ⟨_, hx, rfl⟩ sub_list_self ?_)
  simp only [Bool.not_true, Bool.false_eq_true, if_false]
  refine wpAny_pure ?_
  exact wpAny_bind (wpAny_newObj_type (wpAny_pure h))

theorem getAttr_append {a : Addr} {xs : Array Value} {k : Nat} {Q : Value → Shared → Prop} (hx : s.heap.get? a = some (listO xs k)) (h : ∀ tk, Q (.ref s.heap.objs.size) { s with heap := s.heap.push (appO a), toks := tk }) :
    wpAny (model prog w) A (getAttr (.ref a) (Str.ofString "append") true) Q E s := by
  have hT : ∀ tk', ({ s with toks := tk' } : Shared).TypeIs (.ref a) "list" := fun _ => ⟨_, hx, rfl⟩
  unfold getAttr
  refine wpAny_bind (wpAny_mkText ?_)
  unfold getAttrBy
  refine wpAny_holding (wpAny_bind (wpAny_typeOf (hT _) ?_))
  refine wpAny_bind (wpAny_of_eq PySem.F.slot_list_getattribute.lookup ?_)
  dsimp only
  rw [if_neg (by show ¬ ((onTheHeap (.type "list") && _) = true); simp [onTheHeap])]
  unfold getAttrByItsOwn
  refine wpAny_bind (wpAny_of_eq (a := none) rfl ?_)
  refine wpAny_bind (wpAny_attempt (wpAny_holding ?_))
  unfold callGetattribute
  rw [if_neg (by simp [onTheHeap])]
  unfold boundAndCalled
  refine wpAny_bind (wpAny_of_eq (PySem.F.slot_list_getattribute.bind (.ref a)) ?_)
  dsimp only
  refine wpAny_call_entry PySem.F.slot_list_getattribute (hT _) am_entry_list_getattribute ?_ (PySem.F.args_list_getattribute_2 _ _)
  unfold Builtin.«object.__getattribute__»
  refine wpAny_bind (wpAny_of_eq (a := (.ref a, [.str (Str.ofString "append") s.toks])) (by first | rfl | kernel_rfl) ?_)
  dsimp only
  refine wpAny_bind (wpAny_of_eq (a := Str.ofString "append") rfl ?_)
  refine wpAny_bind (wpAny_typeOf (hT _) ?_)
  refine wpAny_bind ?_
  unfold ObjectAttr.find
  refine wpAny_bind (wpAny_of_eq slot_list_append.lookup ?_)
  unfold ObjectAttr.getOf
  dsimp only
  refine wpAny_bind ?_
  unfold specialOf
  refine wpAny_bind (wpAny_of_eq type_append ?_)
  refine wpAny_of_eq md_get ?_
  refine wpAny_bind ?_
  unfold ObjectAttr.dataDescriptor? ObjectAttr.takesStores
  dsimp only
  have sp : ∀ (n : Str) (r : Option Value), typeLookup (.type "method_descriptor") n = pure r → specialOf (.builtin "list.append") n = pure r := fun n r e => by
    unfold specialOf; rw [type_append]; exact e
  refine wpAny_bind (wpAny_bind (wpAny_of_eq (sp _ _ md_set) ?_))
  simp only [Option.isSome_none, Bool.false_eq_true, if_false]
  refine wpAny_bind (wpAny_of_eq (sp _ _ md_del) (wpAny_pure ?_))
  simp only [Option.isSome_none, Bool.false_eq_true, if_false]
  refine wpAny_pure ?_
  dsimp only
  unfold ObjectAttr.ownThenClass
  refine wpAny_bind ?_
  show wpAny _ _ (ObjectAttr.ownDict a >>= ObjectAttr.inDict (Str.ofString "append")) _ _ _
  refine wpAny_bind ?_
  unfold ObjectAttr.ownDict
  refine wpAny_bind ?_
  refine wpAny_loadPart hx ?_
  dsimp only
  unfold instanceDict
  refine wpAny_bind (wpAny_loadPart hx ?_)
  dsimp only
  simp only [Bool.not_false, Bool.true_or, if_true]
  refine wpAny_pure ?_
  unfold ObjectAttr.inDict
  dsimp only
  refine wpAny_pure ?_
  dsimp only
  have cg : ObjectAttr.copiedAttributeGuard (Str.ofString "append") (.ref a) = pure () := by
    unfold ObjectAttr.copiedAttributeGuard
    dsimp only
    rw [if_neg (by decide +kernel)]
  refine wpAny_bind (wpAny_of_eq cg ?_)
  unfold ObjectAttr.byTheClass
  dsimp only
  refine wpAny_bind (wpAny_rule (wpAny_pure ?_))
  dsimp only
  unfold ObjectAttr.bindTo
  dsimp only
  refine wpAny_bind (wpAny_holding (wpAny_call_entry (self := .builtin "list.append") slot_md_get type_append entry_md_get (md_get_append (s := { s with toks := s.toks + 1 }) hx ?_) (args_md_get _ _ _)))
  refine ⟨_, rfl, ?_⟩
  refine wpAny_pure ⟨_, rfl, ?_⟩
  dsimp only
  exact wpAny_pure (h _)
end
end Mine

/-! ## W19 -/
namespace Mine
theorem sub_list_module : isSubtype (.type "list") (.type "module") = pure false := by rw [isSubtype_type]; kernel_rfl
theorem sub_list_type : isSubtype (.type "list") (.type "type") = pure false := by rw [isSubtype_type]; kernel_rfl
theorem kind_append : builtinKind "list.append" = some .method := by decide +kernel
theorem vararg_append : Manifest.varargsMethods.contains "list.append" = false := by decide +kernel
noncomputable def sigAppend : Manifest.Signature := ⟨.oneArg, "list.append", "append", .self, [⟨"object", .posOnly, true⟩]⟩
theorem sig_append : Manifest.signature? "list.append" = some sigAppend := by
  rw [signature?_of (id := "list.append") (n := ['d', 'n', 'e', 'p', 'p', 'a']) (o := ['t', 's', 'i', 'l']) (by kernel_rfl) PySem.F.owner_list]; kernel_rfl
theorem checkArgs_append (a v : Value) : Bind.checkArgs "list.append" { sigAppend with full := s!"{Bind.lastOf "list"}.{Bind.lastOf "list.append"}" } ⟨[a, v], []⟩ = pure () := by kernel_rfl

section
variable {prog : Program} {w : World} {M : Model} {A : Around} {E : Value → Shared → Prop} {s : Shared}

theorem check_append {a : Addr} {v : Value} {xs : Array Value} {k : Nat} {Q : Unit → Shared → Prop} (hx : s.heap.get? a = some (listO xs k)) (h : Q () s) : wpAny M A (checkBoundCall "list.append" ⟨[.ref a, v], []⟩) Q E s := by
  have hT : s.TypeIs (.ref a) "list" := ⟨_, hx, rfl⟩
  unfold checkBoundCall
  rw [sig_append, kind_append]
  dsimp only
  rw [if_neg (by decide)]
  refine wpAny_bind (wpAny_isInstance hT sub_list_module ?_)
  rw [vararg_append]
  simp only [Bool.or_false, Bool.false_eq_true, if_false]
  have ht : wpAny M A (isType (.ref a)) (fun b s' => b = false ∧ s' = s) E s := by
    show wpAny M A (loadHead a >>= _) _ _ _
    exact wpAny_bind (wpAny_loadPart hx (wpAny_pure ⟨rfl, rfl⟩))
  refine wpAny_bind (wpAny_mono ht (fun b s' q => ?_) fun _ _ e => e)
  obtain ⟨rfl, rfl⟩ := q
  simp only [Bool.false_eq_true, if_false]
  refine wpAny_bind (wpAny_typeOf hT ?_)
  dsimp only
  exact wpAny_of_eq (checkArgs_append _ _) h

theorem callWith_app {pos : Pos} {u a : Addr} {first : List Value} {args : List (Bool × Sem Value)} {Q : Value → Shared → Prop} (hplain : args.any (·.1) = false)
    (h : wpAny M A (evalArgs (.ref u) true args []) (fun x s₁ => s₁.heap.get? u = some (appO a) ∧ wpAny M A (call (.ref u) (first ++ x.pos) x.kw) Q E s₁) E s) : wpAny M A (callWith pos (.ref u) first args []) Q E s := by
  unfold callWith
  refine wpAny_bind (wpAny_holding (wpAny_mono h (fun x s₁ h₁ => wpAny_bind (wpAny_standAt ?_)) fun _ _ x => x))
  obtain ⟨ho, hcall⟩ := h₁
  simp only [hplain, List.any_nil, Bool.or_false]
  refine wpAny_bind (m := keeperOf (.ref u)) ?_
  unfold keeperOf
  refine wpAny_bind (wpAny_load ho ?_)
  simp only [show (Value.type "builtin_function_or_method" != Value.type "method") = true by decide, show (Value.type "builtin_function_or_method" == Value.type "builtin_function_or_method" || Value.type "builtin_function_or_method" == Value.type "method-wrapper") = true by decide, if_true]
  refine wpAny_pure ?_
  exact wpAny_bind (wpAny_mono hcall (fun r s₂ hr => wpAny_bind (wpAny_holding (wpAny_point (wpAny_pure hr)))) fun _ _ x => x)
end
section
variable {prog : Program} {w : World} {B : Heap → Prop} {mg mb : Str → Option Value} {fa : Nat → Addr} {d : Nat} {c : Cx} {σ : St}

/-- add(x), add = xs.append -/
theorem call_app {A : Around} {h0 : Heap} {s : Shared} {u a : Addr} {xs : List PV} {pv : PV} {v : Value} {m' : Ledger} {Q E : Value → Shared → Prop} (R : Rel prog w c h0 σ s.heap) (hu : s.heap.get? u = some (appO a)) (p : Put a (.lst xs) (.lst (xs ++ [pv])) σ.mem m') (hv : VR s.heap pv v) (hl : xs.length < 16777216)
    (k : ∀ h' tk, HSub s.heap h' → Rel prog w c h0 ⟨σ.vars, m'⟩ h' → Q .none { s with heap := h', toks := tk }) : wpAny (model prog w) A (call (.ref u) [v]) Q E s := by
  obtain ⟨vs, n, e, r⟩ := (R.mem.at_ _ p.mem).1
  have hlen := r.length
  simp only [Array.length_toList] at hlen
  refine wpAny_call (codeAny_of_tree ?_)
  show wpAny _ A.in1 (callAny (.ref u) ⟨[v], []⟩) _ _ s
  simp only [callAny]
  refine wpAny_bind (wpAny_load hu ?_)
  simp only [show (Value.type "builtin_function_or_method" == Value.type "method" || Value.type "builtin_function_or_method" == Value.type "builtin_function_or_method" || Value.type "builtin_function_or_method" == Value.type "method-wrapper") = true by decide, if_true]
  refine KFB.if_so (by decide) ?_
  refine wpAny_bind (check_append e ?_)
  refine wpAny_bind (wpAny_pure (wpAny_pure ?_))
  refine ⟨Code.quiet_builtin _ (by decide +kernel), codeAny_builtin PySem.F.entry_list_append ?_⟩
  show wpAny _ _ (updateSeq a (·.push v) >>= fun _ => ret .none) _ _ s
  refine wpAny_bind (wpAny_updateSeq (hz := by show vs.size ≤ 2 ^ 24; lia) e rfl (wpAny_pure ?_))
  have e' : (s.heap.update a (Obj.mapSeq (·.push v))).get? a = some (listO (vs.push v) (n + 1)) := by
    rw [Heap.get?_update_self _ e rfl, Obj.mapSeq_push_plain]
  obtain ⟨hh, R'⟩ := R.put p (h' := s.heap.update a (Obj.mapSeq (·.push v))) (fun b o q e => (Heap.get?_update_ne _ _ _ _ q).trans e) (fun hh => MR.push e' r hv hh)
  exact k _ s.toks hh R'

theorem EvE.appendOf {o : Expr} {ap : Pos} {a : Addr} {xs : List PV} (ho : EvE prog w B d c σ o (.ref a)) (hm : (a, MO.lst xs) ∈ σ.mem)
    (hb : attributeBase o (Str.ofString "append") c.env (eval o c.env) = eval o c.env := by rfl) (ht : ∀ (v r : Value), letTemporaryGo o v r = pure () := by intro _ _; rfl) : EvE prog w B d c σ (.Attribute o (Str.ofString "append") ap) (.app a) := by
  intro h0 A s Q E b ok R k
  have e : eval (.Attribute o (Str.ofString "append") ap) c.env = (do
      let v ← attributeBase o (Str.ofString "append") c.env (eval o c.env)
      standAt ap.atName
      let r ← holding [v] (getAttr v (Str.ofString "append") true)
      letTemporaryGo o v r
      pure r) := rfl
  rw [e, hb]
  refine wpAny_bind (ho h0 A s _ E b ok R fun v h1 t1 s1 r1 => ?_)
  obtain rfl : v = .ref a := r1
  obtain ⟨vs, n, e1, r⟩ := ((R.sub s1).mem.at_ _ hm).1
  refine wpAny_bind (wpAny_standAt (wpAny_bind (wpAny_holding (getAttr_append e1 fun tk => ?_))))
  rw [ht]
  exact wpAny_bind (wpAny_pure (wpAny_pure (k _ _ tk (s1.trans (Sub.push _ _)) ⟨_, rfl, Heap.get?_push_size _ rfl⟩)))

theorem ExSs.callApp {x : Str} {np pos pos2 : Pos} {e : Expr} {a : Addr} {P1 : PV → Ledger → Prop} {ts : List Stmt} {P : FL → St → Prop} (hf : EvE prog w B d c σ (.Name x np) (.app a)) (he : EvM prog w B d c σ e P1)
    (h : ∀ pv m, P1 pv m → ∃ xs m', Put a (.lst xs) (.lst (xs ++ [pv])) m m' ∧ xs.length < 16777216 ∧ ExSs prog w B d c ⟨σ.vars, m'⟩ ts P)
    (hi : interactive c.env = false := by first | rfl | (apply Cx.Ok.inter; assumption)) (hs : ∀ env, starEach [e] env = (false, eval e env) :: starEach [] env := by intro _; rfl) (hw : swapsWith (.Call (.Name x np) [e] [] pos) none pos2.line c.env = pure false := by rfl) :
    ExSs prog w B d c σ (.Expr (.Call (.Name x np) [e] [] pos) pos2 :: ts) P := by
  have hp : ∀ pos, (backTo pos (starEach [e] c.env)).any (·.1) = false := fun pos => by rw [hs]; rfl
  refine ExSs.next (P1 := fun σ' => ExSs prog w B d c σ' ts P) (fun h0 A s Q E bb ok R q => wpAny_Expr ?_ hi hw) fun _ q => q
  refine wpAny_Call_ofName (hf h0 A s _ E bb ok R fun v h1 t1 s1 r1 => ?_)
  obtain ⟨u, rfl, hu⟩ := r1
  refine callWith_app (a := a) (hp _) (evalArgsM (hp _) (wpAny_items_cons (he h0 A _ _ E bb ok (R.sub s1) fun pv m v2 h2 t2 p hs2 R2 r2 => wpAny_items_nil ?_) (hs _)))
  obtain ⟨xs, m', pu, hl, hx⟩ := h pv m p
  have hu2 := hs2 _ _ (.inr ⟨rfl, _, rfl⟩) hu
  exact ⟨hu2, call_app R2 hu2 pu r2 hl fun h3 t3 hh R3 => q .next _ .next h3 t3 ⟨rfl, hx⟩ R3 trivial⟩
theorem ExSs.callAppE {x : Str} {np pos pos2 : Pos} {e : Expr} {a : Addr} {xs : List PV} {pv : PV} {m' : Ledger} {ts : List Stmt} {P : FL → St → Prop} (hf : EvE prog w B d c σ (.Name x np) (.app a)) (he : EvE prog w B d c σ e pv)
    (p : Put a (.lst xs) (.lst (xs ++ [pv])) σ.mem m') (hl : xs.length < 16777216) (h : ExSs prog w B d c ⟨σ.vars, m'⟩ ts P)
    (hi : interactive c.env = false := by first | rfl | (apply Cx.Ok.inter; assumption)) (hs : ∀ env, starEach [e] env = (false, eval e env) :: starEach [] env := by intro _; rfl) (hw : swapsWith (.Call (.Name x np) [e] [] pos) none pos2.line c.env = pure false := by rfl) :
    ExSs prog w B d c σ (.Expr (.Call (.Name x np) [e] [] pos) pos2 :: ts) P :=
  ExSs.callApp (P1 := fun q m => q = pv ∧ m = σ.mem) hf (he.m ⟨rfl, rfl⟩) (fun _ _ q => by rw [q.1, q.2]; exact ⟨xs, m', p, hl, h⟩) hi hs hw
end
end Mine

/-! ## W20 -/
namespace Mine
theorem mro_object : mroOf (.type "object") = pure [.type "object"] := by rw [mroOf_type]; kernel_rfl
theorem lookup_object_new : typeLookup (.type "object") "__new__" = pure (some (.builtin "object.__new__")) := by rw [typeLookup_type, builtinLookup_eq_fast]; kernel_rfl
theorem sub_object : isSubtype (.type "object") (.type "object") = pure true := by rw [isSubtype_type]; kernel_rfl
theorem called_object : TypeCalled "object" "object.__new__" "object.__init__" :=
  ⟨by decide +kernel, by decide +kernel, ⟨_, _, mro_object⟩, madeBy_type mro_object lookup_object_new (by decide +kernel), by decide +kernel, sub_object, PySem.F.slot_object_init⟩
theorem typeCall_object : checkTypeCall "object" ⟨[], []⟩ = pure () := by kernel_rfl
theorem newCall_object : checkBuiltinCall "object.__new__" ⟨[.type "object"], []⟩ = pure () := by kernel_rfl
theorem args_object_init_1 (a : Value) : argsOk "object.__init__" ⟨[a], []⟩ := by
  unfold argsOk; rw [signature?_of (id := "object.__init__") (n := ['_', '_', 't', 'i', 'n', 'i', '_', '_']) (o := ['t', 'c', 'e', 'j', 'b', 'o']) (by kernel_rfl) PySem.F.owner_object]; kernel_rfl

theorem entry_object_new' : entryFor table "object.__new__" = some Builtin.«object.__new__» := entryFor_of_tree (by kernel_rfl)

section
variable {prog : Program} {w : World} {A : Around} {E : Value → Shared → Prop} {s : Shared}
theorem object_new : Meets (Builtin.«object.__new__» ⟨[.type "object"], []⟩) (fun A R s => R (.ok (.ret (.ref s.heap.objs.size))) { s with heap := s.heap.push { cls := .type "object", data := .plain } }) :=
  .of_wp fun prog w A R s h => by
    unfold Builtin.«object.__new__»
    dsimp only
    refine wpAny_bind (wpAny_of_eq (a := true) rfl ?_)
    simp only [Bool.not_true, Bool.false_eq_true, if_false]
    refine wpAny_ite_split (fun q => absurd q (by decide +kernel)) (fun _ => ?_)
    refine wpAny_bind (wpAny_of_eq (a := ()) (by kernel_rfl) ?_)
    rw [if_neg (by decide), if_neg (by decide +kernel)]
    refine wpAny_bind (wpAny_pure ?_)
    refine wpAny_bind (wpAny_newObj_type ?_)
    rw [if_neg (by decide +kernel)]
    exact wpAny_pure ⟨_, rfl, h⟩
theorem object_init {self : Value} : Meets (Builtin.«object.__init__» ⟨[self], []⟩) (fun A R s => R (.ok (.ret .none)) s) :=
  .of_wp fun prog w A R s h => wpAny_pure ⟨_, rfl, h⟩
theorem call_object {Q : Value → Shared → Prop} (h : Q (.ref s.heap.objs.size) { s with heap := s.heap.push { cls := .type "object", data := .plain } }) : wpAny (model prog w) A (call (.type "object") []) Q E s :=
  callType_meets called_object typeCall_object newCall_object entry_object_new' PySem.F.entry_object_init object_new (Q₁ := fun obj s₁ => obj = .ref s.heap.objs.size ∧ s₁ = { s with heap := s.heap.push { cls := .type "object", data := .plain } }) ⟨rfl, rfl⟩ fun obj s₁ q => by
    obtain ⟨rfl, rfl⟩ := q
    exact ⟨⟨_, Heap.get?_push_size _ rfl, rfl⟩, args_object_init_1 _, _, object_init, rfl, h⟩
end
section
variable {prog : Program} {w : World} {B : Heap → Prop} {mg mb : Str → Option Value} {fa : Nat → Addr} {d : Nat} {c : Cx} {σ : St}

/-- object() -/
theorem EvM.object {np pos : Pos} {P : PV → Ledger → Prop} (Z : Base B mg mb fa) (C : c.Ok) (hk : c.env.kindOf (Str.ofString "object") = some .globalImplicit) (h : ∀ a, P (.ref a) σ.mem) : EvM prog w B d c σ (.Call (.Name (Str.ofString "object") np) [] [] pos) P := by
  intro h0 A s Q E b ok R k
  refine wpAny_Call_ofName ((EvE.bl Z C (by decide +kernel) boot_object hk : EvE prog w B d c σ (.Name (Str.ofString "object") np) (.val (.type "object"))) h0 A s _ E b ok R fun v h1 t1 s1 r1 => ?_)
  obtain rfl : v = .type "object" := r1
  refine (Callee.typ "object").call Z.toBs b rfl (evalArgsM rfl (wpAny_items_nil ⟨(R.sub s1).keep, ?_⟩))
  exact call_object (k (.ref h1.objs.size) _ _ _ t1 (h _) (s1.trans (Sub.push _ _)).hard ((R.sub s1).sub (Sub.push _ _)) rfl)

/-- is, is not: against a thing -/
theorem EvB.is_ref {l r : Expr} {pos : Pos} {a : Addr} (hl : EvE prog w B d c σ l (.ref a)) (hr : EvE prog w B d c σ r (.ref a)) (hm : behindInMarks .Is r = false := by with_unfolding_all rfl) : EvB prog w B d c σ (.Compare l [.Is] [r] pos) true :=
  fun h0 A s Q E b ok R k => wpAny_isTrue_Compare1 (hl h0 A s _ E b ok R fun v1 h1 t1 s1 r1 => hr h0 A _ _ E b ok (R.sub s1) fun v2 h2 t2 s2 r2 => by
    obtain rfl : v1 = .ref a := r1
    obtain rfl : v2 = .ref a := r2
    exact wpAny_is_ref_self (wpAny_truthy_bool (k h2 t2 (s1.trans s2)))) hm
theorem EvB.isNot_ref {l r : Expr} {pos : Pos} {a : Addr} (hl : EvE prog w B d c σ l (.ref a)) (hr : EvE prog w B d c σ r (.ref a)) (hm : behindInMarks .IsNot r = false := by with_unfolding_all rfl) : EvB prog w B d c σ (.Compare l [.IsNot] [r] pos) false :=
  fun h0 A s Q E b ok R k => wpAny_isTrue_Compare1 (hl h0 A s _ E b ok R fun v1 h1 t1 s1 r1 => hr h0 A _ _ E b ok (R.sub s1) fun v2 h2 t2 s2 r2 => by
    obtain rfl : v1 = .ref a := r1
    obtain rfl : v2 = .ref a := r2
    exact wpAny_isNot_ref_self (wpAny_truthy_bool (k h2 t2 (s1.trans s2)))) hm
theorem EvB.is_str {l r : Expr} {pos : Pos} {x : List Nat} {a : Addr} (hl : EvE prog w B d c σ l (.str x)) (hr : EvE prog w B d c σ r (.ref a)) (hm : behindInMarks .Is r = false := by with_unfolding_all rfl) : EvB prog w B d c σ (.Compare l [.Is] [r] pos) false :=
  fun h0 A s Q E b ok R k => wpAny_isTrue_Compare1 (hl h0 A s _ E b ok R fun v1 h1 t1 s1 r1 => hr h0 A _ _ E b ok (R.sub s1) fun v2 h2 t2 s2 r2 => by
    obtain ⟨t, rfl⟩ := r1
    obtain rfl : v2 = .ref a := r2
    exact wpAny_is_other rfl (by simp) (wpAny_truthy_bool (k h2 t2 (s1.trans s2)))) hm
theorem EvB.isNot_str {l r : Expr} {pos : Pos} {x : List Nat} {a : Addr} (hl : EvE prog w B d c σ l (.str x)) (hr : EvE prog w B d c σ r (.ref a)) (hm : behindInMarks .IsNot r = false := by with_unfolding_all rfl) : EvB prog w B d c σ (.Compare l [.IsNot] [r] pos) true :=
  fun h0 A s Q E b ok R k => wpAny_isTrue_Compare1 (hl h0 A s _ E b ok R fun v1 h1 t1 s1 r1 => hr h0 A _ _ E b ok (R.sub s1) fun v2 h2 t2 s2 r2 => by
    obtain ⟨t, rfl⟩ := r1
    obtain rfl : v2 = .ref a := r2
    exact wpAny_isNot_other rfl (by simp) (wpAny_truthy_bool (k h2 t2 (s1.trans s2)))) hm
end
end Mine

/-! ## W22 -/
namespace Mine
open PySem.Builtin PySem.Builtin.Re

/-! a search that finds nothing -/
noncomputable def twinCode : List Nat := [14, 14, 4, 1, 1, 9, 0, 64, 0, 1342177280, 0, 0, 0, 0, 0, 17, 0, 13, 11, 9, 0, 64, 0, 1342177280, 0, 0, 0, 0, 0, 17, 1, 1]
theorem plainAttrs_pat : PlainAttrs "re.Pattern" :=
  ⟨⟨"object.__getattribute__", by rw [typeLookup_type, builtinLookup_eq_fast]; kernel_rfl, by decide +kernel⟩, by rw [typeLookup_type, builtinLookup_eq_fast]; kernel_rfl⟩
theorem slot_pat_sub : Slot "re.Pattern" "sub" "re.Pattern.sub" :=
  .of (owner := "re.Pattern") (n := "sub") (by rw [typeLookup_type, builtinLookup_eq_fast]; kernel_rfl) (by decide +kernel) (by decide +kernel) (by decide +kernel)
    (by first | exact .inl (by decide +kernel) | exact .inr (by decide +kernel)) (by rw [isSubtype_type]; kernel_rfl)
theorem type_pat_sub : typeOf (.builtin "re.Pattern.sub") = pure (.type "method_descriptor") := by show builtinType _ = _; rw [builtinType_eq_fast]; kernel_rfl
theorem entry_pat_sub : entryFor table "re.Pattern.sub" = some Builtin.«re.Pattern.sub» := entryFor_of_tree (by kernel_rfl)
theorem entry_pat_loop : entryFor table "re.Pattern.sub.loop" = some Builtin.«re.Pattern.sub.loop» := entryFor_of_tree (by kernel_rfl)
theorem plain_pat_loop : plainId "re.Pattern.sub.loop" = true := by decide +kernel
theorem owner_pat : Manifest.owners.lookup (String.ofList ['n', 'r', 'e', 't', 't', 'a', 'P', '.', 'e', 'r'].reverse) = some Manifest.sig_re_Pattern := by kernel_rfl
theorem args_pat_sub (a b c : Value) : argsOk "re.Pattern.sub" ⟨[a, b, c], []⟩ := by
  unfold argsOk; rw [signature?_of (id := "re.Pattern.sub") (n := ['b', 'u', 's']) (o := ['n', 'r', 'e', 't', 't', 'a', 'P', '.', 'e', 'r']) (by kernel_rfl) owner_pat]; kernel_rfl
theorem fun_call : typeLookup (.type "function") "__call__" = pure (some (.builtin "function.__call__")) := by rw [typeLookup_type, builtinLookup_eq_fast]; kernel_rfl
theorem str_not_bytearray : isSubtype (.type "str") (.type "bytearray") = pure false := by rw [isSubtype_type]; kernel_rfl
theorem twin_fails : ((Sre.forSearch twinCode.toArray #[63] 1 0 1 false).runFor 4).outcome = some .failed := by kernel_rfl

noncomputable def IsPat (h : Heap) (a : Addr) : Prop := ∃ (fs : Array Value) (T : Addr) (ws : Array Value) (n : Nat), h.get? a = some { cls := .type "re.Pattern", data := .fields fs } ∧ fs.getD 5 .none = .ref T ∧ reRawNat (fs.getD 2 .none) = 1 ∧ reRawNat (fs.getD 6 .none) = 0 ∧
  h.get? T = some { cls := .type "tuple", data := .seq ws n } ∧ ((ws.map reRawOf).map (·.toNat)).toList = twinCode
theorem IsPat.sub {h h' : Heap} {a : Addr} (x : IsPat h a) (s : Sub h h') : IsPat h' a :=
  let ⟨fs, T, ws, n, h1, h2, h3, h4, h5, h6⟩ := x
  ⟨fs, T, ws, n, s _ _ h1, h2, h3, h4, s _ _ h5, h6⟩

section
variable {prog : Program} {w : World} {A : Around} {E : Value → Shared → Prop} {s : Shared}

theorem wholeTarget {M : Model} {a : Addr} {x : List Nat} {t : Tok} {Q : ReTarget → Shared → Prop} (hp : IsPat s.heap a)
    (h : Q { pattern := .ref a, string := .str (S x) t, code := twinCode.toArray, text := x.toArray, kind := 0, groups := 1, pos := 0, lim := x.toArray.size } s) : wpAny M A (reWholeTarget (.ref a) (.str (S x) t)) Q E s := by
  obtain ⟨fs, T, ws, n, h1, h2, h3, h4, h5, h6⟩ := hp
  have hc : (ws.map reRawOf).map (·.toNat) = twinCode.toArray := by rw [← h6]
  unfold reWholeTarget
  refine wpAny_bind (wpAny_fieldsOf h1 rfl ?_)
  refine wpAny_bind (wpAny_of_eq (a := ((x.toArray, 0) : Array Nat × Nat)) rfl ?_)
  dsimp only
  rw [h4, if_neg (by decide), if_neg (by decide)]
  refine wpAny_bind (wpAny_of_eq (a := ()) rfl ?_)
  refine wpAny_bind ?_
  unfold reRawItems
  rw [h2]
  refine wpAny_bind (wpAny_seqItems h5 rfl (wpAny_pure ?_))
  rw [Option.getD_some, hc, h3]
  exact wpAny_pure h

theorem sayRules {M : Model} (p : Nat → Bool) (g : Nat → String) {Q : PUnit → Shared → Prop} (h : Q ⟨⟩ s) (l : List Nat) :
    wpAny M A (forIn l PUnit.unit fun i _ => (if p i = true then do rule (g i); pure (ForInStep.yield PUnit.unit) else pure (ForInStep.yield PUnit.unit) : Sem (ForInStep PUnit))) Q E s := by
  refine wpAny_forIn_list _ (fun _ _ s' => s' = s) _ ?_ ?_ _ _ rfl
  · rintro i rest b s' rfl
    by_cases q : p i = true
    · rw [if_pos q]; exact wpAny_bind (wpAny_rule (wpAny_pure rfl))
    · rw [if_neg q]; exact wpAny_pure rfl
  · rintro b s' rfl; exact h

theorem nextFound {M : Model} {t : ReTarget} {Q : Option Sre.M → Shared → Prop} (h1 : t.code = twinCode.toArray) (h2 : t.text = #[63]) (h3 : t.groups = 1) (h4 : t.lim = 1) (h : Q none s) : wpAny M A (reNextFound t 0 false) Q E s := by
  unfold reNextFound
  rw [h1, h2, h3, h4]
  unfold reRunToEnd
  refine wpAny_bind ?_
  have e : (2 : Nat) ^ 64 = (2 ^ 64 - 1) + 1 := by decide
  rw [e]
  unfold reDrive
  have ho := twin_fails
  unfold reTurnSteps
  dsimp only
  rw [ho]
  refine wpAny_pure ?_
  refine wpAny_bind (sayRules _ _ ?_ _)
  rw [ho]
  exact wpAny_pure h

theorem notHeldStr {M : Model} {id : String} {x : Str} {t : Tok} {Q : Unit → Shared → Prop} (h : Q () s) : wpAny M A (reNotHeld id (.str x t)) Q E s := by
  unfold reNotHeld
  refine wpAny_bind (wpAny_isInstance (typeIs_str _ _ _) str_not_bytearray ?_)
  exact wpAny_pure h

theorem named_sub (f x : Value) : reNamed "re.Pattern.sub" "sub" ["repl", "string", "count"] 2 [f, x] [] = pure [some f, some x, none] := by kernel_rfl

theorem pat_sub (a f : Addr) (t : Tok) : Meets (Builtin.«re.Pattern.sub» ⟨[.ref a, .ref f, .str (S [63]) t], []⟩) (fun A R s => IsPat s.heap a ∧ s.TypeIs (.ref f) "function" ∧
    ∀ t' h' tk, Sub s.heap h' → R (.ok (.ret (.str (S [63]) t'))) { s with heap := h', toks := tk }) := by
  intro prog w A R s ⟨hp, hT, h⟩
  unfold Builtin.«re.Pattern.sub» reSubstitute
  dsimp only
  refine wpAny_bind (wpAny_of_eq (named_sub _ _) ?_)
  dsimp only
  refine wpAny_bind (wpAny_pure ?_)
  refine wpAny_bind (wpAny_specialOf hT fun_call ?_)
  simp only [Option.isSome_some, if_true]
  refine wpAny_bind (wpAny_pure ?_)
  refine wpAny_bind (wpAny_pure ?_)
  dsimp only
  refine wpAny_bind (wpAny_holding (wholeTarget hp ?_))
  refine wpAny_ite_split (fun _ => ?_) (fun q => absurd rfl q)
  refine wpAny_bind (notHeldStr ?_)
  refine wpAny_bind (wpAny_newList ?_)
  refine wpAny_pure ⟨plainId_quiet plain_pat_loop _, codeAny_builtin entry_pat_loop ?_⟩
  rw [Around.under_plainId plain_pat_loop]
  unfold Builtin.«re.Pattern.sub.loop»
  unfold rawInt
  dsimp only
  have s1 : Sub s.heap (s.heap.push { cls := .type "list", data := .seq ([] : List Value).toArray }) := Sub.push _ _
  refine wpAny_bind (wholeTarget (hp.sub s1) ?_)
  dsimp only
  rw [if_neg (by decide)]
  rw [if_neg (by decide)]
  refine wpAny_bind (nextFound rfl rfl rfl rfl ?_)
  dsimp only
  rw [if_pos (by decide)]
  unfold reSlice
  rw [if_pos (by decide), if_pos (by decide), if_pos (by decide)]
  have g1 : (s.heap.push { cls := .type "list", data := .seq ([] : List Value).toArray }).get? s.heap.objs.size = some (listO #[] 0) := Heap.get?_push_size _ rfl
  refine wpAny_bind (wpAny_mkStr ?_ (by decide))
  refine wpAny_bind (wpAny_updateSeq g1 rfl ?_)
  have g2 := Heap.get?_update_self (Obj.mapSeq (·.push (Value.str (S [63]) s.toks))) g1 rfl
  refine wpAny_bind (wpAny_mkStr ?_ (by decide))
  refine wpAny_bind (wpAny_seqItems g2 rfl ?_)
  rw [if_neg (by simp)]
  have s2 : Sub s.heap ((s.heap.push { cls := .type "list", data := .seq ([] : List Value).toArray }).update s.heap.objs.size (Obj.mapSeq (·.push (Value.str (S [63]) s.toks)))) := fun b o e =>
    (Heap.get?_update_other _ _ (Ne.symm (Nat.ne_of_lt (Heap.lt_size e)))).trans (s1 _ _ e)
  refine wpAny_bind (SC.join (l := [(S [63], s.toks)]) (texts := [S [63]]) ⟨_, g2, rfl, _, rfl⟩ rfl (by decide +kernel) fun t' k => ?_)
  rw [if_neg (by decide)]
  exact wpAny_pure (h t' _ k s2)
end
end Mine

/-! ## W23 -/
namespace Mine
/-! a function made by lambda, and the pattern's sub -/
noncomputable def TabOk (l c : Nat) (ps : Array Value) : Prop := ps = #[] ∨ ∃ v, ps = #[rawInt l, rawInt c, v]
theorem TabOk.triples {l c : Nat} {ps : Array Value} (h : TabOk l c ps) : TriplesOk ps.toList := by
  rcases h with rfl | ⟨v, rfl⟩ <;> trivial
theorem notHard_tab {ps : Array Value} : ¬ Hard (tabObj ps) := by
  rintro (⟨h, -⟩ | ⟨h, -⟩) <;> cases h
theorem notHard_fun {o : Obj} (ho : o.cls = .type "function") : ¬ Hard o := by
  rintro (⟨h, -⟩ | ⟨h, -⟩)
  · rw [ho] at h; exact absurd h (by decide)
  · rw [ho] at h; exact absurd h (by decide)

section
variable {prog : Program} {w : World} {B : Heap → Prop} {mg mb : Str → Option Value} {fa : Nat → Addr} {d : Nat} {c : Cx} {σ : St}

theorem EvM.lambda {params : Arguments} {body : Expr} {scope : Scope} {pos : Pos} {cc P : Addr} {ps : Array Value} {P1 : PV → Ledger → Prop} (Z : Bs B mg mb) (C : c.Ok) (hcode : c.env.code = .ref cc) (hcd : ∀ h, B h → CodeHd h cc P)
    (hbm : ∀ h, B h → ∃ bm ob, mg "__builtins__" = some (.ref bm) ∧ bm ≠ builtinsNs ∧ h.get? bm = some ob ∧ ob.cls = .type "module" ∧ ob.dict = some builtinsNs ∧ ob.data = .plain)
    (ht : TabOk pos.line pos.col ps) (hm : (P, MO.raw (tabObj ps)) ∈ σ.mem)
    (h : ∀ ps', TabOk pos.line pos.col ps' → ∃ m', Put P (.raw (tabObj ps)) (.raw (tabObj ps')) σ.mem m' ∧ ∀ f fo, fo.cls = .type "function" → P1 (.ref f) ((f, .raw fo) :: m'))
    (hcl : closureFor scope c.env = pure [] := by rfl) (hdef : defaultsOf params c.env = ([], []) := by rfl) : EvM prog w B d c σ (.Lambda params body scope pos) P1 := by
  intro h0 A s Q E b ok R k
  refine kla_eval hdef ?_
  have hmP := R.mem.at_ _ hm
  have hP : s.heap.get? P = some (tabObj ps) := hmP.1.1
  have hgs : s.heap.Ns mainGlobals mg := Ns.sub (Z.g h0 b) R.keep
  have hgP : mainGlobals ≠ P := fun q => by
    obtain ⟨o, es, ep, e, _⟩ := Z.g h0 b
    rw [q, hmP.2] at e; cases e
  obtain ⟨bm, ob, b1, b2, b3, b4, b5, b6⟩ := hbm h0 b
  have hbP : bm ≠ P := fun q => by rw [q, hmP.2] at b3; cases b3
  have hbG : bm ≠ mainGlobals := fun q => by
    obtain ⟨o, es, ep, e, hd, _⟩ := Z.g h0 b
    rw [q, e] at b3; cases b3; rw [hd] at b6; cases b6
  have hb : s.heap.BuiltinsAt mg P := ⟨bm, ob, b1, b2, hbG, hbP, R.keep _ _ b3, b4, b5, b6⟩
  have hC : CodeHd s.heap cc P := (hcd h0 b).keeps R.keep
  rcases ht with rfl | ⟨v, rfl⟩
  · refine kla_makeFunction hcl C.gl hgs hcode hC hP trivial rfl hgP hb fun c' ctv h' tk hx hge hlt _ htb => ?_
    obtain ⟨m', hput, hk⟩ := h #[rawInt pos.line, rawInt pos.col, .ref c'] (.inr ⟨_, rfl⟩)
    obtain ⟨hh, R'⟩ := R.put (h' := h') hput (fun b o q e => hx b o q e) (fun _ => ⟨htb, notHard_tab⟩)
    exact k _ _ _ _ tk (hk h'.objs.size _ rfl) (hh.trans (Sub.push _ _).hard) (R'.new (mo := .raw _) ⟨Heap.get?_push_size _ rfl, notHard_fun rfl⟩) rfl
  · refine kla_makeFunctionHit (cv := v) hcl C.gl hgs hcode hC hP trivial (by simp [codeAmong, rawInt]) hb fun ctv h' tk hk' _ => ?_
    obtain ⟨m', hput, hk⟩ := h #[rawInt pos.line, rawInt pos.col, v] (.inr ⟨_, rfl⟩)
    obtain ⟨hh, R'⟩ := R.put (h' := h') hput (fun b o q e => hk' b o e) (fun _ => ⟨hk' _ _ hP, notHard_tab⟩)
    exact k _ _ _ _ tk (hk h'.objs.size _ rfl) (hh.trans (Sub.push _ _).hard) (R'.new (mo := .raw _) ⟨Heap.get?_push_size _ rfl, notHard_fun rfl⟩) rfl

/-- a method call whose receiver's type the base shows -/
theorem EvM.methB {o : Expr} {name : Str} {ap pos : Pos} {es : List Expr} {T id : String} {po : PV} {Pa : List PV → Ledger → Prop} {P : PV → Ledger → Prop} (ho : EvE prog w B d c σ o po)
    (hT : ∀ (h0 : Heap) (s : Shared) (v : Value), B h0 → Rel prog w c h0 σ s.heap → VR s.heap po v → s.TypeIs v T ∧ (∀ a, v = .ref a → ∃ ob, s.heap.get? a = some ob ∧ ob.dict = none)) (PA : PlainAttrs T) (sl : Slot T name id)
    (ty : typeOf (.builtin id) = pure (.type "method_descriptor")) (ha : EvMs prog w B d c σ es Pa) (hc : ∀ pvs m, Pa pvs m → CallR prog w B d c ⟨σ.vars, m⟩ (.builtin id) (po :: pvs) P)
    (hb : attributeBase o name c.env (eval o c.env) = eval o c.env := by rfl) (hp : (Pos.endLine ap == Pos.line pos) = true := by rfl)
    (hf : ∀ pos env, (((backTo pos (starEach es env)).all (!·.1)) && (backToKw pos (keywordEach [] env)).all (·.1.isSome) && decide (es.length + ([] : List Keyword).length + (if ([] : List Keyword).isEmpty then 0 else 1) < 30)) = true := by intro _ _; rfl)
    (hpl : ∀ pos env, (backTo pos (starEach es env)).any (·.1) = false := by intro _ _; rfl) : EvM prog w B d c σ (.Call (.Attribute o name ap) es [] pos) P :=
  fun h0 A s Q E b ok R k => wpAny_Call_method hb (hf _ _) hp PA sl ty (ho h0 A s _ E b ok R fun v h1 t1 s1 r1 => by
    obtain ⟨t1', t2'⟩ := hT h0 { s with heap := h1, toks := t1 } v b (R.sub s1) r1
    refine ⟨t1', t2', Calls.callWith_builtin (hpl _ _) (evalArgsM (hpl _ _) (ha h0 A _ pos _ E b ok (R.sub s1) fun pvs m vs h2 t2 p hs R2 vrs => ?_))⟩
    exact hc pvs m p h0 A _ (v :: vs) Q E b ok R2 ⟨r1.hsub hs, vrs⟩ fun pv m' v h' tk p' hs' R' vr => k pv m' v h' tk p' ((s1.hard.trans hs).trans hs') R' vr)

theorem CallR.patSub {a f : Addr} {fo : Obj} {P : PV → Ledger → Prop} (hp : ∀ h, B h → IsPat h a) (hfo : fo.cls = .type "function") (hm : (f, MO.raw fo) ∈ σ.mem) (h : P (.str [63]) σ.mem) : CallR prog w B d c σ (.builtin "re.Pattern.sub") [.ref a, .ref f, .str [63]] P := by
  intro h0 A s vals Q E b ok R r k
  revert vals; refine VRs.vvs fun t => ?_
  · skip
    have hpa := (hp h0 b).sub R.keep
    have hT : s.TypeIs (.ref a) "re.Pattern" := let ⟨_, _, _, _, e, _⟩ := hpa; ⟨_, e, rfl⟩
    exact call_meets slot_pat_sub hT entry_pat_sub (args_pat_sub _ _ _) (pat_sub a f t) ⟨hpa, ⟨_, (R.mem.at_ _ hm).1.1, hfo⟩, fun t' h' tk s' => k _ _ _ h' tk h s'.hard (R.sub s') ⟨t', rfl⟩⟩
end
end Mine

/-! ## W24 -/
namespace Mine
/-! a def some of whose names are cells -/
structure EnvC (B : Heap → Prop) (D : Dfn) (env : Env) : Prop where
  code : ∀ h, B h → h.CodeRec env.code D.name
  scope : env.scope = D.scope
  gl : env.globals = mainGlobals
  bl : env.builtins = builtinsNs
  cells : env.cells = cellsFrom (env.locals + 1) D.scope.names []

theorem kind_ofC {B : Heap → Prop} {D : Dfn} {env : Env} (h : EnvC B D env) {x : Str} {k : NameKind} (q : D.scope.names.lookup x = some k) : env.kindOf x = some k := by
  show env.scope.names.lookup x = _; rw [h.scope]; exact q

theorem cellsFrom_keep : ∀ (names : List (Str × NameKind)) (n : Nat) (acc : List (Str × Addr)) (x : Str), (acc.lookup x).isSome = true → ((cellsFrom n names acc).lookup x).isSome = true
  | [], _, _, _, h => h
  | (y, k) :: r, n, acc, x, h => by
    unfold cellsFrom
    split
    · refine cellsFrom_keep r _ _ x ?_
      rw [List.lookup_cons]
      cases x == y <;> simp [h]
    · exact cellsFrom_keep r _ _ x h
theorem cellsFrom_some : ∀ (names : List (Str × NameKind)) (n : Nat) (acc : List (Str × Addr)) (x : Str), (x, NameKind.cell) ∈ names → ((cellsFrom n names acc).lookup x).isSome = true
  | (y, k) :: r, n, acc, x, h => by
    unfold cellsFrom
    rcases List.mem_cons.mp h with e | h
    · cases e
      rw [if_pos (by decide)]
      refine cellsFrom_keep r _ _ _ ?_
      simp
    · split
      · exact cellsFrom_some r _ _ x h
      · exact cellsFrom_some r _ _ x h
theorem cellsFrom_apart : ∀ (names : List (Str × NameKind)) (n : Nat) (acc : List (Str × Addr)), acc.Pairwise (fun x y => x.2 ≠ y.2) → (∀ p ∈ acc, p.2 < n) → (cellsFrom n names acc).Pairwise (fun x y => x.2 ≠ y.2)
  | [], _, _, h, _ => h
  | (y, k) :: r, n, acc, h, hl => by
    unfold cellsFrom
    split
    · refine cellsFrom_apart r _ _ (List.pairwise_cons.mpr ⟨fun p hp e => ?_, h⟩) fun p hp => ?_
      · have := hl p hp
        have e' : n = p.2 := e
        rw [← e'] at this
        exact Nat.lt_irrefl _ this
      · rcases List.mem_cons.mp hp with rfl | hp
        · exact Nat.lt_succ_self _
        · exact Nat.lt_succ_of_lt (hl p hp)
    · exact cellsFrom_apart r _ _ h hl
theorem mem_lookup {α : Type} : ∀ {l : List (Str × α)} {x : Str} {v : α}, l.lookup x = some v → (x, v) ∈ l := PySem.mem_of_lookup

theorem EnvC.cell {B : Heap → Prop} {D : Dfn} {env : Env} (h : EnvC B D env) {x : Str} (q : D.scope.names.lookup x = some .cell) : ∃ a, env.cells.lookup x = some a := by
  have := cellsFrom_some D.scope.names (env.locals + 1) [] x (mem_lookup q)
  rw [h.cells]
  exact Option.isSome_iff_exists.mp this

noncomputable def cellDfn (D : Dfn) (ps names : List Str) : Bool :=
  (D.scope.kind == .function) && !D.scope.isCoroutine && !D.scope.isGenerator &&
  names.all (fun x => (D.scope.names.lookup x == some .local || D.scope.names.lookup x == some .cell) && !(x == ("__debug__" : Str)) && !(x == ("__classdict__" : Str))) && decide names.Nodup && (names.take ps.length == ps)

theorem EnvC.ok {B : Heap → Prop} {D : Dfn} {env : Env} {ps names : List Str} (h : EnvC B D env) (p : cellDfn D ps names = true) : Cx.Ok ⟨env, names, true⟩ := by
  simp only [cellDfn, Bool.and_eq_true, Bool.or_eq_true, decide_eq_true_eq, List.all_eq_true, beq_iff_eq, Bool.not_eq_true'] at p
  obtain ⟨⟨⟨⟨⟨p1, p2⟩, p3⟩, p5⟩, p6⟩, p7⟩ := p
  refine ⟨p6, by rw [h.scope]; exact p1, h.gl, h.bl, fun x hx => ?_, fun x y a hne e1 e2 => ?_, fun _ x hx q => ?_, fun x hx => ⟨(p5 x hx).1.2, (p5 x hx).2⟩⟩
  · rcases (p5 x hx).1.1 with e | e
    · exact .inl (kind_ofC h e)
    · exact .inr ⟨.inl (kind_ofC h e), h.cell e⟩
  · have e1' : env.cells.lookup x = some a := e1
    have e2' : env.cells.lookup y = some a := e2
    rw [h.cells] at e1' e2'
    exact hne (PySem.name_of_addr (cellsFrom_apart _ _ _ List.Pairwise.nil (by simp)) (mem_lookup e1') (mem_lookup e2'))
  · have q' : env.scope.names.lookup x = some .free := q
    rw [h.scope] at q'
    rcases (p5 x hx).1.1 with e | e <;> (rw [q'] at e; cases e)

theorem bindL_get (kindOf : Str → Option NameKind) : ∀ {ps : List Str} {vals : List Value} (m : Str → Option Value), ps.Nodup → (∀ x, x ∉ ps → bindL kindOf (ps.zip vals) m x = m x) ∧
    ∀ {k : Nat} {x : Str} {v : Value}, ps[k]? = some x → vals[k]? = some v → kindOf x = some .local → bindL kindOf (ps.zip vals) m x = some v
  | [], vals, m, _ => ⟨fun x _ => by simp [bindL], fun h _ _ => by simp at h⟩
  | p :: ps, [], m, _ => ⟨fun x _ => by simp [bindL], fun _ h _ => by simp at h⟩
  | p :: ps, u :: us, m, nd => by
    have nd' := List.nodup_cons.mp nd
    have ih := fun m => bindL_get kindOf (ps := ps) (vals := us) m nd'.2
    constructor
    · intro x hx
      rw [List.zip_cons_cons, bindL, (ih _).1 x (fun q => hx (.tail _ q))]
      split
      · have : x ≠ p := fun e => hx (e ▸ .head _)
        simp [this]
      · rfl
    · intro k x v h1 h2 hk
      rw [List.zip_cons_cons, bindL]
      cases k with
      | zero =>
        simp only [List.getElem?_cons_zero, Option.some.injEq] at h1 h2
        subst h1; subst h2
        rw [(ih _).1 _ nd'.1, if_pos hk]; simp
      | succ k => exact (ih _).2 (by simpa using h1) (by simpa using h2) hk
theorem bindC_get (kindOf : Str → Option NameKind) : ∀ {ps : List Str} {vals : List Value} (m : Str → Option Value), ps.Nodup → (∀ x, x ∉ ps → bindC kindOf (ps.zip vals) m x = m x) ∧
    ∀ {k : Nat} {x : Str} {v : Value}, ps[k]? = some x → vals[k]? = some v → kindOf x ≠ some .local → bindC kindOf (ps.zip vals) m x = some v
  | [], vals, m, _ => ⟨fun x _ => by simp [bindC], fun h _ _ => by simp at h⟩
  | p :: ps, [], m, _ => ⟨fun x _ => by simp [bindC], fun _ h _ => by simp at h⟩
  | p :: ps, u :: us, m, nd => by
    have nd' := List.nodup_cons.mp nd
    have ih := fun m => bindC_get kindOf (ps := ps) (vals := us) m nd'.2
    constructor
    · intro x hx
      rw [List.zip_cons_cons, bindC, (ih _).1 x (fun q => hx (.tail _ q))]
      split
      · rfl
      · have : x ≠ p := fun e => hx (e ▸ .head _)
        simp [this]
    · intro k x v h1 h2 hk
      rw [List.zip_cons_cons, bindC]
      cases k with
      | zero =>
        simp only [List.getElem?_cons_zero, Option.some.injEq] at h1 h2
        subst h1; subst h2
        rw [(ih _).1 _ nd'.1, if_neg hk]; simp
      | succ k => exact (ih _).2 (by simpa using h1) (by simpa using h2) hk

section
variable {prog : Program} {w : World} {B : Heap → Prop} {mg mb : Str → Option Value} {d : Nat}

theorem FnOk.defX {D : Dfn} {a : Addr} {ps names : List Str} {args : List PV} {m0 : Ledger} {P : PV → Ledger → Prop} (Z : Bs B mg mb) (hdef : IsDef B a D) (hp : cellDfn D ps names = true) (hl : ps.length = args.length)
    (hb : ∀ (pm cd doc : Value) (vals : List Value), vals.length = args.length → bindArgs (Calls.docDef D.name D.params D.body D.scope pm cd doc) ⟨vals, []⟩ = pure (ps.zip vals))
    (body : ∀ env, EnvC B D env → ExSs prog w B d ⟨env, names, true⟩ ⟨args ++ List.replicate (names.length - ps.length) .undef, m0⟩ D.body
      (fun fl σ' => match fl with | .ret pv => P pv σ'.mem | .next => P (.val .none) σ'.mem | _ => False)) : FnOk prog w B (d + 1) (.ref a) args m0 P := by
  obtain ⟨o, pm, cd, doc, hd, hall⟩ := hdef
  intro h0 A s vals Q E b ok sub hm r k
  obtain ⟨ho, hc⟩ := hall h0 b
  have hlen := r.length
  have hp' := hp
  simp only [cellDfn, Bool.and_eq_true, Bool.or_eq_true, decide_eq_true_eq, List.all_eq_true, beq_iff_eq, Bool.not_eq_true'] at hp'
  obtain ⟨⟨⟨⟨⟨p1, p2⟩, p3⟩, p5⟩, p6⟩, p7⟩ := hp'
  have pin : ∀ x ∈ ps, x ∈ names := fun x hx => by rw [← p7] at hx; exact List.mem_of_mem_take hx
  have psnd : ps.Nodup := by rw [← p7]; exact p6.sublist (List.take_sublist _ _)
  refine wpAny_call (codeAny_call_cells (binds := ps.zip vals) ok.lt (sub _ _ ho) hd ((Z.lim h0 b).keeps sub) (hc.keeps sub) rfl (hb pm cd doc vals hlen) rfl (fun x hx => ?_) (fun s₁ ic => ?_) p2 p3 p1)
  · have hx' : x.1 ∈ ps := (List.of_mem_zip hx).1
    rcases (p5 _ (pin _ hx')).1.1 with e | e
    · exact .inl e
    · exact .inr ⟨e, cellsFrom_some _ _ _ _ (mem_lookup e)⟩
  generalize hfd : Calls.docDef D.name D.params D.body D.scope pm cd doc = fd at ic ⊢
  have hEnv : EnvC B D (callEnvC fd s.heap.objs.size a) := by
    subst hfd
    exact ⟨fun h b => (hall h b).2, rfl, rfl, rfl, rfl⟩
  have C := hEnv.ok hp
  obtain ⟨h1, t1, rfl⟩ := ic.toInCall.same
  have hk1 : Sub s.heap h1 := fun b o e => ic.toInCall.keep b o e
  have fresh : ∀ x o', s.heap.get? x = some o' → x < s.heap.objs.size := fun x o' e => Heap.lt_size e
  have f0 : ∀ x, s.heap.objs.size ≤ x → h0.get? x = none := fun x hx => by
    cases q : h0.get? x with
    | none => rfl
    | some o' => exact absurd (Nat.lt_of_lt_of_le (Heap.lt_size (sub _ _ q)) hx) (Nat.lt_irrefl _)
  have nm : ∀ x, s.heap.objs.size ≤ x → x ∉ m0.map (·.1) := fun x hx q => by
    obtain ⟨p, hp2, e⟩ := List.mem_map.mp q
    obtain ⟨o', e', -⟩ := (hm.at_ p hp2).1.soft
    have := fresh _ _ e'
    rw [e] at this
    exact absurd (Nat.lt_of_lt_of_le this hx) (Nat.lt_irrefl _)
  have cab : ∀ x c, (callEnvC fd s.heap.objs.size a).cells.lookup x = some c → s.heap.objs.size ≤ c := fun x c e => Nat.le_of_lt (ic.above x c (mem_lookup e))
  have R : Rel prog w ⟨callEnvC fd s.heap.objs.size a, names, true⟩ h0 ⟨args ++ List.replicate (names.length - ps.length) .undef, m0⟩ h1 := by
    refine ⟨sub.trans hk1, fun kk pv e => ?_, hm.sub hk1, ⟨_, ic.toInCall.ns⟩, nm _ (Nat.le_refl _), f0 _ (Nat.le_refl _), fun x c e => ⟨⟨_, ic.cell x c e⟩, nm _ (cab x c e)⟩, fun _ x c e => f0 _ (cab x c e)⟩
    by_cases hkl : kk < args.length
    · rw [List.getElem?_append_left hkl] at e
      obtain ⟨v, ev, rv⟩ := r.get e
      have hx : kk < ps.length := by lia
      have hpk : ps[kk]? = some ps[kk] := List.getElem?_eq_getElem hx
      have hnk : names[kk]? = some ps[kk] := by
        have : (names.take ps.length)[kk]? = some ps[kk] := by rw [p7]; exact hpk
        rwa [List.getElem?_take_of_lt hx] at this
      refine .inr ⟨ps[kk], v, hnk, ?_, rv.hsub (Sub.hard hk1)⟩
      rcases (p5 _ (pin _ (List.getElem_mem hx))).1.1 with e | e
      · exact .inl ⟨kind_ofC hEnv e, _, ic.toInCall.ns, (bindL_get _ _ psnd).2 hpk ev (kind_ofC hEnv e)⟩
      · obtain ⟨c, hc⟩ := hEnv.cell e
        refine .inr ⟨.inl (kind_ofC hEnv e), c, hc, ?_⟩
        have := ic.cell _ _ hc
        rwa [(bindC_get _ _ psnd).2 hpk ev (by rw [kind_ofC hEnv e]; decide)] at this
    · rw [List.getElem?_append_right (by lia)] at e
      exact .inl (List.eq_of_mem_replicate (List.mem_of_getElem? e))
  refine body _ hEnv h0 (A.deeper _) _ _ _ b (ok.deeper _) R fun fl σ' f h' tk p R' fr => ?_
  cases fl with
  | next => cases f with | next => exact k _ _ _ h' tk p R'.keep R'.mem rfl | _ => exact fr.elim
  | ret v => cases f with | ret v' => exact k _ _ _ h' tk p R'.keep R'.mem fr | _ => exact fr.elim
  | brk => exact p.elim
  | cont => exact p.elim
end

/-! a comprehension's closure -/
noncomputable def clF (cells : List (Str × Addr)) : List (Str × NameKind) → List (Str × Addr) → List (Str × Addr)
  | [], acc => acc
  | (n, k) :: r, acc => if k == .free then clF cells r ((n, (cells.lookup n).getD 0) :: acc) else clF cells r acc
theorem clF_ok {env : Env} : ∀ (names : List (Str × NameKind)) (acc : List (Str × Addr)), (∀ y ∈ names, y.2 = .free → ∃ a, env.cells.lookup y.1 = some a) →
    (forIn names acc fun x cs => (do
      let (name, kind) := x
      if kind == .free then do
        let a ← cellOf env name
        pure (ForInStep.yield ((name, a) :: cs))
      else pure (ForInStep.yield cs) : Sem _)) = pure (clF env.cells names acc)
  | [], acc, _ => rfl
  | (n, k) :: r, acc, h => by
    rw [List.forIn_cons, clF]
    have ih := fun acc => clF_ok r acc fun y hy => h y (.tail _ hy)
    cases hk : k == NameKind.free with
    | true =>
      obtain ⟨a, ha⟩ := h (n, k) (.head _) (by simpa using hk)
      have hc : cellOf env n = pure a := by unfold cellOf; rw [ha]
      have ha' : env.cells.lookup n = some a := ha
      simp only [if_true, ha', Option.getD_some]
      rw [← ih]
      simp only [hk, if_true]
      rw [hc]
      rfl
    | false =>
      simp only [Bool.false_eq_true, if_false]
      rw [← ih]
      simp only [hk, Bool.false_eq_true, if_false]
      rfl
theorem clF_lookup {cells : List (Str × Addr)} : ∀ (names : List (Str × NameKind)) (acc : List (Str × Addr)), (∀ y ∈ names, y.2 = .free → ∃ a, cells.lookup y.1 = some a) → (∀ y a, acc.lookup y = some a → cells.lookup y = some a) →
    ∀ y a, (clF cells names acc).lookup y = some a → cells.lookup y = some a
  | [], acc, _, h, y, a, e => h y a e
  | (n, k) :: r, acc, hn, h, y, a, e => by
    rw [clF] at e
    split at e
    · rename_i hk
      refine clF_lookup r _ (fun y hy => hn y (.tail _ hy)) (fun y a e => ?_) y a e
      rw [List.lookup_cons] at e
      cases hb : y == n with
      | true =>
        rw [hb] at e
        obtain ⟨a', ha'⟩ := hn (n, k) (.head _) (by simpa using hk)
        rw [beq_iff_eq.mp hb]
        rw [ha'] at e ⊢
        simpa using e
      | false => rw [hb] at e; exact h y a e
    · exact clF_lookup r _ (fun y hy => hn y (.tail _ hy)) h y a e
theorem clF_some {cells : List (Str × Addr)} : ∀ (names : List (Str × NameKind)) (acc : List (Str × Addr)) (y : Str), ((acc.lookup y).isSome = true ∨ (y, NameKind.free) ∈ names) → ((clF cells names acc).lookup y).isSome = true
  | [], acc, y, h => by
    rcases h with h | h
    · exact h
    · cases h
  | (n, k) :: r, acc, y, h => by
    rw [clF]
    split
    · refine clF_some r _ y ?_
      rw [List.lookup_cons]
      rcases h with h | h
      · left; cases y == n <;> simp [h]
      · rcases List.mem_cons.mp h with e | h
        · cases e; left; simp
        · exact .inr h
    · rename_i hk
      refine clF_some r _ y ?_
      rcases h with h | h
      · exact .inl h
      · rcases List.mem_cons.mp h with e | h
        · cases e; exact absurd rfl hk
        · exact .inr h
theorem lookup_relabel {env : Env} (hk : env.scope.kind = .function) : ∀ {names : List (Str × NameKind)} {x : Str}, names.lookup x = some .free → env.kindOf x = some .cell →
    (names.map fun (n, k) => if (k == NameKind.free && env.scope.kind == .function && env.kindOf n == some .cell) then (n, NameKind.cell) else (n, k)).lookup x = some .cell
  | (n, k) :: r, x, h, hc => by
    rw [List.lookup_cons] at h
    rw [List.map_cons]
    cases hb : x == n with
    | true =>
      rw [hb] at h
      have hk2 : k = .free := by simpa using h
      have hx := beq_iff_eq.mp hb
      subst hx; subst hk2
      dsimp only
      rw [if_pos (by rw [hk, hc]; decide), List.lookup_cons, hb]
    | false =>
      rw [hb] at h
      have ih := lookup_relabel hk h hc
      dsimp only
      split <;> (rw [List.lookup_cons, hb]; exact ih)
theorem lookup_relabel_glob {env : Env} {k0 : NameKind} (h0 : k0 ≠ .free) : ∀ {names : List (Str × NameKind)} {x : Str}, names.lookup x = some k0 →
    (names.map fun (n, k) => if (k == NameKind.free && env.scope.kind == .function && env.kindOf n == some .cell) then (n, NameKind.cell) else (n, k)).lookup x = some k0
  | (n, k) :: r, x, h => by
    rw [List.lookup_cons] at h
    rw [List.map_cons]
    cases hb : x == n with
    | true =>
      rw [hb] at h
      have hk2 : k = k0 := by simpa using h
      subst hk2
      dsimp only
      rw [if_neg (by simp [h0]), List.lookup_cons, hb]
    | false =>
      rw [hb] at h
      have ih := lookup_relabel_glob (env := env) h0 h
      dsimp only
      split <;> (rw [List.lookup_cons, hb]; exact ih)

/-- what a comprehension's scope must show beside its def's, by looking -/
noncomputable def compB (D : Dfn) (scope : Scope) (x : Str) (frees : List Str) : Bool :=
  (scope.kind == .function) && scope.names.all (fun y => y.2 != .cell && (y.2 != .local || scope.names.lookup y.1 == some .local) && (y.2 != .free || D.scope.names.lookup y.1 == some .cell)) &&
  (scope.names.lookup x == some .local) && !(x == ("__debug__" : Str)) && !(x == ("__classdict__" : Str)) &&
  frees.all (fun y => scope.names.lookup y == some .free && D.scope.names.lookup y == some .cell && !(y == ("__debug__" : Str)) && !(y == ("__classdict__" : Str))) && decide (x :: frees).Nodup

theorem CompOk.of {B : Heap → Prop} {D : Dfn} {c : Cx} {σ : St} {scope : Scope} {x : Str} {frees : List Str} {fvs : List PV} (hE : EnvC B D c.env) (C : c.Ok) (p : compB D scope x frees = true)
    (hv : ∀ (k : Nat) (pv : PV), fvs[k]? = some pv → pv = .undef ∨ ∃ (y : Str) (j : Nat), frees[k]? = some y ∧ c.names[j]? = some y ∧ σ.vars[j]? = some pv) : CompOk c σ scope (clF c.env.cells scope.names []) x frees fvs := by
  simp only [compB, Bool.and_eq_true, Bool.or_eq_true, decide_eq_true_eq, List.all_eq_true, beq_iff_eq, Bool.not_eq_true', bne_iff_ne] at p
  obtain ⟨⟨⟨⟨⟨⟨p1, p2⟩, p3⟩, p4⟩, p5⟩, p6⟩, p7⟩ := p
  have free : ∀ y ∈ scope.names, y.2 = .free → ∃ a, c.env.cells.lookup y.1 = some a := fun y hy e => hE.cell (((p2 y hy).2).resolve_left fun q => q e)
  have hcl : ∀ y a, (clF c.env.cells scope.names []).lookup y = some a → c.env.cells.lookup y = some a := clF_lookup _ _ free fun y a e => by cases e
  have hck : ∀ y ∈ frees, c.env.kindOf y = some .cell := fun y hy => kind_ofC hE (p6 y hy).1.1.2
  have hsome : ∀ y ∈ frees, ∃ a, (clF c.env.cells scope.names []).lookup y = some a := fun y hy => Option.isSome_iff_exists.mp (clF_some _ _ y (.inr (mem_lookup (p6 y hy).1.1.1)))
  refine ⟨?_, fun y hy => (p2 y hy).1.1, p1, fun y hy e => ((p2 y hy).1.2).resolve_left fun q => q e, p3, fun L => ?_, hcl, fun k pv e => ?_⟩
  · unfold closureFor
    show ((forIn scope.names [] _ : Sem _) >>= fun cs => pure cs) = _
    rw [clF_ok scope.names [] free]
    rfl
  · refine ⟨p7, p1, C.gl, C.bl, fun y hy => ?_, fun y z a hne e1 e2 => C.inj y z a hne (hcl y a e1) (hcl z a e2), fun q => (by cases q), fun y hy => ?_⟩
    · rcases List.mem_cons.mp hy with rfl | hy
      · exact .inl (lookup_relabel_local p3)
      · exact .inr ⟨.inl (lookup_relabel C.kind (p6 y hy).1.1.1 (hck y hy)), hsome y hy⟩
    · rcases List.mem_cons.mp hy with rfl | hy
      · exact ⟨p4, p5⟩
      · exact ⟨(p6 y hy).1.2, (p6 y hy).2⟩
  · refine (hv k pv e).imp id fun ⟨y, j, e1, e2, e3⟩ => ?_
    have hy : y ∈ frees := List.mem_of_getElem? e1
    obtain ⟨a, ha⟩ := hsome y hy
    exact ⟨y, j, e1, e2, e3, by rw [hck y hy]; decide, .inl (lookup_relabel C.kind (p6 y hy).1.1.1 (hck y hy)), by rw [ha, hcl y a ha]⟩
/-- a name of the text's, within a comprehension -/
theorem kind_comp {c : Cx} {scope : Scope} {cl : List (Str × Addr)} {L : Addr} {x : Str} (q : scope.names.lookup x = some .globalImplicit) : (compEnvC scope cl L c.env).kindOf x = some .globalImplicit := lookup_relabel_glob (by decide) q
end Mine

/-! ## W25 -/
namespace Mine
section
variable {prog : Program} {w : World} {B : Heap → Prop} {mg mb : Str → Option Value} {fa : Nat → Addr} {d : Nat} {c : Cx} {σ : St}

theorem pick_S (vs : List Value) (lo hi : Option Int) : slicePick vs.toArray lo hi none = (pySl vs lo hi).toArray := by
  rw [slicePick_plain]
  unfold pySl
  cases lo <;> cases hi <;> rfl
theorem VRs.sl {h : Heap} {xs : List PV} {vs : List Value} (r : VRs h xs vs) (lo hi : Option Int) : VRs h (pySl xs lo hi) (pySl vs lo hi) := by
  unfold pySl
  rw [r.length]
  exact (r.drop _).take _

/-- a new list that the ledger does not hold -/
noncomputable def EvX (prog : Program) (w : World) (B : Heap → Prop) (d : Nat) (c : Cx) (σ : St) (e : Expr) (xs : List PV) : Prop :=
  ∀ (h0 : Heap) (A : Around) (s : Shared) (Q : Value → Shared → Prop) (E : Value → Shared → Prop), B h0 → OkA d A → Rel prog w c h0 σ s.heap →
    (∀ a vs n h' tk, Sub s.heap h' → s.heap.get? a = none → h'.get? a = some (listO vs n) → VRs h' xs vs.toList → Q (.ref a) { s with heap := h', toks := tk }) → wpAny (model prog w) A (eval e c.env) Q E s

theorem EvX.m {e : Expr} {xs : List PV} {P : PV → Ledger → Prop} (he : EvX prog w B d c σ e xs) (h : ∀ a, P (.ref a) ((a, .lst xs) :: σ.mem)) : EvM prog w B d c σ e P :=
  fun h0 A s Q E b ok R k => he h0 A s Q E b ok R fun a vs n h' tk s' hn ha r => k (.ref a) _ _ h' tk (h a) s'.hard (R.newSub s' hn ⟨vs, n, ha, r⟩) rfl

theorem partIs (p : Option (Int × Tok)) : IsPart (partValue p) (p.map (·.1)) := by
  cases p with
  | none => exact .none
  | some q => exact .int q.1 q.2

theorem EvX.slice {value : Expr} {lo hi : Option Expr} {p pos : Pos} {a : Addr} {xs : List PV} {l u : Option Int} (ha : EvE prog w B d c σ value (.ref a)) (hm : (a, MO.lst xs) ∈ σ.mem) (hl : EvP prog w B d c σ lo l) (hu : EvP prog w B d c σ hi u) (hsz : xs.length ≤ 16777216)
    (ht : ∀ (o r : Value), letTemporaryGo value o r = pure () := by intro _ _; rfl) : EvX prog w B d c σ (.Subscript value (.Slice lo hi none p) pos) (pySl xs l u) :=
  fun g A s Q E b ok R h => wpAny_Subscript_list_slice (ha g A s _ E b ok R fun v1 h1 t1 s1 r1 => evPart hl g A _ _ E b ok (R.sub s1) fun p1 h2 t2 s2 e2 => evPart hu g A _ _ E b ok ((R.sub s1).sub s2) fun p2 h3 t3 s3 e3 => by
    obtain rfl : v1 = .ref a := r1
    obtain ⟨vs, hvl, hv⟩ := (((R.sub s1).sub s2).sub s3).lst hm
    have hlen := hv.length
    refine ⟨a, vs.toArray, l, u, rfl, hvl, by show _ ≤ 2 ^ 24; simp; lia, e2 ▸ partIs p1, e3 ▸ partIs p2, ?_⟩
    rw [pick_S]
    have s4 : Sub h3 ((h3.push { cls := .type "slice", data := .fields #[partValue p1, partValue p2, .none] }).push { cls := .type "list", data := .seq (pySl vs l u).toArray }) := (Sub.push _ _).trans (Sub.push _ _)
    refine h (h3.objs.size + 1) (pySl vs l u).toArray 0 _ t3 ((s1.trans s2).trans (s3.trans s4)) ?_ ?_ (by simpa using (hv.sl l u).hsub s4.hard)
    · cases q : s.heap.get? (h3.objs.size + 1) with
      | none => rfl
      | some o =>
        have := Heap.lt_size (((s1.trans s2).trans s3) _ _ q)
        exact absurd (Nat.lt_of_succ_lt this) (Nat.lt_irrefl _)
    · have : ((h3.push { cls := .type "slice", data := .fields #[partValue p1, partValue p2, .none] }).push (listO (pySl vs l u).toArray 0)).get? (h3.push { cls := .type "slice", data := .fields #[partValue p1, partValue p2, .none] }).objs.size = some (listO (pySl vs l u).toArray 0) := Heap.get?_push_size _ rfl
      rw [Heap.size_push] at this
      exact this) ht

/-- [..] + xs, as a thing of the moment -/
theorem addLists {A : Around} {s : Shared} {Q E : Value → Shared → Prop} {a b : Addr} {xs ys : List PV} {vs ws : Array Value} {n k : Nat} (ha : s.heap.get? a = some (listO vs n)) (hb : s.heap.get? b = some (listO ws k)) (hv : VRs s.heap xs vs.toList) (hw : VRs s.heap ys ws.toList) (hl : xs.length + ys.length ≤ 16777216)
    (h : ∀ us, VRs (s.heap.push (listO us 0)) (xs ++ ys) us.toList → Q (.ref s.heap.objs.size) { s with heap := s.heap.push (listO us 0) }) : wpAny (model prog w) A (binaryOp .Add (.ref a) (.ref b)) Q E s := by
  have l1 := hv.length
  have l2 := hw.length
  simp only [Array.length_toList] at l1 l2
  refine P.add_list ha hb (h (vs ++ ws) ?_) (by show _ ≤ 2 ^ 24; lia)
  rw [Array.toList_append]
  exact (hv.append hw).hsub (Sub.push _ _).hard
theorem EvM.addL {l r : Expr} {pos : Pos} {P1 P : PV → Ledger → Prop} (h1 : EvM prog w B d c σ l P1) (h2 : ∀ pv m, P1 pv m → EvM prog w B d c ⟨σ.vars, m⟩ r (fun q m' => ∃ a b xs ys, pv = .ref a ∧ q = .ref b ∧ (a, MO.lst xs) ∈ m' ∧ (b, MO.lst ys) ∈ m' ∧ xs.length + ys.length ≤ 16777216 ∧ ∀ D, P (.ref D) ((D, .lst (xs ++ ys)) :: m'))) :
    EvM prog w B d c σ (.BinOp l .Add r pos) P :=
  fun h0 A s Q E bb ok R k => wpAny_BinOp (h1 h0 A s _ E bb ok R fun pv m v1 g1 t1 p1 hs1 R1 r1 => h2 pv m p1 h0 A _ _ E bb ok R1 fun q m' v2 g2 t2 p2 hs2 R2 r2 => by
    obtain ⟨a, b, xs, ys, rfl, rfl, ma, mb, hl, hP⟩ := p2
    obtain rfl : v1 = .ref a := r1
    obtain rfl : v2 = .ref b := r2
    obtain ⟨vs, n, ea, va⟩ := (R2.mem.at_ _ ma).1
    obtain ⟨ws, k', eb, vb⟩ := (R2.mem.at_ _ mb).1
    exact addLists (s := { s with heap := g2, toks := t2 }) ea eb va vb hl fun us hu => k (.ref _) _ _ _ t2 (hP _) ((hs1.trans hs2).trans (Sub.push _ _).hard) (R2.new ⟨us, 0, Heap.get?_push_size _ rfl, hu⟩) rfl)
/-- [e] + xs -/
theorem EvX.consL {e r : Expr} {p pos : Pos} {x : PV} {b : Addr} {ys : List PV} (he : EvE prog w B d c σ e x) (hr : EvE prog w B d c σ r (.ref b)) (hm : (b, MO.lst ys) ∈ σ.mem) (hl : ys.length ≤ 1000000)
    (hs : ∀ env, starEach [e] env = (false, eval e env) :: starEach [] env := by intro _; rfl) : EvX prog w B d c σ (.BinOp (.List [e] p) .Add r pos) (x :: ys) :=
  fun h0 A s Q E bb ok R k => wpAny_BinOp (wpAny_List ((EvAs.one he hs) h0 A s p _ E bb ok R fun vs g1 t1 s1 r1 => by
    have hlen := r1.length
    refine ⟨by simp at hlen; show _ ≤ 2 ^ 24; lia, ?_⟩
    have s2 : Sub g1 (g1.push (listO vs.toArray 0)) := Sub.push _ _
    refine hr h0 A _ _ E bb ok ((R.sub s1).sub s2) fun v2 g2 t2 s3 r2 => ?_
    obtain rfl : v2 = .ref b := r2
    obtain ⟨ws, k', eb, vb⟩ := ((((R.sub s1).sub s2).sub s3).mem.at_ _ hm).1
    refine addLists (s := { s with heap := g2, toks := t2 }) (n := 0) (s3 _ _ (Heap.get?_push_size _ rfl)) eb (xs := [x]) (by simpa using r1.hsub (s2.trans s3).hard) vb (by simp; lia) fun us hu => ?_
    refine k g2.objs.size us 0 _ t2 (((s1.trans s2).trans s3).trans (Sub.push _ _)) ?_ (Heap.get?_push_size _ rfl) hu
    cases q : s.heap.get? g2.objs.size with
    | none => rfl
    | some o => exact absurd (Heap.lt_size (((s1.trans s2).trans s3) _ _ q)) (Nat.lt_irrefl _)))
/-- the last of a list of the moment -/
theorem EvE.lastX {value slice : Expr} {pos : Pos} {xs : List PV} {pv : PV} (ha : EvX prog w B d c σ value xs) (hi : EvE prog w B d c σ slice (.int (-1))) (hx : xs.getLast? = some pv) (hl : xs.length ≤ 16777216) (hs : ∀ o i, subscripted slice false o i = operate [o, i] (getItem o i) := by intro _ _; with_unfolding_all rfl) :
    EvE prog w B d c σ (.Subscript value slice pos) pv :=
  fun g A s Q E b ok R h => Subscript_ (ha g A s _ E b ok R fun a vs n h1 t1 s1 hn ea r1 => hi g A _ _ E b ok (R.sub s1) fun v2 h2 t2 s2 r2 => by
    obtain ⟨t, rfl⟩ := r2
    have hvl : h2.IsList a vs := ⟨_, s2 _ _ ea, rfl, n, rfl⟩
    have hv := r1.hsub s2.hard
    have hlen := hv.length
    simp only [Array.length_toList] at hlen
    have h0 : xs.length ≠ 0 := by
      intro q
      rw [List.eq_nil_of_length_eq_zero q] at hx; cases hx
    rw [List.getLast?_eq_getElem?] at hx
    obtain ⟨v, e, r⟩ := hv.get hx
    refine tail_any (Heap.IsList.typeIs (s := { s with heap := h2, toks := t2 }) hvl) slot_list_getitem.lookup (wpAny_getItem_list_neg hvl (by decide) (by lia) (by decide) ?_ (h v h2 t2 (s1.trans s2) r)) (hs _ _)
    rw [show ((-1 : Int) + (vs.size : Nat)).toNat = xs.length - 1 by lia]
    simpa using e)

/-- xs * n -/
theorem EvM.mulL {l r : Expr} {pos : Pos} {P1 P : PV → Ledger → Prop} {n : Nat} (h1 : EvM prog w B d c σ l P1) (h2 : ∀ pv m, P1 pv m → EvE prog w B d c ⟨σ.vars, m⟩ r (.int n) ∧ ∃ a xs, pv = .ref a ∧ (a, MO.lst xs) ∈ m ∧ xs.length * n ≤ 16777216 ∧ ∀ D, P (.ref D) ((D, .lst (List.replicate n xs).flatten) :: m)) (hn : n < 1000000) :
    EvM prog w B d c σ (.BinOp l .Mult r pos) P :=
  fun h0 A s Q E bb ok R k => wpAny_BinOp (h1 h0 A s _ E bb ok R fun pv m v1 g1 t1 p1 hs1 R1 r1 => by
    obtain ⟨h2, a, xs, rfl, ma, hl, hP⟩ := h2 pv m p1
    refine h2 h0 A _ _ E bb ok R1 fun v2 g2 t2 s2 r2 => ?_
    obtain rfl : v1 = .ref a := r1
    obtain ⟨t, rfl⟩ := r2
    have R2 := R1.sub s2
    obtain ⟨vs, k', ea, va⟩ := (R2.mem.at_ _ ma).1
    have hlen := va.length
    simp only [Array.length_toList] at hlen
    obtain ⟨z, hz⟩ : ∃ z : Int, z = (n : Int) := ⟨_, rfl⟩
    have hzn : z.toNat = n := by lia
    rw [← hz]
    have hsz : vs.size * z.toNat ≤ 2 ^ 24 := by rw [hlen, hzn]; exact hl
    have hfit : ¬(!Builtin.List.listFitsIndex z) = true := by simp [Builtin.List.listFitsIndex]; lia
    have hlong : ¬ Builtin.List.listTooLong (vs.size * z.toNat) = true := by simp [Builtin.List.listTooLong, sizeLine]; lia
    refine wpAny_binaryOp_repeat_ref (s := { s with heap := g2, toks := t2 }) (T := "list") (U := "int") (by decide) ⟨_, ea, rfl⟩ (fun s' => typeIs_int s' z t) noFill_list_mul F.fills_int_mul F.slot_int_rmul repeat_list F.slot_int_index.lookup
      (call_meets F.slot_int_rmul (typeIs_int _ z t) F.entry_int_rmul (F.args_int_rmul_2 _ _) (lm_int_rmul_list_any z t a vs k' none #[])
        ⟨ea, rfl, ⟨_, ea, rfl⟩, call_meets F.slot_list_mul ⟨_, ea, rfl⟩ F.entry_list_mul (F.args_list_mul_2 _ _)
          (lm_list_mul_any a vs k' none #[] z t hfit (by lia) hlong)
          ⟨ea, ?_⟩⟩)
    rw [listMul_foldl_if, hzn]
    refine k (.ref g2.objs.size) _ _ _ t2 (hP _) ((hs1.trans s2.hard).trans (Sub.push _ _).hard) (R2.new (mo := .lst _) ⟨_, 0, Heap.get?_push_size _ rfl, ?_⟩) rfl
    have key : ∀ j, VRs g2 (List.replicate j xs).flatten (List.replicate j vs.toList).flatten := by
      intro j
      induction j with
      | zero => exact trivial
      | succ j ih => rw [List.replicate_succ, List.flatten_cons, List.replicate_succ, List.flatten_cons]; exact va.append ih
    have := (key n).hsub (Sub.push g2 (listO (List.replicate n vs.toList).flatten.toArray 0)).hard
    simpa using this)

/-! is a thing in a list -/
theorem eqAt_bool (a b : Bool) (A : Around) (s : Shared) : PySem.SeqAt.EqAt A s (.bool a) (.bool b) (a == b) := by
  intro prog w E Q h
  unfold eqBool
  refine wpAny_holding ?_
  by_cases hab : (Value.bool a == Value.bool b) = true
  · rw [if_pos hab]
    have e : a = b := by have := eq_of_beq hab; injection this
    subst e
    exact wpAny_bind (wpAny_rule (wpAny_pure (by simpa using h)))
  · rw [if_neg hab]
    refine wpAny_bind (show wpAny _ _ (compareOp .Eq (.bool a) (.bool b)) _ _ _ from PyProof.Rows.eq_bool ?_)
    exact wpAny_truthy_bool h
theorem EqF.bool : EqF PV.bool := by
  rintro a b _ _ A s rfl rfl prog w E Q h
  refine eqAt_bool a b A s prog w E Q ?_
  have : (a == b) = decide (a = b) := by cases a <;> cases b <;> rfl
  rw [this]; exact h

theorem inList {α : Type} [DecidableEq α] {f : α → PV} (g : Value → Option α) (hf : EqF f) (hg : ∀ (h : Heap) (y : α) (u : Value), VR h (f y) u → g u = some y) {A : Around} {s : Shared} {Q E : Value → Shared → Prop} {x : α} {v : Value} {a : Addr} {xs : List α} {vs : List Value} (hx : VR s.heap (f x) v)
    (ha : s.heap.IsList a vs.toArray) (hv : VRs s.heap (xs.map f) vs) (h : Q (.bool (decide (x ∈ xs))) s) : wpAny (model prog w) A (compareOp .In v (.ref a)) Q E s := by
  have pick : ∀ (ys : List α) (us : List Value), VRs s.heap (ys.map f) us → (us.any fun u => decide (g u = some x)) = decide (x ∈ ys) ∧ ∀ u ∈ us, ∃ y, VR s.heap (f y) u := by
    intro ys
    induction ys with
    | nil => intro us r; cases us with | nil => simp | cons _ _ => exact r.elim
    | cons y ys ih =>
      intro us r
      cases us with
      | nil => exact r.elim
      | cons u us =>
        obtain ⟨i1, i2⟩ := ih us r.2
        refine ⟨?_, fun u' hu => ?_⟩
        · rw [List.any_cons, i1, hg _ _ _ r.1]
          by_cases q : x = y
          · subst q; simp
          · have q' : ¬ y = x := fun e => q e.symm
            simp [q, q']
        · rcases List.mem_cons.mp hu with rfl | hu
          · exact ⟨y, r.1⟩
          · exact i2 u' hu
  obtain ⟨p1, p2⟩ := pick xs vs hv
  refine PySem.SeqAt.in_listAt (fun u => decide (g u = some x)) ha (fun y hy => ?_) ?_
  · obtain ⟨z, hz⟩ := p2 y (by simpa using hy)
    have := hf z x y v A.in1 s hz hx
    have e : decide (g y = some x) = decide (z = x) := by rw [hg _ _ _ hz]; simp
    rw [e]; exact this
  · rw [List.any_toArray, p1]; exact h
theorem EvB.inL {α : Type} [DecidableEq α] {f : α → PV} (g : Value → Option α) (hf : EqF f) (hg : ∀ (h : Heap) (y : α) (u : Value), VR h (f y) u → g u = some y) {l r : Expr} {pos : Pos} {x : α} {a : Addr} {xs : List α} (hl : EvE prog w B d c σ l (f x)) (hr : EvE prog w B d c σ r (.ref a)) (hm : (a, MO.lst (xs.map f)) ∈ σ.mem)
    (hmk : behindInMarks .In r = false := by with_unfolding_all rfl) : EvB prog w B d c σ (.Compare l [.In] [r] pos) (decide (x ∈ xs)) :=
  fun h0 A s Q E b ok R k => wpAny_isTrue_Compare1 (hl h0 A s _ E b ok R fun v1 h1 t1 s1 r1 => hr h0 A _ _ E b ok (R.sub s1) fun v2 h2 t2 s2 r2 => by
    obtain rfl : v2 = .ref a := r2
    obtain ⟨vs, hvl, hv⟩ := ((R.sub s1).sub s2).lst hm
    exact inList (s := { s with heap := h2, toks := t2 }) g hf hg (r1.hsub s2.hard) hvl hv (wpAny_truthy_bool (k h2 t2 (s1.trans s2)))) hmk
/-- in a list of the moment, as a value -/
theorem EvE.inX {α : Type} [DecidableEq α] {f : α → PV} (g : Value → Option α) (hf : EqF f) (hg : ∀ (h : Heap) (y : α) (u : Value), VR h (f y) u → g u = some y) {l r : Expr} {pos : Pos} {x : α} {xs : List α} (hl : EvE prog w B d c σ l (f x)) (hr : EvX prog w B d c σ r (xs.map f))
    (hmk : behindInMarks .In r = false := by with_unfolding_all rfl) : EvE prog w B d c σ (.Compare l [.In] [r] pos) (.bool (decide (x ∈ xs))) :=
  fun h0 A s Q E b ok R k => wpAny_Compare1 (hl h0 A s _ E b ok R fun v1 h1 t1 s1 r1 => hr h0 A _ _ E b ok (R.sub s1) fun a vs n h2 t2 s2 _ ea r2 => by
    have hvl : h2.IsList a vs.toList.toArray := by rw [Array.toArray_toList]; exact ⟨_, ea, rfl, n, rfl⟩
    exact inList (s := { s with heap := h2, toks := t2 }) g hf hg (r1.hsub s2.hard) hvl r2 (k _ h2 t2 (s1.trans s2) rfl)) hmk
noncomputable def gB : Value → Option Bool | .bool b => some b | _ => none
theorem gB_ok (h : Heap) (y : Bool) (u : Value) (r : VR h (.bool y) u) : gB u = some y := by obtain rfl := r; rfl
noncomputable def gI : Value → Option Int | .int i _ => some i | _ => none
theorem gI_ok (h : Heap) (y : Int) (u : Value) (r : VR h (.int y) u) : gI u = some y := by obtain ⟨t, rfl⟩ := r; rfl
noncomputable def gN : Value → Option Nat | .int i _ => some i.toNat | _ => none
theorem gN_ok (h : Heap) (y : Nat) (u : Value) (r : VR h (.int y) u) : gN u = some y := by obtain ⟨t, rfl⟩ := r; simp [gN]

/-- a and b, of bools -/
theorem EvE.and2 {x y : Expr} {pos : Pos} {a b : Bool} (hx : EvE prog w B d c σ x (.bool a)) (hy : a = true → EvE prog w B d c σ y (.bool b)) : EvE prog w B d c σ (.BoolOp .And [x, y] pos) (.bool (a && b)) :=
  fun h0 A s Q E bb ok R k => PyProof.Rows.BoolOp_and (hx h0 A s _ E bb ok R fun v h1 t1 s1 r1 => by
    obtain rfl := r1
    refine wpAny_truthy_bool ?_
    cases a with
    | false => exact k _ h1 t1 s1 rfl
    | true => exact PyProof.Rows.BoolOp_one (hy rfl h0 A _ _ E bb ok (R.sub s1) fun v2 h2 t2 s2 r2 => k v2 h2 t2 (s1.trans s2) r2))
theorem BinR.pow {a n : Int} (h0 : 0 ≤ n) (h1 : n ≤ 100) (ha : a.natAbs < 1000000) : BinR prog w .Pow (.int a) (.int n) (.int (a ^ n.toNat)) := by
  rintro A s _ _ Q E _ ⟨t, rfl⟩ ⟨u, rfl⟩ k
  exact PyProof.Rows.pow_int_small h0 (by lia) (by lia) (k _ _ _ Sub.rfl ⟨_, rfl⟩)
/-- row[2] -/
theorem EvE.row2 {value : Expr} {kk : Nat} {p pos : Pos} {x y z : Int} (ha : EvE prog w B d c σ value (.t3 x y z)) : EvE prog w B d c σ (.Subscript value (.Constant (.int 2) kk p) pos) (.int z) :=
  fun g A s Q E b ok R h => Subscript_ (ha g A s _ E b ok R fun v1 h1 t1 s1 r1 => (EvE.int (i := 2)) g A _ _ E b ok (R.sub s1) fun v2 h2 t2 s2 r2 => by
    obtain ⟨l, u1, u2, u3, n, rfl, e⟩ := r1
    obtain ⟨t, rfl⟩ := r2
    have e2 := s2.hard _ _ (.inl ⟨rfl, _, _, rfl⟩) e
    exact tail_any (T := "tuple") ⟨_, e2, rfl⟩ PySem.F.slot_tuple_getitem.lookup (PySem.P.getItem_tuple (s := { s with heap := h2, toks := t2 }) e2 (by decide) (by decide) (k := 2) rfl (y := .int z u3) rfl (h _ h2 t2 (s1.trans s2) ⟨u3, rfl⟩)) (by with_unfolding_all rfl))
theorem EvM.row2 {value : Expr} {kk : Nat} {p pos : Pos} {P : PV → Ledger → Prop} (ha : EvM prog w B d c σ value (fun pv m => ∃ x y z, pv = .t3 x y z ∧ P (.int z) m)) : EvM prog w B d c σ (.Subscript value (.Constant (.int 2) kk p) pos) P :=
  fun g A s Q E b ok R h => Subscript_ (ha g A s _ E b ok R fun pv m v1 h1 t1 p1 hs1 R1 r1 => (EvE.int (i := 2)) g A _ _ E b ok R1 fun v2 h2 t2 s2 r2 => by
    obtain ⟨x, y, z, rfl, hP⟩ := p1
    obtain ⟨l, u1, u2, u3, n, rfl, e⟩ := r1
    obtain ⟨t, rfl⟩ := r2
    have e2 := s2.hard _ _ (.inl ⟨rfl, _, _, rfl⟩) e
    exact tail_any (T := "tuple") ⟨_, e2, rfl⟩ PySem.F.slot_tuple_getitem.lookup (PySem.P.getItem_tuple (s := { s with heap := h2, toks := t2 }) e2 (by decide) (by decide) (k := 2) rfl (y := .int z u3) rfl (h _ _ _ h2 t2 hP (hs1.trans s2.hard) (R1.sub s2) ⟨u3, rfl⟩)) (by with_unfolding_all rfl))

/-! tests that may make things -/
noncomputable def EvT (prog : Program) (w : World) (B : Heap → Prop) (d : Nat) (c : Cx) (σ : St) (e : Expr) (P : Bool → Ledger → Prop) : Prop :=
  ∀ (h0 : Heap) (A : Around) (s : Shared) (Q : Bool → Shared → Prop) (E : Value → Shared → Prop), B h0 → OkA d A → Rel prog w c h0 σ s.heap →
    (∀ b m' h' tk, P b m' → HSub s.heap h' → Rel prog w c h0 ⟨σ.vars, m'⟩ h' → Q b { s with heap := h', toks := tk }) → wpAny (model prog w) A (isTrue e c.env (eval e c.env)) Q E s
theorem EvB.t {e : Expr} {b : Bool} {P : Bool → Ledger → Prop} (h : EvB prog w B d c σ e b) (hp : P b σ.mem) : EvT prog w B d c σ e P :=
  fun h0 A s Q E bb ok R k => h h0 A s Q E bb ok R fun h' tk s' => k b σ.mem h' tk hp s'.hard (R.sub s')
theorem EvT.or2 {x y : Expr} {pos : Pos} {P Q : Bool → Ledger → Prop} (hx : EvT prog w B d c σ x P) (hy : ∀ m, P false m → EvT prog w B d c ⟨σ.vars, m⟩ y Q) (ht : ∀ m, P true m → Q true m) : EvT prog w B d c σ (.BoolOp .Or [x, y] pos) Q :=
  fun h0 A s K E bb ok R k => wpAny_isTrue_BoolOp (wpAny_allTrue_Or_cons (hx h0 A s _ E bb ok R fun b m h1 t1 p1 hs1 R1 => by
    cases b with
    | true => exact k true m h1 t1 (ht m p1) hs1 R1
    | false => exact wpAny_allTrue_Or_cons (hy m p1 h0 A _ _ E bb ok R1 fun b2 m2 h2 t2 p2 hs2 R2 => by
        cases b2 with
        | true => exact k true m2 h2 t2 p2 (hs1.trans hs2) R2
        | false => exact wpAny_allTrue_Or_nil (k false m2 h2 t2 p2 (hs1.trans hs2) R2))))
theorem ExSs.ifT {t : Expr} {x y ts : List Stmt} {pos : Pos} {P1 : Bool → Ledger → Prop} {P : FL → St → Prop} (ht : EvT prog w B d c σ t P1)
    (hx : ∀ m, P1 true m → ExSs prog w B d c ⟨σ.vars, m⟩ x (fun fl σ' => match fl with | .next => ExSs prog w B d c σ' ts P | fl => P fl σ'))
    (hy : ∀ m, P1 false m → ExSs prog w B d c ⟨σ.vars, m⟩ y (fun fl σ' => match fl with | .next => ExSs prog w B d c σ' ts P | fl => P fl σ')) : ExSs prog w B d c σ (.If t x y pos :: ts) P :=
  ExSs.cons (P1 := fun fl σ' => match fl with | .next => ExSs prog w B d c σ' ts P | fl => P fl σ') (fun h0 A s Q E bb ok R h => wpAny_If (ht h0 A s _ E bb ok R fun b m h1 t1 p1 hs1 R1 => by
    cases b with
    | true => exact hx m p1 h0 A _ _ E bb ok R1 fun fl σ' f h2 t2 p R2 fr => h fl σ' f h2 t2 p R2 fr
    | false => exact hy m p1 h0 A _ _ E bb ok R1 fun fl σ' f h2 t2 p R2 fr => h fl σ' f h2 t2 p R2 fr)) (fun _ p => p) fun fl _ q p => by cases fl <;> first | exact absurd rfl q | exact p

/-- two lists of the ledger held against each other -/
theorem EvT.neLs {α : Type} [DecidableEq α] {f : α → PV} (hf : EqF f) {l r : Expr} {pos : Pos} {P1 : PV → Ledger → Prop} {P : Bool → Ledger → Prop} (h1 : EvM prog w B d c σ l P1)
    (h2 : ∀ pv m, P1 pv m → EvM prog w B d c ⟨σ.vars, m⟩ r (fun q m' => ∃ a b, ∃ xs ys : List α, pv = .ref a ∧ q = .ref b ∧ (a, MO.lst (xs.map f)) ∈ m' ∧ (b, MO.lst (ys.map f)) ∈ m' ∧ P (decide (xs ≠ ys)) m'))
    (hmk : behindInMarks .NotEq r = false := by with_unfolding_all rfl) : EvT prog w B d c σ (.Compare l [.NotEq] [r] pos) P :=
  fun h0 A s Q E bb ok R k => wpAny_isTrue_Compare1 (h1 h0 A s _ E bb ok R fun pv m v1 g1 t1 p1 hs1 R1 r1 => h2 pv m p1 h0 A _ _ E bb ok R1 fun q m' v2 g2 t2 p2 hs2 R2 r2 => by
    obtain ⟨a, b, xs, ys, rfl, rfl, ma, mb, hP⟩ := p2
    obtain rfl : v1 = .ref a := r1
    obtain rfl : v2 = .ref b := r2
    obtain ⟨us, hu, ru⟩ := R2.lst ma
    obtain ⟨ws, hw, rw'⟩ := R2.lst mb
    exact neLists (s := { s with heap := g2, toks := t2 }) hf ok.un hu ru hw rw' (wpAny_truthy_bool (k _ m' g2 t2 hP (hs1.trans hs2) R2))) hmk
/-- [..] == [..], as a value -/
theorem EvM.eqLs {α : Type} [DecidableEq α] {f : α → PV} (hf : EqF f) {l r : Expr} {pos : Pos} {P1 P : PV → Ledger → Prop} (h1 : EvM prog w B d c σ l P1)
    (h2 : ∀ pv m, P1 pv m → EvM prog w B d c ⟨σ.vars, m⟩ r (fun q m' => ∃ a b, ∃ xs ys : List α, pv = .ref a ∧ q = .ref b ∧ (a, MO.lst (xs.map f)) ∈ m' ∧ (b, MO.lst (ys.map f)) ∈ m' ∧ P (.bool (decide (xs = ys))) m'))
    (hmk : behindInMarks .Eq r = false := by with_unfolding_all rfl) : EvM prog w B d c σ (.Compare l [.Eq] [r] pos) P :=
  fun h0 A s Q E bb ok R k => wpAny_Compare1 (h1 h0 A s _ E bb ok R fun pv m v1 g1 t1 p1 hs1 R1 r1 => h2 pv m p1 h0 A _ _ E bb ok R1 fun q m' v2 g2 t2 p2 hs2 R2 r2 => by
    obtain ⟨a, b, xs, ys, rfl, rfl, ma, mb, hP⟩ := p2
    obtain rfl : v1 = .ref a := r1
    obtain rfl : v2 = .ref b := r2
    obtain ⟨us, hu, ru⟩ := R2.lst ma
    obtain ⟨ws, hw, rw'⟩ := R2.lst mb
    exact eqLists (s := { s with heap := g2, toks := t2 }) hf ok.un hu ru hw rw' (k _ m' _ g2 t2 hP (hs1.trans hs2) R2 rfl)) hmk
theorem EvM.and2 {x y : Expr} {pos : Pos} {P1 P : PV → Ledger → Prop} (hx : EvM prog w B d c σ x (fun pv m => pv = .bool true ∧ P1 pv m)) (hy : ∀ m, P1 (.bool true) m → EvM prog w B d c ⟨σ.vars, m⟩ y P) : EvM prog w B d c σ (.BoolOp .And [x, y] pos) P :=
  fun h0 A s Q E bb ok R k => PyProof.Rows.BoolOp_and (hx h0 A s _ E bb ok R fun pv m v h1 t1 p1 hs1 R1 r1 => by
    obtain ⟨rfl, p1⟩ := p1
    obtain rfl := r1
    exact wpAny_truthy_bool (PyProof.Rows.BoolOp_one (hy m p1 h0 A _ _ E bb ok R1 fun pv2 m2 v2 h2 t2 p2 hs2 R2 r2 => k pv2 m2 v2 h2 t2 p2 (hs1.trans hs2) R2 r2)))
end
end Mine

/-! ## W26 -/
namespace Mine
/-! set(xs), xs a list of one text -/
noncomputable def oneS (x : Str) : Str → Bool := fun k => false || decide (k = x)
noncomputable abbrev freshSet (led : Bool) : Obj := { cls := .type "set", dict := none, data := .set #[] 0 (.fresh 0 0 led) }

section
variable {prog : Program} {w : World} {A : Around} {E : Value → Shared → Prop} {s : Shared}

theorem set_update_one {R : Result → Shared → Prop} {I l : Addr} {x : Str} {t : Tok} (hh : A.in1.handled = none) (hne : l ≠ I) (S : Addr) (hSI : S ≠ I) (hSl : S ≠ l) (hI : s.heap.IsListIter I l 0) (hl : s.heap.IsList l #[.str x t])
    (hS : s.heap.SetOf (PySem.strKind prog w) S (fun _ => false) 0)
    (hR : ∀ h' tk, h'.SetOf (PySem.strKind prog w) S (oneS x) 1 → (∀ b o, b ≠ S → b ≠ I → s.heap.get? b = some o → h'.get? b = some o) → R (.ok (.ret .none)) { s with heap := h', toks := tk }) :
    codeAny (model prog w) A (.builtin "set.update.loop" ⟨[.ref S, .ref I], []⟩) R s := by
  have W := Walks.list (prog := prog) (w := w) (A := A.in1) hh I l hne #[.str x t]
  have keepS : ∀ {h h' : Heap} {T : Str → Bool} {n : Nat}, (∀ b o, b ∉ [I] → h.get? b = some o → h'.get? b = some o) → h.SetOf (PySem.strKind prog w) S T n → h'.SetOf (PySem.strKind prog w) S T n := fun k hS => by
    obtain ⟨o, es, ep, tb, ho, rest⟩ := hS
    exact ⟨o, es, ep, tb, k S o (by simpa using hSI) ho, rest⟩
  refine codeAny_builtin PyProof.Rows.F.entry_set_update_loop ?_
  rw [Around.under_plainId PyProof.Rows.F.plain_set_update_loop _]
  show wpAny _ A.in1 (pyNext (.ref I) >>= _) _ _ s
  refine wpAny_bind (W.item 0 _ _ _ (by simp) ⟨hI, hl⟩ fun v h1 t1 p1 st1 k1 => ?_)
  dsimp only at p1 ⊢
  have p1' : Value.str x t = v := by simpa using p1
  subst p1'
  have hS1 := keepS k1 hS
  show wpAny _ A.in1 (holding [Value.str x t] (setAdd S (.str x t)) >>= _) _ _ _
  refine wpAny_bind (wpAny_holding ?_)
  unfold setAdd
  refine wpAny_holding ?_
  refine wpAny_bind ((PySem.strKind prog w).pyHash (k := x) (PySem.strKind_is _ _ _ _) ?_)
  refine wpAny_setAddHashed_of (knd := PySem.strKind prog w) (PySem.strKind_is _ _ _ _) rfl hS1 (by decide) fun h2 hsb hS2 => ?_
  refine wpAny_pure ⟨plainId_quiet PyProof.Rows.F.plain_set_update_loop _, codeAny_builtin PyProof.Rows.F.entry_set_update_loop ?_⟩
  rw [Around.under_plainId PyProof.Rows.F.plain_set_update_loop _]
  show wpAny _ A.in1 (pyNext (.ref I) >>= _) _ _ _
  have st2 := W.frame _ _ h2 st1 fun b hb o e => by
    rw [hsb.2 b (fun q => by subst q; simp only [List.mem_cons, List.not_mem_nil, or_false] at hb; rcases hb with q | q; exact hSI q; exact hSl q)]; exact e
  refine wpAny_bind (W.done _ _ _ st2 fun h3 t3 k3 => ?_)
  show wpAny _ A.in1 (ret Value.none) _ _ _
  refine wpAny_pure (hR h3 t3 (keepS k3 hS2) fun b o q1 q2 e => ?_)
  have e1 := k1 b o (by simpa using q2) e
  rw [← hsb.2 b q1] at e1
  exact k3 b o (by simpa using q2) e1
end
end Mine
namespace Mine
section
open PySem
variable {prog : Program} {w : World} {A : Around} {E : Value → Shared → Prop} {s : Shared}
set_option maxHeartbeats 3200000 in
theorem call_set_one {l : Addr} {x : Str} {t : Tok} {Q : Value → Shared → Prop}
    (hh : A.handled = none) (hl : s.heap.IsList l #[.str x t])
    (h : ∀ (h' : Heap) (tk : Nat), h'.SetOf (PySem.strKind prog w) s.heap.objs.size (oneS x) 1 → Sub s.heap h' → Q (.ref s.heap.objs.size) { s with heap := h', toks := tk }) :
    wpAny (model prog w) A (call (.type "set") [.ref l]) Q E s := by
  obtain ⟨c, tl, hmro⟩ := F.called_set.mro
  have hmade := F.called_set.made
  have hsub := F.called_set.sub
  refine wpAny_call (codeAny_of_tree ?_)
  show wpAny _ _ (callAny (.type "set") _) _ _ _
  refine wpAny_pure ⟨Code.quiet_builtin _ (by decide +kernel), codeAny_builtin F.entry_type_call ?_⟩
  rw [Around.under_plain (weight_type_call_type "set" [.ref l] []) rfl]
  have h1 := F.called_set.notType
  have h2 := F.called_set.canCreate
  have hct := F.typeCall_set_1 (.ref l)
  repeat (any_goals (first | assumption | wp_step))
  refine codeAny_mono (code_set_new_1 (.ref l) (E := E) (Q₁ := fun obj s₁ => ∃ led : Bool, obj = .ref s.heap.objs.size ∧ s₁ = { s with heap := s.heap.push (freshSet led) }) fun led => ⟨led, rfl, rfl⟩) fun r s₁ hr => ?_
  cases r with
  | error e => exact hr
  | ok fl =>
    cases fl with
    | ret obj =>
      obtain ⟨led, rfl, rfl⟩ := hr
      have hS : (s.heap.push (freshSet led)).get? s.heap.objs.size = some (freshSet led) := Heap.get?_push_size _ rfl
      have hT : Shared.TypeIs { s with heap := s.heap.push (freshSet led) } (.ref s.heap.objs.size) "set" := ⟨_, hS, rfl⟩
      have hli := F.called_set.init.lookup
      have hbi := F.called_set.init.bind (.ref s.heap.objs.size)
      repeat (any_goals (first | assumption | wp_step))
      refine codeAny_mono (codeAny_call_builtin (R := wants (fun r s₂ => r = .none ∧ ∃ h' tk, s₂ = { s with heap := h', toks := tk } ∧
          h'.SetOf (PySem.strKind prog w) s.heap.objs.size (oneS x) 1 ∧ Sub s.heap h') E) F.called_set.init.plain F.entry_set_init (check_set_init_1 hT ?_)) fun r₂ s₂ hr₂ => ?_
      · obtain ⟨ol, hol, hcl, nl, hdl⟩ := hl
        obtain ⟨ocls, odict, odata, oslots⟩ := ol
        simp only at hcl hdl
        subst hcl; subst hdl
        have hol' : (s.heap.push (freshSet led)).get? l = some { cls := .type "list", dict := odict, data := .seq #[.str x t] nl, slots := oslots } := Heap.get?_push_of_some _ hol
        have hsls := F.sub_list_set
        have hslf := F.sub_list_frozenset
        have hne : (Value.type "list" == Value.type "dict") = false := by decide
        have hl1 : (s.heap.push (freshSet led)).IsList l #[.str x t] := ⟨_, hol', rfl, nl, rfl⟩
        unfold Builtin.«set.__init__» noKeywords Builtin.Frozenset.updateFrom
        generalize hPI : pyIter = PI
        wp_walk
        subst hPI
        refine wpAny_pyIter_list hl1 ?_
        refine wpAny_bind (wpAny_runValue ?_)
        have hlS : l < s.heap.objs.size := Heap.lt_size hol
        have hh3 : A.in1.in1.in1.handled = none := by simp [hh]
        have hneI : l ≠ (s.heap.push (freshSet led)).objs.size := by
          rw [Heap.size_push]; exact Nat.ne_of_lt (Nat.lt_succ_of_lt hlS)
        have hSI : s.heap.objs.size ≠ (s.heap.push (freshSet led)).objs.size := by
          rw [Heap.size_push]; exact Nat.ne_of_lt (Nat.lt_succ_self _)
        refine set_update_one hh3 hneI s.heap.objs.size hSI (Nat.ne_of_gt hlS) ⟨_, Heap.get?_push_size _ rfl, rfl, rfl⟩ (hl1.push _) ?hS0 ?hR
        case hS0 =>
          have hget : ((s.heap.push (freshSet led)).push { cls := .type "list_iterator", data := .fields #[.ref l, .int 0 0] }).get? s.heap.objs.size = some (freshSet led) := Heap.get?_push_of_some _ hS
          exact (PyProof.Rows.setObjOf_fresh (knd := PySem.strKind prog w) led).setOf hget (by unfold scanBound; lia)
        case hR =>
          intro h' tk' hS' hk'
          refine wpAny_pure ?_
          show wpAny _ _ (ret Value.none) _ _ _
          refine wpAny_pure ⟨rfl, h', tk', rfl, hS', fun b o e => ?_⟩
          have hb := Heap.lt_size e
          refine hk' b o (Nat.ne_of_lt hb) ?_ (Heap.get?_push_of_some _ (Heap.get?_push_of_some _ e))
          rw [Heap.size_push]; exact Nat.ne_of_lt (Nat.lt_succ_of_lt hb)
      · cases r₂ with
        | error e => exact hr₂
        | ok fl₂ =>
          cases fl₂ with
          | ret r =>
            obtain ⟨rfl, h', tk, rfl, hS', hk'⟩ := hr₂
            repeat (any_goals (first | assumption | wp_step))
            exact h _ _ hS' hk'
          | _ => exact hr₂.elim
    | _ => exact hr.elim
end
end Mine

/-! ## W27 -/
namespace Mine
open PySem.Builtin

/-! filter objects -/
theorem owner_filter : Manifest.owners.lookup (String.ofList ['f', 'i', 'l', 't', 'e', 'r'].reverse.reverse) = some Manifest.sig_filter := by kernel_rfl
theorem slot_filter_iter : Slot "filter" "__iter__" "filter.__iter__" :=
  .of (owner := "filter") (n := "__iter__") (by rw [typeLookup_type, builtinLookup_eq_fast]; kernel_rfl) (by decide +kernel) (by decide +kernel) (by decide +kernel)
    (by first | exact .inl (by decide +kernel) | exact .inr (by decide +kernel)) (by rw [isSubtype_type]; kernel_rfl)
theorem owner_filter' : Manifest.owners.lookup (String.ofList ['r', 'e', 't', 'l', 'i', 'f'].reverse) = some Manifest.sig_filter := by kernel_rfl
theorem args_filter_iter (a : Value) : argsOk "filter.__iter__" ⟨[a], []⟩ := by
  unfold argsOk; rw [signature?_of (id := "filter.__iter__") (n := ['_', '_', 'r', 'e', 't', 'i', '_', '_']) (o := ['r', 'e', 't', 'l', 'i', 'f']) (by kernel_rfl) owner_filter']; kernel_rfl
theorem entry_filter_iter : entryFor table "filter.__iter__" = some Builtin.«dict_keyiterator.__iter__» :=
  entryFor_alias (id' := "dict_keyiterator.__iter__") (by kernel_rfl) (by first | rfl | decide +kernel | (unfold String.splitOn; simp +decide [String.splitOnAux])) (by decide +kernel) (by kernel_rfl)
theorem slot_filter_next : Slot "filter" "__next__" "filter.__next__" :=
  .of (owner := "filter") (n := "__next__") (by rw [typeLookup_type, builtinLookup_eq_fast]; kernel_rfl) (by decide +kernel) (by decide +kernel) (by decide +kernel)
    (by first | exact .inl (by decide +kernel) | exact .inr (by decide +kernel)) (by rw [isSubtype_type]; kernel_rfl)
theorem args_filter_next (a : Value) : argsOk "filter.__next__" ⟨[a], []⟩ := by
  unfold argsOk; rw [signature?_of (id := "filter.__next__") (n := ['_', '_', 't', 'x', 'e', 'n', '_', '_']) (o := ['r', 'e', 't', 'l', 'i', 'f']) (by kernel_rfl) owner_filter']; kernel_rfl
theorem entry_filter_next : entryFor table "filter.__next__" = some Builtin.«filter.__next__» := entryFor_of_tree (by kernel_rfl)
theorem slot_filter_init : Slot "filter" "__init__" "object.__init__" :=
  .of (owner := "object") (n := "__init__") (by rw [typeLookup_type, builtinLookup_eq_fast]; kernel_rfl) (by decide +kernel) (by decide +kernel) (by decide +kernel)
    (by first | exact .inl (by decide +kernel) | exact .inr (by decide +kernel)) (by rw [isSubtype_type]; kernel_rfl)
theorem mro_filter : mroOf (.type "filter") = pure [.type "filter", .type "object"] := by rw [mroOf_type]; kernel_rfl
theorem lookup_filter_new : typeLookup (.type "filter") "__new__" = pure (some (.builtin "filter.__new__")) := by rw [typeLookup_type, builtinLookup_eq_fast]; kernel_rfl
theorem sub_filter : isSubtype (.type "filter") (.type "filter") = pure true := by rw [isSubtype_type]; kernel_rfl
theorem called_filter : TypeCalled "filter" "filter.__new__" "object.__init__" :=
  ⟨by decide +kernel, by decide +kernel, ⟨_, _, mro_filter⟩, madeBy_type mro_filter lookup_filter_new (by decide +kernel), by decide +kernel, sub_filter, slot_filter_init⟩
theorem typeCall_filter (a b : Value) : checkTypeCall "filter" ⟨[a, b], []⟩ = pure () := by kernel_rfl
theorem newCall_filter (a b : Value) : checkBuiltinCall "filter.__new__" ⟨[.type "filter", a, b], []⟩ = pure () := by kernel_rfl
theorem entry_filter_new : entryFor table "filter.__new__" = some Builtin.«filter.__new__» := entryFor_of_tree (by kernel_rfl)
theorem filter_no_len : typeLookup (.type "filter") "__len__" = pure none := by rw [typeLookup_type, builtinLookup_eq_fast]; kernel_rfl
theorem filter_no_hint : typeLookup (.type "filter") "__length_hint__" = pure none := by rw [typeLookup_type, builtinLookup_eq_fast]; kernel_rfl

noncomputable abbrev filO (I : Addr) (f : Value) : Obj := { cls := .type "filter", data := .fields #[f, .ref I] }
theorem newClass_filter (a b : Value) : Builtin.SmallTypes.newClass "filter" ⟨[.type "filter", a, b], []⟩ = pure (.type "filter", [a, b]) := by
  unfold Builtin.SmallTypes.newClass
  simp only [isType, sub_filter, pure_bind, Bool.not_true, Bool.false_eq_true, if_false]

/-! the bound method of a set -/
noncomputable abbrev contO (S : Addr) : Obj := { cls := .type "builtin_function_or_method", data := .fields #[.builtin "set.__contains__", .ref S] }
theorem type_cont : typeOf (.builtin "set.__contains__") = pure (.type "method_descriptor") := by show builtinType _ = _; rw [builtinType_eq_fast]; kernel_rfl
theorem told_cont : Manifest.toldItsClass.contains "set.__contains__" = false := by decide +kernel
theorem sub_set_self' : isSubtype (.type "set") (.type "set") = pure true := by rw [isSubtype_type]; kernel_rfl
theorem sub_set_module : isSubtype (.type "set") (.type "module") = pure false := by rw [isSubtype_type]; kernel_rfl
theorem kind_cont : builtinKind "set.__contains__" = some .method := by decide +kernel
theorem vararg_cont : Manifest.varargsMethods.contains "set.__contains__" = false := by decide +kernel
theorem entry_set_getattribute : entryFor table "set.__getattribute__" = some Builtin.«object.__getattribute__» :=
  entryFor_alias (id' := "object.__getattribute__") (by kernel_rfl) (by decide +kernel) (by decide +kernel) (by kernel_rfl)
noncomputable def sigCont : Manifest.Signature := ⟨.oneArg, "set.__contains__", "__contains__", .self, [⟨"object", .posOnly, true⟩]⟩
theorem owner_set' : Manifest.owners.lookup (String.ofList ['t', 'e', 's'].reverse) = some Manifest.sig_set := by kernel_rfl
theorem sig_cont : Manifest.signature? "set.__contains__" = some sigCont := by
  rw [signature?_of (id := "set.__contains__") (n := ['_', '_', 's', 'n', 'i', 'a', 't', 'n', 'o', 'c', '_', '_']) (o := ['t', 'e', 's']) (by kernel_rfl) owner_set']; kernel_rfl
theorem checkArgs_cont (a v : Value) : Bind.checkArgs "set.__contains__" { sigCont with full := s!"{Bind.lastOf "set"}.{Bind.lastOf "set.__contains__"}" } ⟨[a, v], []⟩ = pure () := by kernel_rfl

section
variable {prog : Program} {w : World} {A : Around} {E : Value → Shared → Prop} {s : Shared}

theorem filter_new (f : Value) (l : Addr) (items : Array Value) : Meets (Builtin.«filter.__new__» ⟨[.type "filter", f, .ref l], []⟩) (fun A R s => s.heap.IsList l items ∧
    R (.ok (.ret (.ref (s.heap.objs.size + 1)))) { s with heap := (s.heap.push (iterO l)).push (filO s.heap.objs.size f) }) :=
  .of_wp fun prog w A R s h => by
    obtain ⟨hl, h⟩ := h
    unfold Builtin.«filter.__new__»
    refine wpAny_bind (wpAny_of_eq (newClass_filter _ _) ?_)
    try dsimp only
    refine wpAny_bind (wpAny_of_eq (a := ()) (by first | rfl | kernel_rfl) ?_)
    refine wpAny_bind (wpAny_of_eq (a := ()) (by first | rfl | kernel_rfl) ?_)
    try dsimp only
    refine wpAny_bind (wpAny_pyIter_list hl ?_)
    unfold Builtin.SmallTypes.newRecord
    dsimp only
    refine wpAny_bind (wpAny_newObj_type ?_)
    refine wpAny_pure ⟨_, rfl, ?_⟩
    have e1 : (s.heap.push (iterO l)).objs.size = s.heap.objs.size + 1 := Heap.size_push _ _
    have goal : ∀ (b : Nat), b = s.heap.objs.size + 1 → R (.ok (.ret (.ref b))) { s with heap := (s.heap.push (iterO l)).push (filO s.heap.objs.size f) } := by
      rintro _ rfl; exact h
    exact goal _ e1

theorem md_get_cont {S : Addr} {es : Array (Int × Value)} {ep : Nat} {tb} {sl : Array (Option Value)} {P : Fin → Shared → Prop} (hx : s.heap.get? S = some { cls := .type "set", dict := none, data := .set es ep tb, slots := sl }) (h : P (.done (.ret (.ref s.heap.objs.size))) { s with heap := s.heap.push (contO S) }) :
    wpAny (model prog w) A (Builtin.«method_descriptor.__get__» ⟨[.builtin "set.__contains__", .ref S, .type "set"], []⟩) P E s := by
  unfold Builtin.«method_descriptor.__get__»
  refine wpAny_bind (wpAny_of_eq (a := (.builtin "set.__contains__", some (.ref S), some (.type "set"))) (by first | rfl | kernel_rfl) ?_)
  dsimp only
  rw [told_cont]
  simp only [Bool.false_eq_true, if_false]
  refine wpAny_bind ?_
  refine wpAny_bind (wpAny_of_eq (a := (Str.ofString "__contains__", .type "set")) (by first | rfl | kernel_rfl) ?_)
  dsimp only
  refine wpAny_bind (wpAny_isInstance (T := "set") (b := true) ⟨_, hx, rfl⟩ sub_set_self' ?_)
  simp only [Bool.not_true, Bool.false_eq_true, if_false]
  refine wpAny_pure ?_
  exact wpAny_bind (wpAny_newObj_type (wpAny_pure h))

theorem getAttr_cont {S : Addr} {es : Array (Int × Value)} {ep : Nat} {tb} {sl : Array (Option Value)} {Q : Value → Shared → Prop} (hx : s.heap.get? S = some { cls := .type "set", dict := none, data := .set es ep tb, slots := sl }) (h : ∀ tk, Q (.ref s.heap.objs.size) { s with heap := s.heap.push (contO S), toks := tk }) :
    wpAny (model prog w) A (getAttr (.ref S) (Str.ofString "__contains__") true) Q E s := by
  have hT : ∀ tk', ({ s with toks := tk' } : Shared).TypeIs (.ref S) "set" := fun _ => ⟨_, hx, rfl⟩
  unfold getAttr
  refine wpAny_bind (wpAny_mkText ?_)
  unfold getAttrBy
  refine wpAny_holding (wpAny_bind (wpAny_typeOf (hT _) ?_))
  refine wpAny_bind (wpAny_of_eq PySem.F.slot_set_getattribute.lookup ?_)
  dsimp only
  rw [if_neg (by show ¬ ((onTheHeap (.type "set") && _) = true); simp [onTheHeap])]
  unfold getAttrByItsOwn
  refine wpAny_bind (wpAny_of_eq (a := none) rfl ?_)
  refine wpAny_bind (wpAny_attempt (wpAny_holding ?_))
  unfold callGetattribute
  rw [if_neg (by simp [onTheHeap])]
  unfold boundAndCalled
  refine wpAny_bind (wpAny_of_eq (PySem.F.slot_set_getattribute.bind (.ref S)) ?_)
  dsimp only
  refine wpAny_call_entry PySem.F.slot_set_getattribute (hT _) entry_set_getattribute ?_ (PySem.F.args_set_getattribute_2 _ _)
  unfold Builtin.«object.__getattribute__»
  refine wpAny_bind (wpAny_of_eq (a := (.ref S, [.str (Str.ofString "__contains__") s.toks])) (by first | rfl | kernel_rfl) ?_)
  dsimp only
  refine wpAny_bind (wpAny_of_eq (a := Str.ofString "__contains__") rfl ?_)
  refine wpAny_bind (wpAny_typeOf (hT _) ?_)
  refine wpAny_bind ?_
  unfold ObjectAttr.find
  refine wpAny_bind (wpAny_of_eq PySem.F.slot_set_contains.lookup ?_)
  unfold ObjectAttr.getOf
  dsimp only
  refine wpAny_bind ?_
  unfold specialOf
  refine wpAny_bind (wpAny_of_eq type_cont ?_)
  refine wpAny_of_eq md_get ?_
  refine wpAny_bind ?_
  unfold ObjectAttr.dataDescriptor? ObjectAttr.takesStores
  dsimp only
  have sp : ∀ (n : Str) (r : Option Value), typeLookup (.type "method_descriptor") n = pure r → specialOf (.builtin "set.__contains__") n = pure r := fun n r e => by
    unfold specialOf; rw [type_cont]; exact e
  refine wpAny_bind (wpAny_bind (wpAny_of_eq (sp _ _ md_set) ?_))
  simp only [Option.isSome_none, Bool.false_eq_true, if_false]
  refine wpAny_bind (wpAny_of_eq (sp _ _ md_del) (wpAny_pure ?_))
  simp only [Option.isSome_none, Bool.false_eq_true, if_false]
  refine wpAny_pure ?_
  dsimp only
  unfold ObjectAttr.ownThenClass
  refine wpAny_bind ?_
  show wpAny _ _ (ObjectAttr.ownDict S >>= ObjectAttr.inDict (Str.ofString "__contains__")) _ _ _
  refine wpAny_bind ?_
  unfold ObjectAttr.ownDict
  refine wpAny_bind ?_
  refine wpAny_loadPart hx ?_
  dsimp only
  unfold instanceDict
  refine wpAny_bind (wpAny_loadPart hx ?_)
  dsimp only
  simp only [Bool.not_false, Bool.true_or, if_true]
  refine wpAny_pure ?_
  unfold ObjectAttr.inDict
  dsimp only
  refine wpAny_pure ?_
  dsimp only
  have cg : ObjectAttr.copiedAttributeGuard (Str.ofString "__contains__") (.ref S) = pure () := by
    unfold ObjectAttr.copiedAttributeGuard
    dsimp only
    rw [if_neg (by decide +kernel)]
  refine wpAny_bind (wpAny_of_eq cg ?_)
  unfold ObjectAttr.byTheClass
  dsimp only
  refine wpAny_bind (wpAny_rule (wpAny_pure ?_))
  dsimp only
  unfold ObjectAttr.bindTo
  dsimp only
  refine wpAny_bind (wpAny_holding (wpAny_call_entry (self := .builtin "set.__contains__") slot_md_get type_cont entry_md_get (md_get_cont (s := { s with toks := s.toks + 1 }) hx ?_) (args_md_get _ _ _)))
  refine ⟨_, rfl, ?_⟩
  refine wpAny_pure ⟨_, rfl, ?_⟩
  dsimp only
  exact wpAny_pure (h _)

theorem check_cont {S : Addr} {v : Value} {T : Str → Bool} {n : Nat} {Q : Unit → Shared → Prop} (hS : s.heap.SetOf (PySem.strKind prog w) S T n) (h : Q () s) : wpAny (model prog w) A (checkBoundCall "set.__contains__" ⟨[.ref S, v], []⟩) Q E s := by
  have hT : s.TypeIs (.ref S) "set" := hS.typeIs
  obtain ⟨o, es, ep, tb, ho, hex, hd, -⟩ := id hS
  unfold checkBoundCall
  rw [sig_cont, kind_cont]
  dsimp only
  rw [if_neg (by decide)]
  refine wpAny_bind (wpAny_isInstance hT sub_set_module ?_)
  rw [vararg_cont]
  simp only [Bool.or_false, Bool.false_eq_true, if_false]
  have ht : wpAny (model prog w) A (isType (.ref S)) (fun b s' => b = false ∧ s' = s) E s := by
    show wpAny _ A (loadHead S >>= _) _ _ _
    obtain ⟨oc, od, oda, osl⟩ := o
    dsimp only at hd
    subst hd
    exact wpAny_bind (wpAny_loadPart ho (wpAny_pure ⟨rfl, rfl⟩))
  refine wpAny_bind (wpAny_mono ht (fun b s' q => ?_) fun _ _ e => e)
  obtain ⟨rfl, rfl⟩ := q
  simp only [Bool.false_eq_true, if_false]
  refine wpAny_bind (wpAny_typeOf hT ?_)
  dsimp only
  exact wpAny_of_eq (checkArgs_cont _ _) h

theorem call_cont {S u : Addr} {x : Str} {t : Tok} {T : Str → Bool} {n : Nat} {Q : Value → Shared → Prop} (hu : s.heap.get? u = some (contO S)) (hS : s.heap.SetOf (PySem.strKind prog w) S T n) (h : Q (.bool (T x)) { s with toks := s.toks + 1 }) :
    wpAny (model prog w) A (call (.ref u) [.str x t]) Q E s := by
  refine wpAny_call (codeAny_of_tree ?_)
  show wpAny _ A.in1 (callAny (.ref u) ⟨[.str x t], []⟩) _ _ s
  simp only [callAny]
  refine wpAny_bind (wpAny_load hu ?_)
  simp only [show (Value.type "builtin_function_or_method" == Value.type "method" || Value.type "builtin_function_or_method" == Value.type "builtin_function_or_method" || Value.type "builtin_function_or_method" == Value.type "method-wrapper") = true by decide, if_true]
  refine KFB.if_so (by decide) ?_
  refine wpAny_bind (check_cont hS ?_)
  refine wpAny_bind (wpAny_pure (wpAny_pure ?_))
  refine ⟨Code.quiet_builtin _ (by decide +kernel), codeAny_builtin entry_set_contains ?_⟩
  unfold Builtin.«frozenset.__contains__» Builtin.Frozenset.oneOther
  simp only [List.isEmpty_nil, bind_assoc]
  unfold Builtin.Frozenset.addrOf Builtin.Frozenset.withSetAsKey setContains
  refine wpAny_bind (wpAny_pure ?_)
  try dsimp only
  refine wpAny_bind (wpAny_pure ?_)
  try dsimp only
  refine wpAny_bind (wpAny_tryCatch ?_)
  refine wpAny_holding ?_
  refine wpAny_bind ((PySem.strKind prog w).pyHash (k := x) (PySem.strKind_is _ _ _ _) ?_)
  refine wpAny_bind (wpAny_setFind_of (s := { s with toks := s.toks + 1 }) (k := x) (PySem.strKind_is _ _ _ _) rfl hS fun r hr => ?_)
  refine wpAny_pure ?_
  show wpAny _ _ (ret (Value.bool r.isSome)) _ _ _
  rw [hr]
  exact wpAny_pure h
end
end Mine

/-! ## W28 -/
namespace Mine
open PySem.Builtin

section
variable {prog : Program} {w : World} {A : Around} {E : Value → Shared → Prop} {s : Shared}

theorem listNext_item {it l : Addr} {i : Nat} {items : Array Value} {x : Value} {Q : Option Value → Shared → Prop} (hit : s.heap.IsListIter it l i)
    (hl : s.heap.IsList l items) (hx : items[i]? = some x)
    (hQ : ∀ h', h'.IsListIter it l (i + 1) → Heap.SameBut it s.heap h' → Q (some x) { s with heap := h' }) :
    wpAny (model prog w) A (callSpecial? (.ref it) (Str.ofString "__next__")) Q E s := by
  obtain ⟨o, ho, hc, hd⟩ := id hit
  obtain ⟨ol, hol, _, nl, hdl⟩ := hl
  refine wpAny_callSpecial?_slot (name := Str.ofString "__next__") hit.typeIs slot_listiter_next
    (wpAny_call_entry slot_listiter_next hit.typeIs entry_listiter_next ?_ (args_listiter_next _))
  show wpAny _ _ (field (.ref it) 0 >>= _) _ _ s
  refine wpAny_bind (wpAny_field ho hd (x := .ref l) rfl ?_)
  show wpAny _ _ (if (Value.ref l == Value.none) = true then _ else _) _ _ s
  rw [if_neg (show ¬ ((Value.ref l == Value.none) = true) from Bool.false_ne_true)]
  show wpAny _ _ (field (.ref it) 1 >>= _) _ _ s
  refine wpAny_bind (wpAny_field ho hd (x := .int i 0) rfl ?_)
  show wpAny _ _ (seqItems? (.ref l) >>= _) _ _ s
  refine wpAny_bind (wpAny_seqItems hol hdl ?_)
  simp only [Int.toNat_natCast, hx]
  refine wpAny_bind (wpAny_setField ho hd (by simp) (wpAny_pure ⟨x, rfl, hQ _ ?_ (Heap.SameBut.update ..)⟩))
  exact ⟨_, Heap.get?_update_self _ ho (Obj.isFreed_of_fields (Obj.data_mapFields hd _)), (Obj.cls_mapFields ..).trans hc, by
    rw [Obj.data_mapFields hd]; simp [rawInt]⟩
theorem listNext_end {it l : Addr} {i : Nat} {items : Array Value} {Q : Option Value → Shared → Prop} (hh : A.handled = none)
    (hit : s.heap.IsListIter it l i) (hl : s.heap.IsList l items) (hx : items[i]? = none)
    (hE : ∀ h' e, Heap.ExtBut it s.heap h' → (∃ o, h'.get? e = some o ∧ o.cls = .type "StopIteration") → E (.ref e) { s with heap := h' }) :
    wpAny (model prog w) A (callSpecial? (.ref it) (Str.ofString "__next__")) Q E s := by
  obtain ⟨o, ho, hc, hd⟩ := id hit
  obtain ⟨ol, hol, _, nl, hdl⟩ := hl
  refine wpAny_callSpecial?_slot (name := Str.ofString "__next__") hit.typeIs slot_listiter_next
    (wpAny_call_entry slot_listiter_next hit.typeIs entry_listiter_next ?_ (args_listiter_next _))
  show wpAny _ _ (field (.ref it) 0 >>= _) _ _ s
  refine wpAny_bind (wpAny_field ho hd (x := .ref l) rfl ?_)
  show wpAny _ _ (if (Value.ref l == Value.none) = true then _ else _) _ _ s
  rw [if_neg (show ¬ ((Value.ref l == Value.none) = true) from Bool.false_ne_true)]
  show wpAny _ _ (field (.ref it) 1 >>= _) _ _ s
  refine wpAny_bind (wpAny_field ho hd (x := .int i 0) rfl ?_)
  show wpAny _ _ (seqItems? (.ref l) >>= _) _ _ s
  refine wpAny_bind (wpAny_seqItems hol hdl ?_)
  simp only [Int.toNat_natCast, hx]
  refine wpAny_bind (wpAny_rule (wpAny_bind (wpAny_setField ho hd (by simp) ?_)))
  show wpAny _ _ (newExc (.type "StopIteration") [] >>= _) _ _ _
  refine wpAny_bind ?_
  simp only [newExc, newTuple]
  refine wpAny_bind (wpAny_newObj_type ?_ (by size_fits))
  refine wpAny_bind (m := firstArgMember _ _) (wpAny_of_eq (a := Value.none) (by first | rfl | (simp only [firstArgMember]; rfl)) ?_)
  refine wpAny_newObj_type ?_ (by size_fits)
  simp only [raiseNew]
  refine wpAny_bind (wpAny_handled ?_)
  first | rw [show A.in1.handled = none from hh] | rw [hh]
  refine wpAny_bind (wpAny_pure (wpAny_throw ?_))
  exact hE _ _ (((Heap.SameBut.update ..).extBut.push _).push _) ⟨_, Heap.get?_push_size _ rfl, rfl⟩

/-- the turns of a filter that lets all through -/
structure FilAt (h0 h : Heap) (M I L : Addr) (f : Value) (vs : Array Value) (i : Nat) : Prop where
  m : h.get? M = some (filO I f)
  i : h.IsListIter I L i
  l : h.IsList L vs
  k : Sub h0 h
theorem filterWalks {h0 : Heap} {M I L u : Addr} {vs : Array Value} (hh : A.handled = none) (hM : I ≠ M) (hL : I ≠ L) (hI : h0.get? I = none)
    (hcall : ∀ (A : Around) (s : Shared) (i : Nat) (v : Value) (Q E : Value → Shared → Prop), Sub h0 s.heap → vs[i]? = some v → (∀ tk, Q (.bool true) { s with toks := tk }) → wpAny (model prog w) A (call (.ref u) [v]) Q E s) :
    Walks prog w A M ([M, I, L] ++ List.range h0.objs.size) [I] vs.size (fun i v => vs[i]? = some v) (fun i h => FilAt h0 h M I L (.ref u) vs i) where
  sub := fun b hb => by simp at hb; simp [hb]
  frame := fun i h h' st hk => ⟨hk _ (by simp) _ st.m, st.i.at fun o e => hk _ (by simp) o e, st.l.at fun o e => hk _ (by simp) o e, fun b o e => hk b (List.mem_append_right _ (List.mem_range.mpr (Heap.lt_size e))) o (st.k b o e)⟩
  item := fun i s Q E hi st hQ => by
    have hT : s.TypeIs (.ref M) "filter" := ⟨_, st.m, rfl⟩
    unfold pyNext
    refine wpAny_bind (wpAny_attempt (wpAny_callSpecial?_slot (name := Str.ofString "__next__") hT slot_filter_next (wpAny_call_entry slot_filter_next hT entry_filter_next ?_ (args_filter_next _))))
    unfold Builtin.«filter.__next__»
    refine wpAny_bind (wpAny_of_eq (a := (Value.ref M, [])) rfl ?_)
    try dsimp only
    refine wpAny_bind (wpAny_field st.m rfl (x := .ref u) rfl ?_)
    refine wpAny_bind (wpAny_field st.m rfl (x := .ref I) rfl ?_)
    refine wpAny_bind (listNext_item st.i st.l (x := vs[i]) (by simp [hi]) fun h1 hit1 hs1 => ?_)
    dsimp only
    have k1 : ∀ b o, b ≠ I → s.heap.get? b = some o → h1.get? b = some o := fun b o q e => hs1.extBut b o q e
    have m1 := k1 _ _ (Ne.symm hM) st.m
    have sub1 : Sub h0 h1 := fun b o e => k1 b o (fun q => by rw [q, hI] at e; cases e) (st.k b o e)
    refine wpAny_bind (wpAny_holding ?_)
    rw [if_neg (by simp [show (Value.ref u == Value.none) = false from rfl, show (Value.ref u == Value.type "bool") = false from rfl])]
    refine wpAny_bind (hcall _ { s with heap := h1 } i vs[i] _ _ sub1 (by simp [hi]) fun tk => ?_)
    refine wpAny_holding (wpAny_truthy_bool ?_)
    simp only [if_true]
    exact wpAny_pure ⟨vs[i], rfl, wpAny_pure (hQ vs[i] h1 tk (by simp [hi]) ⟨m1, hit1, st.l.at fun o e => k1 _ o (Ne.symm hL) e, sub1⟩ fun b o hb e => k1 b o (by simpa using hb) e)⟩
  done := fun s Q E st hQ => by
    have hT : s.TypeIs (.ref M) "filter" := ⟨_, st.m, rfl⟩
    unfold pyNext
    refine wpAny_bind (wpAny_attempt (wpAny_callSpecial?_slot (name := Str.ofString "__next__") hT slot_filter_next (wpAny_call_entry slot_filter_next hT entry_filter_next ?_ (args_filter_next _))))
    unfold Builtin.«filter.__next__»
    refine wpAny_bind (wpAny_of_eq (a := (Value.ref M, [])) rfl ?_)
    try dsimp only
    refine wpAny_bind (wpAny_field st.m rfl (x := .ref u) rfl ?_)
    refine wpAny_bind (wpAny_field st.m rfl (x := .ref I) rfl ?_)
    refine wpAny_bind (listNext_end (by exact hh) st.i st.l (by simp) fun h1 e he1 ⟨o, e1, e2⟩ => ?_)
    refine wpAny_bind (wpAny_isInstance (T := "StopIteration") (b := true) ⟨_, e1, e2⟩ isSubtype_stop ?_)
    exact wpAny_pure (hQ h1 s.toks fun b o hb e => he1 b o (by simpa using hb) e)
  self := fun i s Q E st hQ => by
    have hT : s.TypeIs (.ref M) "filter" := ⟨_, st.m, rfl⟩
    refine wpAny_pyIter_slot hT slot_filter_iter (wpAny_call_entry slot_filter_iter hT entry_filter_iter ?_ (args_filter_iter _))
    show wpAny _ _ (ret (.ref M)) _ _ s
    exact wpAny_pure ⟨_, rfl, "filter", _, hT, slot_filter_next.lookup, hQ⟩
end

section
variable {prog : Program} {w : World} {B : Heap → Prop} {mg mb : Str → Option Value} {fa : Nat → Addr} {d : Nat} {c : Cx} {σ : St}

theorem VRs.one_str {h : Heap} {x : List Nat} {vs : List Value} (r : VRs h [.str x] vs) : ∃ t, vs = [.str (S x) t] := by
  exact VRs.s (Q := fun vs => ∃ t, vs = [.str (S x) t]) (fun t => ⟨t, rfl⟩) vs r

/-- list(filter(set(e2).__contains__, e1)), both lists of the one text -/
theorem EvM.listFilter {ln fn sn ap lp fp sp : Pos} {e1 e2 : Expr} {a b : Addr} {x : List Nat} {P : PV → Ledger → Prop} (Z : Base B mg mb fa) (C : c.Ok)
    (hkl : c.env.kindOf (Str.ofString "list") = some .globalImplicit) (hkf : c.env.kindOf (Str.ofString "filter") = some .globalImplicit) (hks : c.env.kindOf (Str.ofString "set") = some .globalImplicit)
    (h1 : EvE prog w B d c σ e1 (.ref a)) (h2 : EvE prog w B d c σ e2 (.ref b)) (ha : (a, MO.lst [.str x]) ∈ σ.mem) (hb : (b, MO.lst [.str x]) ∈ σ.mem) (h : ∀ D, P (.ref D) ((D, .lst [.str x]) :: σ.mem))
    (hs1 : ∀ env, starEach [e1] env = (false, eval e1 env) :: starEach [] env := by intro _; rfl) (hs2 : ∀ env, starEach [e2] env = (false, eval e2 env) :: starEach [] env := by intro _; rfl) :
    EvM prog w B d c σ (.Call (.Name (Str.ofString "list") ln) [.Call (.Name (Str.ofString "filter") fn) [.Attribute (.Call (.Name (Str.ofString "set") sn) [e2] [] sp) (Str.ofString "__contains__") ap, e1] [] fp] [] lp) P := by
  intro h0 A s Q E bb ok R k
  have hp1 : ∀ pos, (backTo pos (starEach [.Call (.Name (Str.ofString "filter") fn) [.Attribute (.Call (.Name (Str.ofString "set") sn) [e2] [] sp) (Str.ofString "__contains__") ap, e1] [] fp] c.env)).any (·.1) = false := fun pos => rfl
  have hsA : ∀ env, starEach [.Attribute (.Call (.Name (Str.ofString "set") sn) [e2] [] sp) (Str.ofString "__contains__") ap, e1] env = (false, eval (.Attribute (.Call (.Name (Str.ofString "set") sn) [e2] [] sp) (Str.ofString "__contains__") ap) env) :: starEach [e1] env := fun _ => rfl
  have hp2 : ∀ pos, (backTo pos (starEach [.Attribute (.Call (.Name (Str.ofString "set") sn) [e2] [] sp) (Str.ofString "__contains__") ap, e1] c.env)).any (·.1) = false := fun pos => by rw [hsA, hs1]; rfl
  have hp3 : ∀ pos, (backTo pos (starEach [e2] c.env)).any (·.1) = false := fun pos => by rw [hs2]; rfl
  refine wpAny_Call_ofName ((EvE.bl Z C (by decide +kernel) boot_list hkl : EvE prog w B d c σ (.Name (Str.ofString "list") ln) (.val (.type "list"))) h0 A s _ E bb ok R fun v g1 t1 s1 r1 => ?_)
  obtain rfl : v = .type "list" := r1
  refine (Callee.typ "list").call Z.toBs bb (hp1 _) (evalArgsM (hp1 _) (wpAny_items_cons ?_ rfl))
  refine wpAny_Call_ofName ((EvE.bl Z C (by decide +kernel) boot_filter hkf : EvE prog w B d c σ (.Name (Str.ofString "filter") fn) (.val (.type "filter"))) h0 A _ _ E bb ok (R.sub s1) fun v g2 t2 s2 r2 => ?_)
  obtain rfl : v = .type "filter" := r2
  refine (Callee.typ "filter").call Z.toBs bb (hp2 _) (evalArgsM (hp2 _) (wpAny_items_cons ?_ (hsA _)))
  -- set(e2).__contains__
  have eA : eval (.Attribute (.Call (.Name (Str.ofString "set") sn) [e2] [] sp) (Str.ofString "__contains__") ap) c.env = (do
      let v ← eval (.Call (.Name (Str.ofString "set") sn) [e2] [] sp) c.env
      standAt ap.atName
      let r ← holding [v] (getAttr v (Str.ofString "__contains__") true)
      letTemporaryGo (.Call (.Name (Str.ofString "set") sn) [e2] [] sp) v r
      pure r) := rfl
  rw [eA]
  refine wpAny_bind ?_
  refine wpAny_Call_ofName ((EvE.bl Z C (by decide +kernel) boot_set hks : EvE prog w B d c σ (.Name (Str.ofString "set") sn) (.val (.type "set"))) h0 A _ _ E bb ok ((R.sub s1).sub s2) fun v g3 t3 s3 r3 => ?_)
  obtain rfl : v = .type "set" := r3
  have R3 := ((R.sub s1).sub s2).sub s3
  refine (Callee.typ "set").call Z.toBs bb (hp3 _) (evalArgsM (hp3 _) (wpAny_items_cons (h2 h0 A _ _ E bb ok R3 fun v g4 t4 s4 r4 => wpAny_items_nil ⟨(R3.sub s4).keep, ?_⟩) (hs2 _)))
  obtain rfl : v = .ref b := r4
  have R4 := R3.sub s4
  obtain ⟨vs, hvl, hv⟩ := R4.lst hb
  obtain ⟨t, rfl⟩ := hv.one_str
  refine call_set_one (s := { s with heap := g4, toks := t4 }) ok.1 hvl fun g5 t5 hS5 s5 => ?_
  refine wpAny_bind (wpAny_standAt (wpAny_bind (wpAny_holding ?_)))
  obtain ⟨oS, es, ep, tb, hoS, hex, hdS, -⟩ := id hS5
  obtain ⟨oc, od, oda, osl⟩ := oS
  obtain ⟨hx1, hx2, hx3⟩ := hex
  dsimp only at hx1 hx2 hx3 hdS
  subst hx1; subst hx2; subst hx3; subst hdS
  refine getAttr_cont hoS fun tk6 => ?_
  have s6 : Sub g5 (g5.push (contO g4.objs.size)) := Sub.push _ _
  refine wpAny_bind ?_
  show wpAny _ _ (holding [Value.ref g5.objs.size] (runValue (.builtin "proto.let_go" {})) >>= fun _ => pure ()) _ _ _
  refine wpAny_bind (wpAny_holding (wpAny_runValue (codeAny_builtin entry_let_go ?_)))
  refine wpAny_pure ?_
  refine wpAny_pure (wpAny_pure ?_)
  have R6 := (R4.sub s5).sub s6
  -- e1
  refine wpAny_items_cons (h1 h0 A _ _ E bb ok R6 fun v g7 t7 s7 r7 => wpAny_items_nil ⟨(R6.sub s7).keep, ?_⟩) (hs1 _)
  obtain rfl : v = .ref a := r7
  have R7 := R6.sub s7
  obtain ⟨vs, hal, hva⟩ := R7.lst ha
  obtain ⟨t', rfl⟩ := hva.one_str
  have hu7 : g7.get? g5.objs.size = some (contO g4.objs.size) := s7 _ _ (Heap.get?_push_size _ rfl)
  have hS7 : g7.SetOf (PySem.strKind prog w) g4.objs.size (oneS (S x)) 1 := by
    obtain ⟨o, es, ep, tb, ho, rest⟩ := hS5
    exact ⟨o, es, ep, tb, s7 _ _ (s6 _ _ ho), rest⟩
  have z1 : (g7.push (iterO a)).objs.size = g7.objs.size + 1 := Heap.size_push _ _
  refine callType_new called_filter (by decide) (typeCall_filter _ _) (newCall_filter _ _) (fun obj => PySem.F.initArgs_range_2 obj _ _) entry_filter_new (filter_new (.ref g5.objs.size) a #[.str (S x) t']) ⟨hal, ⟨filO g7.objs.size (.ref g5.objs.size), ?_, rfl⟩, ?_⟩
  · have := Heap.get?_push_size (g7.push (iterO a)) (o := filO g7.objs.size (.ref g5.objs.size)) rfl
    rw [z1] at this
    exact this
  refine wpAny_items_nil ?_
  generalize hh8 : (g7.push (iterO a)).push (filO g7.objs.size (.ref g5.objs.size)) = g8
  have z2 : g8.objs.size = g7.objs.size + 2 := by rw [← hh8, Heap.size_push, z1]
  have gI : g8.get? g7.objs.size = some (iterO a) := by
    rw [← hh8]; exact Heap.get?_push_of_some _ (Heap.get?_push_size _ rfl)
  have gM : g8.get? (g7.objs.size + 1) = some (filO g7.objs.size (.ref g5.objs.size)) := by
    have := Heap.get?_push_size (g7.push (iterO a)) (o := filO g7.objs.size (.ref g5.objs.size)) rfl
    rw [z1] at this
    rw [← hh8]; exact this
  have s8 : Sub g7 g8 := fun b o e => by rw [← hh8]; exact Heap.get?_push_of_some _ (Heap.get?_push_of_some _ e)
  have hall : a < g7.objs.size := let ⟨o, e, _⟩ := hal; Heap.lt_size e
  refine ⟨(R7.sub s8).keep, ?_⟩
  have W := filterWalks (prog := prog) (w := w) (A := A.in1.in1) (h0 := g7) (M := g7.objs.size + 1) (I := g7.objs.size) (L := a) (u := g5.objs.size) (vs := #[.str (S x) t']) ok.1 (show (g7.objs.size : Nat) ≠ g7.objs.size + 1 by lia) (show (g7.objs.size : Nat) ≠ a from Nat.ne_of_gt hall) (by
      cases q : g7.get? g7.objs.size with
      | none => rfl
      | some o => exact absurd (Heap.lt_size q) (Nat.lt_irrefl _)) (fun A' s' i v Q' E' hs' hi hk' => by
      have hv' : v = .str (S x) t' := by
        have : i = 0 := by
          have := (Array.getElem?_eq_some_iff.mp hi).1
          simp at this; exact this
        subst this
        simpa using hi.symm
      subst hv'
      have hS' : s'.heap.SetOf (PySem.strKind prog w) g4.objs.size (oneS (S x)) 1 := by
        obtain ⟨o, es, ep, tb, ho, rest⟩ := hS7
        exact ⟨o, es, ep, tb, hs' _ _ ho, rest⟩
      refine call_cont (hs' _ _ hu7) hS' ?_
      have : oneS (S x) (S x) = true := by simp [oneS]
      rw [this]; exact hk' _)
  refine call_list_iter (T := "filter") (by decide) (by decide) filter_no_len filter_no_hint W (fun i h st => ⟨_, st.m, rfl⟩) ⟨gM, ⟨_, gI, rfl, rfl⟩, hal.at fun o e => s8 _ o e, s8⟩ (fun b hb => ?_) (by simp) (fun g9 tk acc' c' k9 e9 hacc => ?_) (by show (1 : Nat) ≤ 2 ^ 24; decide)
  · show b < g8.objs.size
    rw [z2]
    rcases List.mem_append.mp hb with hb | hb
    · have hb' : b = g7.objs.size + 1 ∨ b = g7.objs.size ∨ b = a := by simpa using hb
      rcases hb' with q | q | q
      · rw [q]; exact Nat.lt_succ_self _
      · rw [q]; exact Nat.lt_succ_of_lt (Nat.lt_succ_self _)
      · rw [q]; exact Nat.lt_of_lt_of_le hall (Nat.le_add_right _ 2)
    · exact Nat.lt_of_lt_of_le (List.mem_range.mp hb) (Nat.le_add_right _ 2)
  · have s9 : Sub g7 g9 := fun b o e => k9 b o (by simpa using Nat.ne_of_lt (Heap.lt_size e)) (s8 b o e)
    have sAll : Sub s.heap g7 := (((s1.trans s2).trans (s3.trans s4)).trans (s5.trans s6)).trans s7
    have hnew : g7.get? g8.objs.size = none := by
      cases q : g7.get? g8.objs.size with
      | none => rfl
      | some o => exact absurd (Heap.lt_size (s8 _ _ q)) (Nat.lt_irrefl _)
    have hitems : VRs g9 [.str x] acc'.toList := by
      obtain ⟨l⟩ := acc'
      obtain ⟨hz, hP⟩ := hacc
      match l, hz, hP with
      | [v], _, hP =>
        have hv : Value.str (S x) t' = v := by simpa using hP 0 v rfl
        subst hv
        exact ⟨⟨t', rfl⟩, trivial⟩
    exact k (.ref g8.objs.size) _ _ g9 tk (h _) (sAll.trans s9).hard (R7.newSub s9 hnew ⟨acc', c', e9, hitems⟩) rfl
end
end Mine

/-! ## W29 -/
namespace Mine
/-! a class's objects: entries of a dict -/
noncomputable def Ents : List (Str × Value) → List DictEntry → Prop
  | [], [] => True
  | (x, v) :: l, e :: es => (∃ t, e.key = .str x t) ∧ e.val = v ∧ Ents l es
  | _, _ => False
theorem Ents.length : ∀ {l : List (Str × Value)} {es : List DictEntry}, Ents l es → es.length = l.length
  | [], [], _ => rfl
  | (_, _) :: _, _ :: _, ⟨_, _, r⟩ => congrArg (· + 1) (Ents.length r)
  | [], _ :: _, x => x.elim
  | _ :: _, [], x => x.elim
noncomputable def putA (n : Str) (v : Value) : List (Str × Value) → List (Str × Value)
  | [] => [(n, v)]
  | (x, u) :: r => if x == n then (x, v) :: r else (x, u) :: putA n v r
theorem Ents.put {n : Str} {hsh : Int} {t : Tok} {v : Value} : ∀ {l : List (Str × Value)} {es : List DictEntry}, Ents l es → Ents (putA n v l) (putL n hsh (.str n t) v es)
  | [], [], _ => ⟨⟨t, rfl⟩, rfl, trivial⟩
  | (x, u) :: l, e :: es, ⟨⟨t', hk⟩, hv, r⟩ => by
    unfold putA putL
    have hs : e.key.isStr n = (x == n) := by rw [hk]; rfl
    rw [hs]
    cases x == n with
    | true => exact ⟨⟨t', hk⟩, rfl, r⟩
    | false => exact ⟨⟨t', hk⟩, hv, Ents.put r⟩
  | [], _ :: _, x => x.elim
  | _ :: _, [], x => x.elim
theorem Ents.find {n : Str} : ∀ {l : List (Str × Value)} {es : List DictEntry}, Ents l es → (es.find? (·.key.isStr n)).map (·.val) = l.lookup n ∧ es.any (·.refKey) = false
  | [], [], _ => ⟨rfl, rfl⟩
  | (x, u) :: l, e :: es, ⟨⟨t', hk⟩, hv, r⟩ => by
    obtain ⟨i1, i2⟩ := Ents.find (n := n) r
    have hs : e.key.isStr n = (n == x) := by rw [hk, Bool.beq_comm]; rfl
    constructor
    · rw [List.find?_cons, List.lookup_cons, hs]
      cases n == x with
      | true => exact congrArg some hv
      | false => exact i1
    · rw [List.any_cons, i2, Bool.or_false]
      unfold DictEntry.refKey; rw [hk]
  | [], _ :: _, x => x.elim
  | _ :: _, [], x => x.elim
theorem Ents.get {n : Str} {l : List (Str × Value)} {es : List DictEntry} (h : Ents l es) : getL n es = some (l.lookup n) := by
  obtain ⟨i1, i2⟩ := h.find (n := n)
  unfold getL
  cases hf : es.find? (·.key.isStr n) with
  | none => rw [hf] at i1; rw [← i1, i2]; rfl
  | some e => rw [hf] at i1; rw [← i1]; rfl

noncomputable def attrN : List Str := ["useragents", "rulelines", "delay", "req_rate"].map Str.ofString

structure EntB (B : Heap → Prop) (mg : Str → Option Value) (K : Frag) (C fI : Addr) : Prop where
  kin : ∀ h, B h → K.In h
  name : mg (Str.ofString "Entry") = some (.ref C)
  makes : makesIn K C = true
  init : findIn K (.ref C) "__init__" = some (some (.ref fI))
  fnT : typeIn K (.ref fI) = some (.type "function")
  hasD : hasDictIn K C = true
  get : findIn K (.ref C) "__getattribute__" = some (some (.builtin "object.__getattribute__"))
  set : findIn K (.ref C) "__setattr__" = some (some (.builtin "object.__setattr__"))
  over : plainOver K C = true
  no : ∀ x ∈ attrN, findIn K (.ref C) x = some none
  ini : ∃ o fd, o.data = .func fd ∧ (∀ h, B h → h.get? fI = some o ∧ h.CodeRec fd.code fd.qualname) ∧ fd.scope = initD.scope ∧ fd.body = .stmts initD.body ∧ fd.globals = mainGlobals ∧ fd.builtins = builtinsNs ∧ fd.closure = [] ∧ fd.qualname = initD.name ∧
    ∀ v : Value, bindArgs fd ⟨[v], []⟩ = pure [(Str.ofString "self", v)]

theorem notHard_inst {C dx : Addr} : ¬ Hard (instObj C dx) := by
  rintro (⟨h, -⟩ | ⟨h, -⟩) <;> cases h
theorem notHard_dict' {es : List DictEntry} {n : Nat} : ¬ Hard (dictOf es n) := notHard_dict rfl

section
variable {prog : Program} {w : World} {B : Heap → Prop} {mg mb : Str → Option Value} {fa : Nat → Addr} {d : Nat} {c : Cx} {σ : St} {K : Frag} {C fI : Addr}

/-- o.name -/
theorem EvE.attr {o : Expr} {name : Str} {pos : Pos} {x dx : Addr} {es : List DictEntry} {n : Nat} {l : List (Str × Value)} {v : Value} (T : EntB B mg K C fI) (ho : EvE prog w B d c σ o (.ref x)) (m1 : (x, MO.raw (instObj C dx)) ∈ σ.mem) (m2 : (dx, MO.raw (dictOf es n)) ∈ σ.mem)
    (hl : Ents l es) (hv : l.lookup name = some v) (hn : name ∈ attrN) (hh : handedIn v = true) (hb : attributeBase o name c.env (eval o c.env) = eval o c.env := by rfl) (ht : ∀ (a r : Value), letTemporaryGo o a r = pure () := by intro _ _; rfl) :
    EvE prog w B d c σ (.Attribute o name pos) (.val v) := by
  intro h0 A s Q E b ok R k
  have e : eval (.Attribute o name pos) c.env = (do
      let v ← attributeBase o name c.env (eval o c.env)
      standAt pos.atName
      let r ← holding [v] (getAttr v name true)
      letTemporaryGo o v r
      pure r) := rfl
  rw [e, hb]
  refine wpAny_bind (ho h0 A s _ E b ok R fun u h1 t1 s1 r1 => ?_)
  obtain rfl : u = .ref x := r1
  have R1 := R.sub s1
  have g1 : h1.get? x = some (instObj C dx) := (R1.mem.at_ _ m1).1.1
  have g2 : h1.get? dx = some (dictOf es n) := (R1.mem.at_ _ m2).1.1
  have X : K.In h1 := (T.kin h0 b).keeps R1.keep
  refine wpAny_bind (wpAny_standAt (wpAny_bind (wpAny_holding (get_value (s := { s with heap := h1, toks := t1 }) X ⟨g1, rfl, rfl, g2⟩ T.get (findObj_own T.hasD (T.no name hn) rfl ?_) hh ?_))))
  · rw [lookIn_dict, hl.get, hv]
  · rw [ht]
    exact wpAny_bind (wpAny_pure (wpAny_pure (k _ h1 (t1 + 1) s1 rfl)))

theorem osa_ent {A : Around} {R : Result → Shared → Prop} {s : Shared} {x dx : Addr} {name : Str} {tk : Tok} {v : Value} {es : List DictEntry} {n : Nat} {l : List (Str × Value)} (T : EntB B mg K C fI) (X : K.In s.heap)
    (hx : s.heap.get? x = some (instObj C dx)) (hdx : s.heap.get? dx = some (dictOf es n)) (hl : Ents l es) (hlen : l.length ≤ 100) (hn : name ∈ attrN)
    (h : ∀ es' n' h' tk, Ents (putA name v l) es' → (∀ b o, b ≠ dx → s.heap.get? b = some o → h'.get? b = some o) → h'.get? dx = some (dictOf es' n') → R (.ok (.ret .none)) { s with heap := h', toks := tk }) :
    codeAny (model prog w) A (.call (.builtin "object.__setattr__") ⟨[.ref x, .str name tk, v], []⟩) R s := by
  have I : InstAt s.heap x (instObj C dx) C (some (dictOf es n)) := ⟨hx, rfl, rfl, hdx⟩
  have ht : takerIn K C name = some none := by unfold takerIn; rw [T.no name hn]; rfl
  refine osa_open X I T.over ht fun b => ?_
  obtain ⟨cd, hc, hd'⟩ := any_some T.hasD
  refine wpAny_bind (wpAny_pure (wpAny_bind (wpAny_bind (wpAny_loadPart hx (wpAny_bind ((looks_clsIn X hc).here ?_))))))
  rw [hd']
  refine wpAny_pure (a := some dx) (wpAny_bind (wpAny_pure (wpAny_bind ?_)))
  unfold nsSet
  refine wpAny_bind (wpAny_bind (wpAny_askSetting (wpAny_pure (wpAny_bind (wpAny_mkText (wpAny_bind (wpAny_loadPart hdx ?_)))))))
  dsimp only
  have hr : es.any (·.refKey) = false := (hl.find (n := name)).2
  have cc : (!es.toArray.any (·.key.isStr name) && es.toArray.any (·.refKey)) = false := by
    have : es.toArray.any (·.refKey) = false := by rw [List.any_toArray]; exact hr
    rw [this, Bool.and_false]
  rw [aRefKeyMayBeTheName_at, cc]
  refine wpAny_updatePart hdx ?_
  have hp : Obj.putName name (PyData.keyHash w.params name) (.str name s.toks) v (dictOf es n) = dictOf (putL name (PyData.keyHash w.params name) (.str name s.toks) v es) (putN name es n) := putName_dict _ _ _ _ _ _
  have he := hl.put (n := name) (hsh := PyData.keyHash w.params name) (t := s.toks) (v := v)
  have D' : (s.heap.update dx (Obj.putName name (PyData.keyHash w.params name) (.str name s.toks) v)).get? dx = some (dictOf (putL name (PyData.keyHash w.params name) (.str name s.toks) v es) (putN name es n)) := by
    rw [Heap.get?_update_self _ hdx (by rw [hp]; rfl), hp]
  have hsz : (putL name (PyData.keyHash w.params name) (.str name s.toks) v es).length ≤ 1000 := by
    rw [he.length]
    have : ∀ l : List (Str × Value), (putA name v l).length ≤ l.length + 1 := by
      intro l
      induction l with
      | nil => simp [putA]
      | cons p r ih =>
        obtain ⟨a, u⟩ := p
        unfold putA; split <;> simp; lia
    have := this l
    lia
  refine wpAny_bind (wpAny_lookBehind D' (pastItsLine_dict (by rw [List.size_toArray, sizeLine_eq]; lia)) ?_)
  exact wpAny_pure (h _ _ _ _ he (fun b o q e => (Heap.get?_update_ne _ _ _ _ q).trans e) D')
theorem setAttr_ent {A : Around} {E : Value → Shared → Prop} {s : Shared} {x dx : Addr} {name : Str} {v : Value} {es : List DictEntry} {n : Nat} {l : List (Str × Value)} {Q : Unit → Shared → Prop} (T : EntB B mg K C fI) (X : K.In s.heap)
    (hx : s.heap.get? x = some (instObj C dx)) (hdx : s.heap.get? dx = some (dictOf es n)) (hl : Ents l es) (hlen : l.length ≤ 100) (hn : name ∈ attrN)
    (h : ∀ es' n' h' tk, Ents (putA name v l) es' → (∀ b o, b ≠ dx → s.heap.get? b = some o → h'.get? b = some o) → h'.get? dx = some (dictOf es' n') → Q () { s with heap := h', toks := tk }) :
    wpAny (model prog w) A (setAttr (.ref x) name v) Q E s :=
  set_plain X (od := some (dictOf es n)) ⟨hx, rfl, rfl, hdx⟩ T.set (osa_ent (s := { s with toks := s.toks + 1 }) T X hx hdx hl hlen hn fun es' n' h' tk he hk hd => h es' n' h' tk he hk hd)

/-- o.name = e -/
theorem ExSs.setAttr {o e : Expr} {name : Str} {p1 pos : Pos} {P1 : PV → Ledger → Prop} {ts : List Stmt} {P : FL → St → Prop} (T : EntB B mg K C fI) (he : EvM prog w B d c σ e P1) (hn : name ∈ attrN)
    (h : ∀ pv m, P1 pv m → ∃ x dx es n l v, EvE prog w B d c ⟨σ.vars, m⟩ o (.ref x) ∧ pv = .val v ∧ (x, MO.raw (instObj C dx)) ∈ m ∧ (dx, MO.raw (dictOf es n)) ∈ m ∧ Ents l es ∧ l.length ≤ 100 ∧
      ∀ es' n', Ents (putA name v l) es' → ∃ m', Put dx (.raw (dictOf es n)) (.raw (dictOf es' n')) m m' ∧ ExSs prog w B d c ⟨σ.vars, m'⟩ ts P)
    (hs : swapsWith e (some (.Attribute o name p1)) pos.line c.env = pure false := by rfl) : ExSs prog w B d c σ (.Assign [.Attribute o name p1] e pos :: ts) P :=
  ExSs.next (P1 := fun σ' => ExSs prog w B d c σ' ts P) (fun h0 A s Q E b ok R q => plainObj_wpAny_Assign_Attribute (he h0 A s _ E b ok R fun pv m v1 h1 t1 p hs1 R1 r1 => by
    obtain ⟨x, dx, es, n, l, v, ho, rfl, m1, m2, hl, hlen, hk⟩ := h pv m p
    obtain rfl : v1 = v := r1
    refine ho h0 A _ _ E b ok R1 fun u h2 t2 s2 r2 => ?_
    obtain rfl : u = .ref x := r2
    have R2 := R1.sub s2
    refine setAttr_ent (prog := prog) (s := { s with heap := h2, toks := t2 }) T ((T.kin h0 b).keeps R2.keep) (R2.mem.at_ _ m1).1.1 (R2.mem.at_ _ m2).1.1 hl hlen hn fun es' n' h' tk he' hk' hd' => ?_
    obtain ⟨m', hp, hx⟩ := hk es' n' he'
    obtain ⟨hh, R'⟩ := R2.put (h' := h') hp hk' fun _ => ⟨hd', notHard_dict'⟩
    exact q .next _ .next h' tk ⟨rfl, hx⟩ R' trivial) hs) fun _ q => q
end
end Mine

/-! ## G1 -/
namespace Mine
section
variable {prog : Program} {w : World} {B : Heap → Prop} {mg mb : Str → Option Value} {fa : Nat → Addr} {d : Nat} {c : Cx} {σ : St}

/-- what is asked at the end, under a name -/
theorem ExSs.genP {ts : List Stmt} {P : FL → St → Prop} (h : ∀ Q : FL → St → Prop, (∀ fl σ', P fl σ' → Q fl σ') → ExSs prog w B d c σ ts Q) : ExSs prog w B d c σ ts P := h P fun _ _ x => x
theorem EvM.genP {e : Expr} {P : PV → Ledger → Prop} (h : ∀ Q : PV → Ledger → Prop, (∀ pv m, P pv m → Q pv m) → EvM prog w B d c σ e Q) : EvM prog w B d c σ e P := h P fun _ _ x => x

/-- x = e, the rest asked of what e leaves -/
theorem ExSs.letK {x : Str} {p1 pos : Pos} {e : Expr} {ts : List Stmt} {P : FL → St → Prop} (k : Nat) (C : c.Ok) (hrw : c.rw = true) (hk : c.names[k]? = some x) (he : EvM prog w B d c σ e (fun pv m => ExSs prog w B d c ⟨σ.vars.set k pv, m⟩ ts P))
    (hs : swapsWith e (some (.Name x p1)) pos.line c.env = pure false := by rfl) : ExSs prog w B d c σ (.Assign [.Name x p1] e pos :: ts) P := ExSs.letM k C hrw hk he hs fun _ _ q => q
theorem chE {α : Type} {K : (α → Prop) → Prop} {Q : α → Prop} (h : K Q) : ∀ x, (∀ Q', K Q' → Q' x) → Q x := fun _ hI => hI Q h

/-- a list display of plain things -/
theorem EvM.listE {es : List Expr} {ps : List PV} {pos : Pos} {P : PV → Ledger → Prop} (he : EvAs prog w B d c σ es ps) (hl : ps.length ≤ 16777216) (h : ∀ a, P (.ref a) ((a, .lst ps) :: σ.mem)) : EvM prog w B d c σ (.List es pos) P :=
  EvM.list (Pa := fun pvs m => pvs = ps ∧ m = σ.mem) (he.ms ⟨rfl, rfl⟩) (fun _ _ q => q.1 ▸ hl) fun _ _ a q => by rw [q.1, q.2]; exact h a
/-- x = a new thing, at a new place -/
theorem ExSs.letA {x : Str} {p1 pos : Pos} {e : Expr} {ts : List Stmt} {P : FL → St → Prop} (f : Addr → Ledger) (k : Nat) (C : c.Ok) (hrw : c.rw = true) (hk : c.names[k]? = some x) (he : ∀ P1 : PV → Ledger → Prop, (∀ a, P1 (.ref a) (f a)) → EvM prog w B d c σ e P1)
    (h : ∀ a, ExSs prog w B d c ⟨σ.vars.set k (.ref a), f a⟩ ts P) (hs : swapsWith e (some (.Name x p1)) pos.line c.env = pure false := by rfl) : ExSs prog w B d c σ (.Assign [.Name x p1] e pos :: ts) P :=
  ExSs.letM (P1 := fun pv m => ExSs prog w B d c ⟨σ.vars.set k pv, m⟩ ts P) k C hrw hk (he _ h) hs fun _ _ q => q
theorem ExSs.letList {x : Str} {p1 p2 pos : Pos} {es : List Expr} {ps : List PV} {ts : List Stmt} {P : FL → St → Prop} (k : Nat) (C : c.Ok) (hrw : c.rw = true) (hk : c.names[k]? = some x) (he : EvAs prog w B d c σ es ps) (hl : ps.length ≤ 16777216)
    (h : ∀ a, ExSs prog w B d c ⟨σ.vars.set k (.ref a), (a, .lst ps) :: σ.mem⟩ ts P) (hs : swapsWith (.List es p2) (some (.Name x p1)) pos.line c.env = pure false := by rfl) : ExSs prog w B d c σ (.Assign [.Name x p1] (.List es p2) pos :: ts) P :=
  ExSs.letA (fun a => (a, .lst ps) :: σ.mem) k C hrw hk (fun _ q => EvM.listE he hl q) h hs
theorem ExSs.letNil {x : Str} {p1 p2 pos : Pos} {ts : List Stmt} {P : FL → St → Prop} (k : Nat) (C : c.Ok) (hrw : c.rw = true) (hk : c.names[k]? = some x)
    (h : ∀ a, ExSs prog w B d c ⟨σ.vars.set k (.ref a), (a, .lst []) :: σ.mem⟩ ts P) (hs : swapsWith (.List [] p2) (some (.Name x p1)) pos.line c.env = pure false := by rfl) : ExSs prog w B d c σ (.Assign [.Name x p1] (.List [] p2) pos :: ts) P :=
  ExSs.letList k C hrw hk EvAs.nil (Nat.zero_le _) h hs
/-- y = a def's call whose answer is known whole -/
theorem ExSs.letFE {y x : Str} {p1 np pos pos2 : Pos} {es : List Expr} {ps : List PV} {m0 rest m1 : Ledger} {v : PV} {ts : List Stmt} {P : FL → St → Prop} {d' : Nat} (k : Nat) (n : Nat) (Z : Base B mg mb fa) (C : c.Ok) (hrw : c.rw = true) (hky : c.names[k]? = some y) (hn : n ∈ defIdx) (hx : (dfn n).name = x) (hk : c.env.kindOf x = some .globalImplicit)
    (ha : EvAs prog w B d c σ es ps) (hf : FnOk prog w B d' (.ref (fa n)) ps m0 (fun pv m => pv = v ∧ m = m1)) (hd : d' ≤ d) (hperm : (m0 ++ rest).Perm σ.mem) (h : ExSs prog w B d c ⟨σ.vars.set k v, m1 ++ rest⟩ ts P)
    (hp : ∀ pos env, (backTo pos (starEach es env)).any (·.1) = false := by intro _ _; rfl) (hdb : (x == ("__debug__" : Str)) = false := by decide) (hw : swapsWith (.Call (.Name x np) es [] pos) (some (.Name y p1)) pos2.line c.env = pure false := by rfl) :
    ExSs prog w B d c σ (.Assign [.Name y p1] (.Call (.Name x np) es [] pos) pos2 :: ts) P :=
  ExSs.letF k n Z C hrw hky hn hx hk ha hf hd hperm (fun _ _ q => by rw [q.1, q.2]; exact h) hp hdb hw
theorem ExSs.callSE {x : Str} {np pos pos2 : Pos} {es : List Expr} {ps : List PV} {m0 rest m1 : Ledger} {ts : List Stmt} {P : FL → St → Prop} {d' : Nat} (n : Nat) (Z : Base B mg mb fa) (C : c.Ok) (hn : n ∈ defIdx) (hx : (dfn n).name = x) (hk : c.env.kindOf x = some .globalImplicit)
    (ha : EvAs prog w B d c σ es ps) (hf : FnOk prog w B d' (.ref (fa n)) ps m0 (fun pv m => pv = .val .none ∧ m = m1)) (hd : d' ≤ d) (hperm : (m0 ++ rest).Perm σ.mem) (h : ExSs prog w B d c ⟨σ.vars, m1 ++ rest⟩ ts P)
    (hp : ∀ pos env, (backTo pos (starEach es env)).any (·.1) = false := by intro _ _; rfl) (hdb : (x == ("__debug__" : Str)) = false := by decide) (hi : interactive c.env = false := by first | rfl | (apply Cx.Ok.inter; assumption)) (hw : swapsWith (.Call (.Name x np) es [] pos) none pos2.line c.env = pure false := by rfl) :
    ExSs prog w B d c σ (.Expr (.Call (.Name x np) es [] pos) pos2 :: ts) P :=
  ExSs.callS n Z C hn hx hk ha hf hd hperm (fun _ _ q => q.1) (fun _ q => q.2 ▸ h) hp hdb hi hw
end
end Mine

/-! ## G2 -/
namespace Mine
section
variable {prog : Program} {w : World} {B : Heap → Prop} {mg mb : Str → Option Value} {fa : Nat → Addr} {d : Nat} {c : Cx} {σ : St} {K : Frag} {C fI : Addr}

/-- an attribute set to a thing at a new place -/
theorem ExSs.setAttrA {o e : Expr} {name : Str} {p1 pos : Pos} {ts : List Stmt} {P : FL → St → Prop} {x dx : Addr} {es : List DictEntry} {n : Nat} {l : List (Str × Value)} (f : Addr → Ledger) (F : Addr → List DictEntry → Nat → Ledger) (T : EntB B mg K C fI)
    (he : ∀ P1 : PV → Ledger → Prop, (∀ a, P1 (.ref a) (f a)) → EvM prog w B d c σ e P1) (hn : name ∈ attrN) (ho : ∀ a, EvE prog w B d c ⟨σ.vars, f a⟩ o (.ref x)) (m1 : ∀ a, (x, MO.raw (instObj C dx)) ∈ f a) (m2 : ∀ a, (dx, MO.raw (dictOf es n)) ∈ f a)
    (hl : Ents l es) (hlen : l.length ≤ 100) (hp : ∀ a es' n', Put dx (.raw (dictOf es n)) (.raw (dictOf es' n')) (f a) (F a es' n')) (h : ∀ a es' n', Ents (putA name (.ref a) l) es' → ExSs prog w B d c ⟨σ.vars, F a es' n'⟩ ts P)
    (hs : swapsWith e (some (.Attribute o name p1)) pos.line c.env = pure false := by rfl) : ExSs prog w B d c σ (.Assign [.Attribute o name p1] e pos :: ts) P :=
  ExSs.setAttr (P1 := fun pv m => ∃ a, pv = .ref a ∧ m = f a) T (he _ fun a => ⟨a, rfl, rfl⟩) hn (fun _ _ q => q.elim fun a q => by
    rw [q.1, q.2]; exact ⟨x, dx, es, n, l, .ref a, ho a, rfl, m1 a, m2 a, hl, hlen, fun es' n' he' => ⟨_, hp a es' n', h a es' n' he'⟩⟩) hs
theorem ExSs.setAttrE {o e : Expr} {name : Str} {p1 pos : Pos} {ts : List Stmt} {P : FL → St → Prop} {x dx : Addr} {es : List DictEntry} {n : Nat} {l : List (Str × Value)} {v : Value} (F : List DictEntry → Nat → Ledger) (T : EntB B mg K C fI)
    (he : EvE prog w B d c σ e (.val v)) (hn : name ∈ attrN) (ho : EvE prog w B d c σ o (.ref x)) (m1 : (x, MO.raw (instObj C dx)) ∈ σ.mem) (m2 : (dx, MO.raw (dictOf es n)) ∈ σ.mem)
    (hl : Ents l es) (hlen : l.length ≤ 100) (hp : ∀ es' n', Put dx (.raw (dictOf es n)) (.raw (dictOf es' n')) σ.mem (F es' n')) (h : ∀ es' n', Ents (putA name v l) es' → ExSs prog w B d c ⟨σ.vars, F es' n'⟩ ts P)
    (hs : swapsWith e (some (.Attribute o name p1)) pos.line c.env = pure false := by rfl) : ExSs prog w B d c σ (.Assign [.Attribute o name p1] e pos :: ts) P :=
  ExSs.setAttr (P1 := fun pv m => pv = .val v ∧ m = σ.mem) T (he.m ⟨rfl, rfl⟩) hn (fun _ _ q => by
    rw [q.1, q.2]; exact ⟨x, dx, es, n, l, v, ho, rfl, m1, m2, hl, hlen, fun es' n' he' => ⟨_, hp es' n', h es' n' he'⟩⟩) hs
end
end Mine

/-! ## W30 -/
namespace Mine
theorem putA_le {n : Str} {v : Value} {k : Nat} : ∀ {l : List (Str × Value)}, l.length ≤ k → (putA n v l).length ≤ k + 1
  | [], h => by simp [putA]
  | (x, u) :: r, h => by
    unfold putA
    split
    · simp at h ⊢; lia
    · cases k with
      | zero => simp at h
      | succ k =>
        have := putA_le (n := n) (v := v) (l := r) (k := k) (by simpa using h)
        simpa using this

noncomputable abbrev entL (u r : Addr) : List (Str × Value) := [(Str.ofString "useragents", .ref u), (Str.ofString "rulelines", .ref r), (Str.ofString "delay", .none), (Str.ofString "req_rate", .none)]
/-- an Entry in the ledger, its four parts -/
noncomputable abbrev entM (C x dx u r : Addr) (es : List DictEntry) (n : Nat) (us rs : List PV) : Ledger := [(x, .raw (instObj C dx)), (dx, .raw (dictOf es n)), (u, .lst us), (r, .lst rs)]

section
variable {prog : Program} {w : World} {B : Heap → Prop} {mg mb : Str → Option Value} {fa : Nat → Addr} {d : Nat} {c : Cx} {σ : St} {K : Frag} {C fI : Addr}

theorem okUnder {A : Around} (ok : OkA (d + 1) A) : OkA d (A.under (.builtin "type.__call__" ⟨.ref C :: [], []⟩)) := by
  refine ⟨ok.1, ?_, ?_⟩
  · show A.depth + 1 + d ≤ 900
    have := ok.2.1; lia
  · have hu : (A.under (.builtin "type.__call__" ⟨.ref C :: [], []⟩)).units ≤ A.units + 20 := by
      show A.units + (Code.builtin "type.__call__" ⟨.ref C :: [], []⟩).cUnits ≤ A.units + 20
      exact Nat.add_le_add_left (Nat.le_of_ble_eq_true rfl) _
    have := ok.2.2; lia

/-- what __init__ does to a new Entry -/
theorem init_body (T : EntB B mg K C fI) {env : Env} (CC : Cx.Ok ⟨env, [Str.ofString "self"], true⟩) (x dx : Addr) : ExSs prog w B 0 ⟨env, [Str.ofString "self"], true⟩ ⟨[.ref x], [(x, .raw (instObj C dx)), (dx, .raw (dictOf [] 0))]⟩ initD.body
    (fun fl σ' => fl = .next ∧ ∃ u r es n, σ'.mem = [(r, .lst []), (u, .lst []), (x, .raw (instObj C dx)), (dx, .raw (dictOf es n))] ∧ Ents (entL u r) es) := by
  refine ExSs.genP fun Q0 hQ0 => ?_
  refine ExSs.setAttrA (x := x) (dx := dx) (fun u => [(u, .lst []), (x, .raw (instObj C dx)), (dx, .raw (dictOf [] 0))]) (fun u es n => [(u, .lst []), (x, .raw (instObj C dx)), (dx, .raw (dictOf es n))]) T (fun _ q => EvM.nilList q) (by decide +kernel)
    (fun u => EvE.var 0 CC rfl rfl) (fun u => .tail _ (.head _)) (fun u => .tail _ (.tail _ (.head _))) (l := []) trivial (by decide) (fun u es n => .tail (.tail .head)) fun u es n he1 => ?_
  refine ExSs.setAttrA (x := x) (dx := dx) (fun r => [(r, .lst []), (u, .lst []), (x, .raw (instObj C dx)), (dx, .raw (dictOf es n))]) (fun r es n => [(r, .lst []), (u, .lst []), (x, .raw (instObj C dx)), (dx, .raw (dictOf es n))]) T (fun _ q => EvM.nilList q) (by decide +kernel)
    (fun r => EvE.var 0 CC rfl rfl) (fun r => .tail _ (.tail _ (.head _))) (fun r => .tail _ (.tail _ (.tail _ (.head _)))) he1 (Nat.le_trans (putA_le (Nat.le_refl 0)) (by decide)) (fun r es n => .tail (.tail (.tail .head))) fun r es2 n2 he2 => ?_
  refine ExSs.setAttrE (x := x) (dx := dx) (fun es n => [(r, .lst []), (u, .lst []), (x, .raw (instObj C dx)), (dx, .raw (dictOf es n))]) T EvE.noneC (by decide +kernel)
    (EvE.var 0 CC rfl rfl) (.tail _ (.tail _ (.head _))) (.tail _ (.tail _ (.tail _ (.head _)))) he2 (Nat.le_trans (putA_le (putA_le (Nat.le_refl 0))) (by decide)) (fun es n => .tail (.tail (.tail .head))) fun es3 n3 he3 => ?_
  refine ExSs.setAttrE (x := x) (dx := dx) (fun es n => [(r, .lst []), (u, .lst []), (x, .raw (instObj C dx)), (dx, .raw (dictOf es n))]) T EvE.noneC (by decide +kernel)
    (EvE.var 0 CC rfl rfl) (.tail _ (.tail _ (.head _))) (.tail _ (.tail _ (.tail _ (.head _)))) he3 (Nat.le_trans (putA_le (putA_le (putA_le (Nat.le_refl 0)))) (by decide)) (fun es n => .tail (.tail (.tail .head))) fun es4 n4 he4 => ?_
  exact ExSs.nil (hQ0 .next _ ⟨rfl, u, r, es4, n4, rfl, he4⟩)

theorem entry_new_ok (Z : Base B mg mb fa) (T : EntB B mg K C fI) :
    FnOk prog w B 2 (.ref C) [] [] (fun pv m => ∃ x dx u r es n, pv = .ref x ∧ m = entM C x dx u r es n [] [] ∧ Ents (entL u r) es) := by
  intro h0 A s vals Q E b ok sub hm r k
  revert vals; refine VRs.z ?_
  have hpr : ∀ (x dx u r : Addr) (es : List DictEntry) (n : Nat), List.Perm [(r, MO.lst []), (u, .lst []), (x, .raw (instObj C dx)), (dx, .raw (dictOf es n))] (entM C x dx u r es n [] []) := fun x dx u r es n =>
    (List.perm_append_comm (l₁ := [(r, MO.lst []), (u, .lst [])]) (l₂ := [(x, .raw (instObj C dx)), (dx, .raw (dictOf es n))])).trans (List.Perm.cons _ (List.Perm.cons _ (List.Perm.swap _ _ _)))
  obtain ⟨oI, fd, hd, hall, q1, q2, q3, q4, q5, q6, hbind⟩ := T.ini
  obtain ⟨hh, g, dd, t, os⟩ := s
  have X : K.In hh := (T.kin h0 b).keeps sub
  refine wpAny_call (make_core (makes_of X T.makes) (looks_findIn X T.init) (fun self => bind_fn X self T.fnT) (.inl rfl) ?_)
  have sub2 : Sub hh ((hh.push emptyDict).push (instObj C hh.objs.size)) := (Sub.push _ _).trans (Sub.push _ _)
  have nn : ∀ a : Nat, hh.objs.size ≤ a → hh.get? a = none := fun a ha => by
    cases q : hh.get? a with
    | none => rfl
    | some o' => exact absurd (Nat.lt_of_lt_of_le (Heap.lt_size q) ha) (Nat.lt_irrefl _)
  have gx : ((hh.push emptyDict).push (instObj C hh.objs.size)).get? (hh.objs.size + 1) = some (instObj C hh.objs.size) := by
    have := Heap.get?_push_size (hh.push emptyDict) (o := instObj C hh.objs.size) rfl
    rw [Heap.size_push] at this
    exact this
  have gd : ((hh.push emptyDict).push (instObj C hh.objs.size)).get? hh.objs.size = some (dictOf [] 0) := Heap.get?_push_of_some _ (Heap.get?_push_size _ rfl)
  have hpl : plainDfn initD [Str.ofString "self"] [Str.ofString "self"] = true := by decide +kernel
  refine codeG (prog := prog) (w := w) (d := 0) (D := initD) (fd := fd) (o := oI) (ps := [Str.ofString "self"]) (names := [Str.ofString "self"]) (args := [.ref (hh.objs.size + 1)]) (m0 := [(hh.objs.size + 1, .raw (instObj C hh.objs.size)), (hh.objs.size, .raw (dictOf [] 0))])
    (P := fun pv m => pv = .val .none ∧ ∃ u r es n, m = [(r, .lst []), (u, .lst []), (hh.objs.size + 1, .raw (instObj C hh.objs.size)), (hh.objs.size, .raw (dictOf es n))] ∧ Ents (entL u r) es)
    Z.toBs hd hall q1 q2 q3 q4 q5 q6 hpl rfl (len1 hbind) ?_ (h0 := hh) (s := ⟨(hh.push emptyDict).push (instObj C hh.objs.size), g, dd, t, os⟩) (Z.mono _ _ b sub) (okUnder ok) sub2 ⟨fun p hp => ?_, ?_⟩ ⟨rfl, trivial⟩ ?_
  · intro env he _
    have CC := he.ok hpl
    refine (init_body T CC (hh.objs.size + 1) hh.objs.size).mono ?_
    rintro _ σ' ⟨rfl, q⟩
    exact ⟨rfl, q⟩
  · rcases List.mem_cons.mp hp with rfl | hp
    · exact ⟨⟨gx, notHard_inst⟩, nn _ (Nat.le_succ _)⟩
    · obtain rfl := List.mem_singleton.mp hp
      exact ⟨⟨gd, notHard_dict'⟩, nn _ (Nat.le_refl _)⟩
  · show [hh.objs.size + 1, hh.objs.size].Nodup
    exact List.nodup_cons.mpr ⟨fun q => Nat.succ_ne_self _ (List.mem_singleton.mp q), List.nodup_cons.mpr ⟨(fun q => nomatch q), List.nodup_nil⟩⟩
  · rintro pv m1 v h' tk ⟨rfl, u, r, es, n, rfl, he⟩ hs hmm vr
    obtain rfl : v = .none := vr
    refine ⟨rfl, k (.ref (hh.objs.size + 1)) (entM C (hh.objs.size + 1) hh.objs.size u r es n [] []) (.ref (hh.objs.size + 1)) h' tk ⟨_, _, u, r, es, n, rfl, rfl, he⟩ (sub.trans hs) ⟨fun p hp => ?_, ?_⟩ rfl⟩
    · have hp2 := (hpr (hh.objs.size + 1) hh.objs.size u r es n).mem_iff.mpr hp
      refine ⟨(hmm.at_ p hp2).1, ?_⟩
      cases q : h0.get? p.1 with
      | none => rfl
      | some o => have := (hmm.at_ p hp2).2; have q' : hh.get? p.1 = some o := sub _ _ q; rw [q'] at this; cases this
    · exact ((hpr (hh.objs.size + 1) hh.objs.size u r es n).map (·.1)).nodup_iff.mp hmm.nd

theorem callWith_cls {A : Around} {E : Value → Shared → Prop} {s : Shared} {pos : Pos} {env : Env} {Q : Value → Shared → Prop} (Y : Makes (model prog w) s.heap C) (h : wpAny (model prog w) A (call (.ref C) []) Q E s) :
    wpAny (model prog w) A (callWith pos (.ref C) [] (backTo pos (starEach [] env)) []) Q E s := by
  unfold callWith
  refine wpAny_bind (wpAny_holding (evalArgsM (by rfl) (wpAny_items_nil (wpAny_bind (wpAny_standAt ?_)))))
  show wpAny _ _ (keeperOf (.ref C) >>= _) _ _ _
  refine wpAny_bind ?_
  obtain ⟨⟨oc, od, cd, sl, hC, -⟩, -, -, -, -, hcall, -⟩ := Y
  unfold keeperOf
  refine wpAny_bind (wpAny_load hC ?_)
  dsimp only
  refine wpAny_bind (hcall.here ?_)
  rw [if_pos (by decide)]
  refine wpAny_pure ?_
  exact wpAny_bind (wpAny_mono h (fun r s₂ hr => wpAny_bind (wpAny_holding (wpAny_point (wpAny_pure hr)))) fun _ _ x => x)

/-- Entry() -/
theorem EvM.newEntry {np pos : Pos} {P : PV → Ledger → Prop} (Z : Base B mg mb fa) (T : EntB B mg K C fI) (hd : 2 ≤ d) (CC : c.Ok) (hk : c.env.kindOf (Str.ofString "Entry") = some .globalImplicit)
    (h : ∀ x dx u r es n, Ents (entL u r) es → P (.ref x) (entM C x dx u r es n [] [] ++ σ.mem)) : EvM prog w B d c σ (.Call (.Name (Str.ofString "Entry") np) [] [] pos) P :=
  fun h0 A s Q E b ok R k => wpAny_Call_ofName ((EvE.glob Z.toBs CC hk T.name (by decide) : EvE prog w B d c σ (.Name (Str.ofString "Entry") np) (.val (.ref C))) h0 A s _ E b ok R fun v h1 t1 s1 r1 => by
    obtain rfl : v = .ref C := r1
    have R1 := R.sub s1
    refine callWith_cls (makes_of ((T.kin h0 b).keeps R1.keep) T.makes) ?_
    refine CallR.of (σ := σ) (m0 := []) (rest := σ.mem) (P := P) (pvs := []) Z.toBs ((entry_new_ok Z T).le hd) (List.Perm.refl _) (fun pv m1 ⟨x, dx, u, r, es, n, q1, q2, q3⟩ => by rw [q1, q2]; exact h x dx u r es n q3) h0 A _ [] Q E b ok R1 trivial fun pv m' v h' tk p hs R' vr => k pv m' v h' tk p (s1.hard.trans hs) R' vr)
end
end Mine

/-! ## P1 -/
namespace Mine
theorem clipN_nat (n d i : Nat) : clipN n d (some (i : Int)) = min i n := by
  show ((max 0 (min (if (i:Int) < 0 then (i:Int) + n else i) (n:Int))).toNat) = min i n
  rw [if_neg (Int.not_lt.mpr (Int.natCast_nonneg i))]
  rcases Nat.le_total i n with h | h
  · rw [Int.min_eq_left (Int.ofNat_le.mpr h), Nat.min_eq_left h, Int.max_eq_right (Int.natCast_nonneg _), Int.toNat_natCast]
  · rw [Int.min_eq_right (Int.ofNat_le.mpr h), Nat.min_eq_right h, Int.max_eq_right (Int.natCast_nonneg _), Int.toNat_natCast]
theorem pySl_nat {α : Type} (l : List α) (i j : Nat) (a b : Int) (ha : a = i) (hb : b = j) : pySl l (some a) (some b) = (l.drop i).take (j - i) := by
  subst ha; subst hb
  have e1 : clipN l.length 0 (some (i : Int)) = min i l.length := clipN_nat _ _ _
  have e2 : clipN l.length l.length (some (j : Int)) = min j l.length := clipN_nat _ _ _
  unfold pySl
  rw [e1, e2]
  by_cases h : i ≤ l.length
  · rw [Nat.min_eq_left h]
    by_cases h2 : j ≤ l.length
    · rw [Nat.min_eq_left h2]
    · rw [Nat.min_eq_right (a := j) (by lia)]
      rw [List.take_of_length_le (by simp), List.take_of_length_le (by simp; lia)]
  · rw [Nat.min_eq_right (a := i) (by lia), List.drop_length, List.drop_eq_nil_of_le (by lia)]; simp

noncomputable def cHeld : List Nat := [104, 101, 108, 100]
noncomputable def cFar : List Nat := [102, 97, 114]
noncomputable def cShut : List Nat := [115, 104, 117, 116]
noncomputable def cBare : List Nat := [98, 97, 114, 101]

/-- the pieces of a text -/
noncomputable def piecesF (l : List Nat) : List (List Nat) :=
  match l with
  | [] => []
  | ch :: r =>
    if ((ch :: r).take 6 == [40, 63, 62, 46, 42, 63]) then cHeld :: piecesF ((ch :: r).drop 6)
    else if ((ch :: r).take 3 == [46, 42, 63]) then cHeld :: piecesF ((ch :: r).drop 3)
    else if ((ch :: r).take 2 == [46, 42]) then cFar :: piecesF ((ch :: r).drop 2)
    else if ([ch] == [41]) then cShut :: piecesF r
    else if ([ch] == [92]) then r.take 1 :: piecesF ((ch :: r).drop 2)
    else if ([ch] == [91]) then r.take 1 :: piecesF ((ch :: r).drop 3)
    else (if decide (ch ∈ [97, 98]) then [ch] else cBare) :: piecesF r
termination_by l.length
decreasing_by all_goals simp_wf <;> lia

section
variable {prog : Program} {w : World} {B : Heap → Prop} {mg mb : Str → Option Value} {fa : Nat → Addr}

theorem law_pieces_ok (Z : Base B mg mb fa) (text : List Nat) (hl : text.length ≤ 1000000) :
    FnOk prog w B 1 (.ref (fa 22)) [.str text] [] (fun pv m => ∃ a, pv = .ref a ∧ m = [(a, .lst ((piecesF text).map .str))]) := by
  have hpl : plainDfn (dfn 22) (["text"].map Str.ofString) (["text","pieces","i"].map Str.ofString) = true := by decide +kernel
  refine FnOk.def_ Z.toBs (Z.defs 22 (by decide)).2 hpl rfl (fun pm cd doc => len1 fun _ => rfl) fun env he => ?_
  have C := he.ok hpl
  refine ExSs.genP fun Q0 hQ0 => ?_
  refine ExSs.letNil 1 C rfl rfl fun a => ?_
  refine ExSs.let_ 2 C rfl rfl (EvE.int (i := (0 : Nat))) rfl ?_
  refine ExSs.while_ (fun n σ' => ∃ (i : Nat) (acc : List (List Nat)), σ' = ⟨[.str text, .ref a, .int i], [(a, .lst (acc.map .str))]⟩ ∧ acc.length ≤ i ∧ i ≤ text.length + 6 ∧ acc ++ piecesF (text.drop i) = piecesF text ∧ n = text.length + 6 - i) (text.length + 6)
    ⟨0, [], rfl, Nat.le_refl _, Nat.zero_le _, rfl, rfl⟩ ?_
  rintro n _ ⟨i, acc, rfl, hacc, hi6, hR, rfl⟩
  refine ⟨decide ((i : Int) < (text.length : Nat)), EvB.cmp (EvE.var 2 C rfl rfl) (EvE.len Z C (kind_of he (by decide +kernel)) (EvE.var 0 C rfl rfl) (CallP.lenS (by lia))) CmpR.lt, fun hb => ?_, fun hb => ?_⟩
  · have hi : i < text.length := by simpa using hb
    obtain ⟨ch, r, hd⟩ : ∃ ch r, text.drop i = ch :: r := by
      rw [List.drop_eq_getElem_cons hi]; exact ⟨_, _, rfl⟩
    have hch : text[i]? = some ch := by
      have := congrArg (·[0]?) hd
      simpa using this
    have hdk : ∀ k, text.drop (i + k) = (ch :: r).drop k := fun k => by rw [← hd, List.drop_drop]
    rw [hd, piecesF] at hR
    refine ExSs.genP fun Q hQ => ?_
    refine ExSs.ifL (EvB.cmp ((EvE.slice (EvE.var 0 C rfl rfl) (l := some (i : Int)) (u := some ((i : Int) + 6)) (EvP.s (EvE.var 2 C rfl rfl)) (EvP.s (EvE.bin (EvE.var 2 C rfl rfl) EvE.int BinR.add)) (by lia)).eq (b' := .str ((ch :: r).take 6)) (by rw [pySl_nat text i (i + 6) _ _ rfl (by simp), hd]; simp)) (EvE.strL [40, 63, 62, 46, 42, 63]) CmpR.eqS) (fun hc => ?_) (fun hc => ?_)
    · rw [if_pos hc] at hR
      refine ExSs.append (EvE.var 1 C rfl rfl) (pv := .str (cHeld)) (EvE.strL cHeld) .head (by simp; lia) ?_
      refine ExSs.aug 2 C rfl rfl rfl (by nofun) EvE.int InpR.add (ExSs.nil (hQ .next _ ?_))
      exact ⟨text.length + 6 - (i + 6), by lia, i + 6, acc ++ [cHeld], by simp, by simp; lia, by lia, by rw [hdk]; simpa using hR, rfl⟩
    · rw [if_neg (by rw [hc]; decide)] at hR
      refine ExSs.ifL (EvB.cmp ((EvE.slice (EvE.var 0 C rfl rfl) (l := some (i : Int)) (u := some ((i : Int) + 3)) (EvP.s (EvE.var 2 C rfl rfl)) (EvP.s (EvE.bin (EvE.var 2 C rfl rfl) EvE.int BinR.add)) (by lia)).eq (b' := .str ((ch :: r).take 3)) (by rw [pySl_nat text i (i + 3) _ _ rfl (by simp), hd]; simp)) (EvE.strL [46, 42, 63]) CmpR.eqS) (fun hc => ?_) (fun hc => ?_)
      · rw [if_pos hc] at hR
        refine ExSs.append (EvE.var 1 C rfl rfl) (pv := .str (cHeld)) (EvE.strL cHeld) .head (by simp; lia) ?_
        refine ExSs.aug 2 C rfl rfl rfl (by nofun) EvE.int InpR.add (ExSs.nil (hQ .next _ ?_))
        exact ⟨text.length + 6 - (i + 3), by lia, i + 3, acc ++ [cHeld], by simp, by simp; lia, by lia, by rw [hdk]; simpa using hR, rfl⟩
      · rw [if_neg (by rw [hc]; decide)] at hR
        refine ExSs.ifL (EvB.cmp ((EvE.slice (EvE.var 0 C rfl rfl) (l := some (i : Int)) (u := some ((i : Int) + 2)) (EvP.s (EvE.var 2 C rfl rfl)) (EvP.s (EvE.bin (EvE.var 2 C rfl rfl) EvE.int BinR.add)) (by lia)).eq (b' := .str ((ch :: r).take 2)) (by rw [pySl_nat text i (i + 2) _ _ rfl (by simp), hd]; simp)) (EvE.strL [46, 42]) CmpR.eqS) (fun hc => ?_) (fun hc => ?_)
        · rw [if_pos hc] at hR
          refine ExSs.append (EvE.var 1 C rfl rfl) (pv := .str (cFar)) (EvE.strL cFar) .head (by simp; lia) ?_
          refine ExSs.aug 2 C rfl rfl rfl (by nofun) EvE.int InpR.add (ExSs.nil (hQ .next _ ?_))
          exact ⟨text.length + 6 - (i + 2), by lia, i + 2, acc ++ [cFar], by simp, by simp; lia, by lia, by rw [hdk]; simpa using hR, rfl⟩
        · rw [if_neg (by rw [hc]; decide)] at hR
          refine ExSs.ifL (EvB.cmp (EvE.idxS (EvE.var 0 C rfl rfl) (EvE.var 2 C rfl rfl) (by lia) (by lia) (ch := ch) (by simpa using hch)) (EvE.strL [41]) CmpR.eqS) (fun hc => ?_) (fun hc => ?_)
          · rw [if_pos hc] at hR
            refine ExSs.append (EvE.var 1 C rfl rfl) (pv := .str (cShut)) (EvE.strL cShut) .head (by simp; lia) ?_
            refine ExSs.aug 2 C rfl rfl rfl (by nofun) EvE.int InpR.add (ExSs.nil (hQ .next _ ?_))
            exact ⟨text.length + 6 - (i + 1), by lia, i + 1, acc ++ [cShut], by simp, by simp; lia, by lia, by rw [hdk]; simpa using hR, rfl⟩
          · rw [if_neg (by rw [hc]; decide)] at hR
            refine ExSs.ifL (EvB.cmp (EvE.idxS (EvE.var 0 C rfl rfl) (EvE.var 2 C rfl rfl) (by lia) (by lia) (ch := ch) (by simpa using hch)) (EvE.strL [92]) CmpR.eqS) (fun hc => ?_) (fun hc => ?_)
            · rw [if_pos hc] at hR
              refine ExSs.append (EvE.var 1 C rfl rfl) (pv := .str (r.take 1)) ((EvE.slice (EvE.var 0 C rfl rfl) (l := some ((i : Int) + 1)) (u := some ((i : Int) + 2)) (EvP.s (EvE.bin (EvE.var 2 C rfl rfl) EvE.int BinR.add)) (EvP.s (EvE.bin (EvE.var 2 C rfl rfl) EvE.int BinR.add)) (by lia)).eq (b' := .str (r.take 1)) (by rw [pySl_nat text (i + 1) (i + 2) _ _ (by simp) (by simp), hdk]; simp)) .head (by simp; lia) ?_
              refine ExSs.aug 2 C rfl rfl rfl (by nofun) EvE.int InpR.add (ExSs.nil (hQ .next _ ?_))
              exact ⟨text.length + 6 - (i + 2), by lia, i + 2, acc ++ [r.take 1], by simp, by simp; lia, by lia, by rw [hdk]; simpa using hR, rfl⟩
            · rw [if_neg (by rw [hc]; decide)] at hR
              refine ExSs.ifL (EvB.cmp (EvE.idxS (EvE.var 0 C rfl rfl) (EvE.var 2 C rfl rfl) (by lia) (by lia) (ch := ch) (by simpa using hch)) (EvE.strL [91]) CmpR.eqS) (fun hc => ?_) (fun hc => ?_)
              · rw [if_pos hc] at hR
                refine ExSs.append (EvE.var 1 C rfl rfl) (pv := .str (r.take 1)) ((EvE.slice (EvE.var 0 C rfl rfl) (l := some ((i : Int) + 1)) (u := some ((i : Int) + 2)) (EvP.s (EvE.bin (EvE.var 2 C rfl rfl) EvE.int BinR.add)) (EvP.s (EvE.bin (EvE.var 2 C rfl rfl) EvE.int BinR.add)) (by lia)).eq (b' := .str (r.take 1)) (by rw [pySl_nat text (i + 1) (i + 2) _ _ (by simp) (by simp), hdk]; simp)) .head (by simp; lia) ?_
                refine ExSs.aug 2 C rfl rfl rfl (by nofun) EvE.int InpR.add (ExSs.nil (hQ .next _ ?_))
                exact ⟨text.length + 6 - (i + 3), by lia, i + 3, acc ++ [r.take 1], by simp, by simp; lia, by lia, by rw [hdk]; simpa using hR, rfl⟩
              · rw [if_neg (by rw [hc]; decide)] at hR
                refine ExSs.append (EvE.var 1 C rfl rfl) (pv := .str (if decide (ch ∈ [97, 98]) then [ch] else cBare)) ((EvE.ite (EvB.cmp (EvE.idxS (EvE.var 0 C rfl rfl) (EvE.var 2 C rfl rfl) (by lia) (by lia) (ch := ch) (by simpa using hch)) (EvE.strL [97, 98]) CmpR.inS) (fun _ => EvE.idxS (EvE.var 0 C rfl rfl) (EvE.var 2 C rfl rfl) (by lia) (by lia) (ch := ch) (by simpa using hch)) (fun _ => EvE.strL cBare)).eq (by split <;> rfl)) .head (by simp; lia) ?_
                refine ExSs.aug 2 C rfl rfl rfl (by nofun) EvE.int InpR.add (ExSs.nil (hQ .next _ ?_))
                exact ⟨text.length + 6 - (i + 1), by lia, i + 1, acc ++ [if decide (ch ∈ [97, 98]) then [ch] else cBare], by simp, by simp; lia, by lia, by rw [hdk]; simpa using hR, rfl⟩
  · have hi : ¬ i < text.length := by simpa using hb
    rw [List.drop_eq_nil_of_le (by lia), piecesF, List.append_nil] at hR
    exact ExSs.retE (EvE.var 1 C rfl rfl) (hQ0 (.ret _) _ ⟨a, rfl, by rw [hR]⟩)
end
end Mine

/-! ## P2 -/
namespace Mine
noncomputable abbrev Sg := List Nat
noncomputable def cPlain : Sg := [112, 108, 97, 105, 110]

noncomputable def runsStep (st : List (Sg × Sg) × (Sg × Sg)) (piece : Sg) : List (Sg × Sg) × (Sg × Sg) :=
  if (piece == cHeld || piece == cFar) then (st.1 ++ [st.2], (piece, []))
  else if (piece == cShut) then (st.1 ++ [st.2], (cPlain, []))
  else (st.1, (st.2.1, st.2.2 ++ piece))
noncomputable def runsF (ps : List Sg) : List (Sg × Sg) :=
  let st := ps.foldl runsStep ([], (cPlain, []))
  st.1 ++ [st.2]
noncomputable def placeF (name k s : Sg) (at_ : Nat) : Int :=
  if k == cHeld then optI (occF name s at_).head? else if k == cFar then optI (occF name s at_).getLast? else if (name.drop at_).take s.length == s then (at_ : Int) else -1
noncomputable def walkF (name : Sg) : List (Sg × Sg) → Nat → Int
  | [], at_ => at_
  | (k, s) :: r, at_ => if placeF name k s at_ < 0 then -1 else walkF name r ((placeF name k s at_).toNat + s.length)

section
variable {prog : Program} {w : World} {B : Heap → Prop} {mg mb : Str → Option Value} {fa : Nat → Addr} {d : Nat} {c : Cx} {σ : St}

theorem ExSs.perm {ts : List Stmt} {P : FL → St → Prop} {m' : Ledger} (hp : m'.Perm σ.mem) (h : ExSs prog w B d c ⟨σ.vars, m'⟩ ts P) : ExSs prog w B d c σ ts P :=
  ExSs.less h (fun p hp' => hp.subset hp') (fun nd => (hp.map _).nodup_iff.mpr nd) fun _ _ e => .inr e

theorem occF_le (s sub : Sg) (lo i : Nat) (h : i ∈ occF s sub lo) : lo ≤ i ∧ i + sub.length ≤ s.length := by
  unfold occF at h
  rw [List.mem_filter, List.mem_range'_1] at h
  unfold atF at h
  simp only [Bool.and_eq_true, decide_eq_true_eq] at h
  exact ⟨h.1.1, h.2.1⟩
theorem placeF_le (name k s : Sg) (at_ : Nat) (ha : at_ ≤ name.length) (h : ¬ placeF name k s at_ < 0) : (placeF name k s at_).toNat + s.length ≤ name.length := by
  unfold placeF at *
  split at h
  · rename_i h1
    rw [if_pos h1]
    cases e : (occF name s at_).head? with
    | none => rw [e] at h; exact absurd (by decide) h
    | some i => exact (occF_le _ _ _ _ (List.mem_of_head? e)).2
  · rename_i h1
    rw [if_neg h1]
    split at h
    · rename_i h2
      rw [if_pos h2]
      cases e : (occF name s at_).getLast? with
      | none => rw [e] at h; exact absurd (by decide) h
      | some i => exact (occF_le _ _ _ _ (List.mem_of_getLast? e)).2
    · rename_i h2
      rw [if_neg h2]
      split at h
      · rename_i h3
        rw [if_pos h3]
        have := congrArg List.length (eq_of_beq h3)
        simp only [List.length_take, List.length_drop] at this
        simp only [Int.toNat_natCast]; lia
      · exact absurd (by decide) h

noncomputable abbrev cellW (x : Addr × Sg × Sg) : Addr × MO := (x.1, .lst [.str x.2.1, .str x.2.2])
noncomputable abbrev refW (x : Addr × Sg × Sg) : PV := .ref x.1

theorem law_walk_ok (Z : Base B mg mb fa) (ap : Addr) (ps : List Sg) (name : Sg) (hl : name.length ≤ 1000000) (hn : ps.length ≤ 100000) (hps : ∀ p ∈ ps, p.length ≤ 4) :
    FnOk prog w B 1 (.ref (fa 23)) [.ref ap, .str name] [(ap, .lst (ps.map .str))] (fun pv m => pv = .int (walkF name (runsF ps) 0) ∧ (ap, .lst (ps.map .str)) ∈ m) := by
  have hpl : plainDfn (dfn 23) (["pieces","name"].map Str.ofString) (["pieces","name","runs","piece","at","kind","signs","place"].map Str.ofString) = true := by decide +kernel
  refine FnOk.def_ Z.toBs (Z.defs 23 (by decide)).2 hpl rfl (fun pm cd doc => len2 fun _ _ => rfl) fun env he => ?_
  have C := he.ok hpl
  refine ExSs.genP fun Q0 hQ0 => ?_
  refine ExSs.letM (P1 := fun pv m => ∃ ar a0, pv = .ref ar ∧ m = [(ar, .lst [.ref a0]), (a0, .lst [.str cPlain, .str []]), (ap, .lst (ps.map .str))]) 2 C rfl rfl
    (EvM.list (Pa := fun pvs m => ∃ a0, pvs = [.ref a0] ∧ m = [(a0, .lst [.str cPlain, .str []]), (ap, .lst (ps.map .str))])
      (EvMs.cons (P1 := fun pv m => ∃ a0, pv = .ref a0 ∧ m = [(a0, .lst [.str cPlain, .str []]), (ap, .lst (ps.map .str))]) (EvM.listE (EvAs.cons (EvE.strL cPlain) (EvAs.one (EvE.strL []))) (Nat.le_of_ble_eq_true rfl) fun a => ⟨a, rfl, rfl⟩)
        (fun pv m ⟨a0, q1, q2⟩ => EvMs.nil ⟨a0, by rw [q1], q2⟩)) (fun pvs m ⟨a0, q1, q2⟩ => by rw [q1]; exact Nat.le_of_ble_eq_true rfl) fun pvs m a ⟨a0, q1, q2⟩ => ⟨a, a0, rfl, by rw [q1, q2]⟩) rfl ?_
  rintro _ _ ⟨ar, a0, rfl, rfl⟩
  -- the runs
  refine ExSs.forCore (n := (ps.map PV.str).length) Z.toBs (IterR.list (m' := [(a0, .lst [.str cPlain, .str []]), (ar, .lst [.ref a0])]) (EvE.var 0 C rfl rfl) (by
      refine List.Perm.trans (List.Perm.cons _ (List.Perm.swap _ _ _)) ?_
      exact (List.perm_append_comm (l₁ := [(ap, MO.lst (ps.map PV.str))]) (l₂ := [(ar, MO.lst [.ref a0]), (a0, .lst [.str cPlain, .str []])]))))
    (fun i σ' => ∃ (rl : List (Addr × Sg × Sg)) (x : Addr × Sg × Sg) (p3 : PV), σ' = ⟨[.ref ap, .str name, .ref ar, p3, .undef, .undef, .undef, .undef], (x :: rl).map cellW ++ [(ar, .lst ((x :: rl).reverse.map refW))]⟩ ∧
      (rl.reverse.map (·.2), x.2) = (ps.take i).foldl runsStep ([], (cPlain, [])) ∧ x.2.2.length ≤ 4 * i ∧ rl.length ≤ i ∧ (∀ y ∈ rl, y.2.2.length ≤ 500000)) ⟨[], (a0, cPlain, []), .undef, rfl, rfl, by simp, Nat.zero_le _, by simp⟩ ?_ ?_
  · rintro i _ hi ⟨rl, x, p3, rfl, hR, hx4, hrl, hyl⟩
    refine ⟨_, AsgR.name 3 C rfl rfl, ExSs.genP fun Q hQ => ?_⟩
    have hi' : i < ps.length := by simpa using hi
    have hget : (ps.map PV.str).getD i .undef = .str ps[i] := by
      rw [List.getD_eq_getElem?_getD, List.getElem?_map, List.getElem?_eq_getElem hi']; rfl
    rw [hget]
    have hp4 : ps[i].length ≤ 4 := hps _ (List.getElem_mem hi')
    have htake : (ps.take (i + 1)).foldl runsStep ([], (cPlain, [])) = runsStep (rl.reverse.map (·.2), x.2) ps[i] := by
      rw [List.take_add_one, List.foldl_append, List.getElem?_eq_getElem hi', ← hR]; rfl
    have hlr : ((x :: rl).reverse.map refW).length ≤ 200000 := by simp; lia
    -- a new run
    have app : ∀ (k : Sg), (k = ps[i] → True) → runsStep (rl.reverse.map (·.2), x.2) ps[i] = (rl.reverse.map (·.2) ++ [x.2], (k, [])) → ∀ (a : Addr), ∃ xs m', Put ar (.lst xs) (.lst (xs ++ [.ref a])) ((a, .lst [.str k, .str []]) :: ((x :: rl).map cellW ++ [(ar, .lst ((x :: rl).reverse.map refW))])) m' ∧ xs.length < 16777216 ∧
        ExSs prog w B 0 ⟨env, ["pieces","name","runs","piece","at","kind","signs","place"].map Str.ofString, true⟩ ⟨[.ref ap, .str name, .ref ar, .str ps[i], .undef, .undef, .undef, .undef], m'⟩ [] Q := by
      intro k _ hk a
      refine ⟨(x :: rl).reverse.map refW, _, .tail (Put.app .head _), by lia, ExSs.nil (hQ .next _ ⟨x :: rl, (a, k, []), .str ps[i], ?_, ?_, by simp, by simp; lia, fun y hy => by rcases List.mem_cons.mp hy with rfl | hy; (· lia); exact hyl y hy⟩)⟩
      · simp
      · rw [htake, hk]; simp
    have ml : (ar, MO.lst ((x :: rl).reverse.map refW)) ∈ (x :: rl).map cellW ++ [(ar, .lst ((x :: rl).reverse.map refW))] := List.mem_append_right _ (.head _)
    refine ExSs.ifL (EvB.inTup2 (EvE.var 3 C rfl rfl) (EvE.strL cHeld) (EvE.strL cFar)) (fun hc => ?_) (fun hc => ?_)
    · refine ExSs.appendM (EvE.var 2 C rfl rfl) ml (P1 := fun pv m => ∃ a, pv = .ref a ∧ m = (a, .lst [.str ps[i], .str []]) :: ((x :: rl).map cellW ++ [(ar, .lst ((x :: rl).reverse.map refW))]))
        (EvM.listE (EvAs.cons (EvE.var 3 C rfl rfl) (EvAs.one (EvE.strL []))) (Nat.le_of_ble_eq_true rfl) fun a => ⟨a, rfl, rfl⟩) ?_
      rintro _ _ ⟨a, rfl, rfl⟩
      exact app ps[i] (fun _ => trivial) (by unfold runsStep; rw [if_pos hc]) a
    · refine ExSs.ifL (EvB.cmp (EvE.var 3 C rfl rfl) (EvE.strL cShut) CmpR.eqS) (fun hc2 => ?_) (fun hc2 => ?_)
      · refine ExSs.appendM (EvE.var 2 C rfl rfl) ml (P1 := fun pv m => ∃ a, pv = .ref a ∧ m = (a, .lst [.str cPlain, .str []]) :: ((x :: rl).map cellW ++ [(ar, .lst ((x :: rl).reverse.map refW))]))
          (EvM.listE (EvAs.cons (EvE.strL cPlain) (EvAs.one (EvE.strL []))) (Nat.le_of_ble_eq_true rfl) fun a => ⟨a, rfl, rfl⟩) ?_
        rintro _ _ ⟨a, rfl, rfl⟩
        exact app cPlain (fun _ => trivial) (by unfold runsStep; rw [if_neg (by rw [hc]; decide), if_pos hc2]) a
      · have hlen : ((x :: rl).reverse.map refW).length = rl.length + 1 := by simp
        have hlast : ((x :: rl).reverse.map refW)[((-1 : Int) + (((x :: rl).reverse.map refW).length : Nat)).toNat]? = some (.ref x.1) := by
          have e : ((-1 : Int) + (((x :: rl).reverse.map refW).length : Nat)).toNat = rl.length := by rw [hlen]; lia
          rw [e]; simp [List.getElem?_append_right]
        refine ExSs.augIdx (a := x.1) (xs := [.str x.2.1, .str x.2.2]) (k := 1) (EvE.idxNeg (pv := .ref x.1) (EvE.var 2 C rfl rfl) ml (EvE.neg EvE.int) (by decide) (by rw [hlen]; lia) (by decide) hlast) EvE.int (by decide) rfl (EvE.var 3 C rfl rfl) (InpR.addS (by lia)) (by simp) .head (ExSs.nil (hQ .next _ ?_))
        refine ⟨rl, (x.1, x.2.1, x.2.2 ++ ps[i]), .str ps[i], ?_, ?_, by simp; lia, by lia, hyl⟩
        · simp
        · rw [htake]; unfold runsStep; rw [if_neg (by rw [hc]; decide), if_neg (by rw [hc2]; decide)]
  · rintro _ ⟨rl, x, p3, rfl, hR, hx4, hrl, hyl0⟩
    rw [List.length_map] at hrl hR hx4
    have hyl : ∀ y ∈ x :: rl, y.2.2.length ≤ 500000 := fun y hy => by rcases List.mem_cons.mp hy with rfl | hy; (· lia); exact hyl0 y hy
    rw [List.take_length] at hR
    refine ExSs.let_ 4 C rfl rfl (EvE.int (i := (0 : Nat))) rfl ?_
    have hruns : runsF ps = (x :: rl).reverse.map (·.2) := by
      unfold runsF; rw [← hR]; simp
    refine ExSs.forCore (n := ((x :: rl).reverse.map refW).length) Z.toBs (IterR.list (xs := (x :: rl).reverse.map refW) (m' := (ap, .lst (ps.map .str)) :: (x :: rl).map cellW) (EvE.var 2 C rfl rfl) (by
        refine List.Perm.trans (List.Perm.swap _ _ _) (List.Perm.cons _ ?_)
        exact (List.perm_append_comm (l₁ := [(ar, MO.lst ((x :: rl).reverse.map refW))]) (l₂ := (x :: rl).map cellW))))
      (fun i σ' => ∃ (k : Nat) (p5 p6 p7 : PV), σ' = ⟨[.ref ap, .str name, .ref ar, p3, .int k, p5, p6, p7], (ap, .lst (ps.map .str)) :: (x :: rl).map cellW⟩ ∧ k ≤ name.length ∧ walkF name (((x :: rl).reverse.map (·.2)).drop i) k = walkF name (runsF ps) 0)
      ⟨0, .undef, .undef, .undef, rfl, Nat.zero_le _, by rw [hruns]; rfl⟩ ?_ ?_
    · rintro i _ hi ⟨k, p5, p6, p7, rfl, hk, hR2⟩
      have hi' : i < (x :: rl).reverse.length := by simpa using hi
      obtain ⟨y, hy⟩ : ∃ y, (x :: rl).reverse[i]? = some y := ⟨_, List.getElem?_eq_getElem hi'⟩
      have hget : ((x :: rl).reverse.map refW).getD i .undef = .ref y.1 := by
        rw [List.getD_eq_getElem?_getD, List.getElem?_map, hy]; rfl
      rw [hget]
      have hmy : y ∈ x :: rl := List.mem_reverse.mp (List.mem_of_getElem? hy)
      refine ⟨_, AsgR.two (p := .str y.2.1) (q := .str y.2.2) 5 6 C rfl rfl rfl (.tail _ (List.mem_map_of_mem (f := cellW) hmy)), ExSs.genP fun R hR => ?_⟩
      have hdrop : ((x :: rl).reverse.map (·.2)).drop i = y.2 :: ((x :: rl).reverse.map (·.2)).drop (i + 1) := by
        rw [List.drop_eq_getElem_cons (by simpa using hi')]
        congr 1
        have := List.getElem?_eq_getElem hi'
        rw [this] at hy
        simp only [List.getElem_map]
        exact congrArg _ (Option.some.inj hy)
      rw [hdrop, walkF] at hR2
      -- the rest of a turn
      have hsl : y.2.2.length ≤ 500000 := hyl y hmy
      have rest : ExSs prog w B 0 ⟨env, ["pieces","name","runs","piece","at","kind","signs","place"].map Str.ofString, true⟩ ⟨[.ref ap, .str name, .ref ar, p3, .int k, .str y.2.1, .str y.2.2, .int (placeF name y.2.1 y.2.2 k)], (ap, .lst (ps.map .str)) :: (x :: rl).map cellW⟩
          (bodyAt 23 3 |>.drop 1) R := by
        refine ExSs.ite (b := decide (placeF name y.2.1 y.2.2 k < 0)) (EvB.cmp (EvE.var 7 C rfl rfl) EvE.int CmpR.lt) (fun hc => ?_) (fun hc => ExSs.nil ?_)
        · rw [if_pos (by simpa using hc)] at hR2
          exact ExSs.retE (EvE.neg EvE.int) (hR (.ret _) _ (hQ0 (.ret _) _ ⟨by rw [← hR2], .tail _ (.head _)⟩))
        · have hc' : ¬ placeF name y.2.1 y.2.2 k < 0 := by simpa using hc
          rw [if_neg hc'] at hR2
          have hle := placeF_le name y.2.1 y.2.2 k hk hc'
          refine ExSs.let_ 4 C rfl rfl (EvE.bin (EvE.var 7 C rfl rfl) (EvE.len Z C (kind_of he (by decide +kernel)) (EvE.var 6 C rfl rfl) (CallP.lenS (by lia))) BinR.add) rfl (ExSs.nil (hR .next _ ?_))
          refine ⟨(placeF name y.2.1 y.2.2 k).toNat + y.2.2.length, .str y.2.1, .str y.2.2, .int (placeF name y.2.1 y.2.2 k), ?_, hle, hR2⟩
          have : ((((placeF name y.2.1 y.2.2 k).toNat + y.2.2.length : Nat)) : Int) = placeF name y.2.1 y.2.2 k + (y.2.2.length : Nat) := by push_cast; lia
          rw [this]; rfl
      refine ExSs.ite (EvB.cmp (EvE.var 5 C rfl rfl) (EvE.strL cHeld) CmpR.eqS) (fun hc => ?_) (fun hc => ?_)
      · refine ExSs.let_ 7 C rfl rfl (EvE.meth (EvE.var 1 C rfl rfl) RecvT.str F.plainAttrs_str F.slot_str_find F.type_str_find (EvAs.cons (EvE.var 6 C rfl rfl) (EvAs.one (EvE.var 4 C rfl rfl))) CallP.find) rfl (ExSs.nil ?_)
        have : placeF name y.2.1 y.2.2 k = optI (occF name y.2.2 k).head? := by unfold placeF; rw [if_pos hc]
        rw [this] at rest
        exact rest
      · refine ExSs.ifL (EvB.cmp (EvE.var 5 C rfl rfl) (EvE.strL cFar) CmpR.eqS) (fun hc2 => ?_) (fun hc2 => ?_)
        · refine ExSs.let_ 7 C rfl rfl (EvE.meth (EvE.var 1 C rfl rfl) RecvT.str F.plainAttrs_str F.slot_str_rfind F.type_str_rfind (EvAs.cons (EvE.var 6 C rfl rfl) (EvAs.one (EvE.var 4 C rfl rfl))) CallP.rfind) rfl (ExSs.nil ?_)
          have : placeF name y.2.1 y.2.2 k = optI (occF name y.2.2 k).getLast? := by unfold placeF; rw [if_neg (by rw [hc]; decide), if_pos hc2]
          rw [this] at rest
          exact rest
        · refine ExSs.let_ 7 C rfl rfl ((EvE.ite (b := (name.drop k).take y.2.2.length == y.2.2) (p := .int k) (q := .int (-1)) (EvB.cmp ((EvE.slice (EvE.var 1 C rfl rfl) (l := some (k : Int)) (u := some ((k : Int) + (y.2.2.length : Nat))) (EvP.s (EvE.var 4 C rfl rfl)) (EvP.s (EvE.bin (EvE.var 4 C rfl rfl) (EvE.len Z C (kind_of he (by decide +kernel)) (EvE.var 6 C rfl rfl) (CallP.lenS (by lia))) BinR.add)) (by lia)).eq (b' := .str ((name.drop k).take y.2.2.length)) (by rw [pySl_nat name k (k + y.2.2.length) _ _ rfl (by simp)]; simp)) (EvE.var 6 C rfl rfl) CmpR.eqS) (fun _ => EvE.var 4 C rfl rfl) (fun _ => EvE.neg EvE.int)).eq (b' := .int (placeF name y.2.1 y.2.2 k)) (by
            have n1 : ¬ (y.2.1 == cHeld) = true := by rw [hc]; decide
            have n2 : ¬ (y.2.1 == cFar) = true := by rw [hc2]; decide
            rw [placeF, if_neg n1, if_neg n2]; split <;> rfl)) rfl (ExSs.nil rest)
    · rintro _ ⟨k, p5, p6, p7, rfl, hk, hR2⟩
      rw [List.drop_eq_nil_of_le (by simp), walkF] at hR2
      exact ExSs.retE (EvE.var 4 C rfl rfl) (hQ0 (.ret _) _ ⟨by rw [hR2], .tail _ (.head _)⟩)
end
end Mine

/-! ## W31 -/
namespace Mine
section
variable {prog : Program} {w : World} {B : Heap → Prop} {mg mb : Str → Option Value} {fa : Nat → Addr} {d : Nat} {c : Cx} {σ : St}

/-- a def called on made things -/
theorem EvM.callFM {x : Str} {np pos : Pos} {es : List Expr} {Pa : List PV → Ledger → Prop} {P : PV → Ledger → Prop} (n : Nat) (Z : Base B mg mb fa) (C : c.Ok) (hn : n ∈ defIdx) (hx : (dfn n).name = x) (hk : c.env.kindOf x = some .globalImplicit)
    (ha : EvMs prog w B d c σ es Pa) (hf : ∀ pvs m, Pa pvs m → ∃ m0 rest P0, FnOk prog w B d (.ref (fa n)) pvs m0 P0 ∧ (m0 ++ rest).Perm m ∧ ∀ pv m1, P0 pv m1 → P pv (m1 ++ rest))
    (hp : ∀ pos env, (backTo pos (starEach es env)).any (·.1) = false := by intro _ _; rfl) (hdb : (x == ("__debug__" : Str)) = false := by decide) : EvM prog w B d c σ (.Call (.Name x np) es [] pos) P :=
  EvM.call Z.toBs (EvE.fn Z n C hn hx hk hdb) (Z.callee n hn) ha (fun pvs m q => let ⟨m0, rest, P0, hf, hperm, h⟩ := hf pvs m q; CallR.of (σ := ⟨σ.vars, m⟩) Z.toBs hf hperm h) hp

theorem EvMs.one {e : Expr} {P1 : PV → Ledger → Prop} (he : EvM prog w B d c σ e P1) (hs : ∀ env, starEach [e] env = (false, eval e env) :: starEach [] env := by intro _; rfl) : EvMs prog w B d c σ [e] (fun pvs m => ∃ pv, P1 pv m ∧ pvs = [pv]) :=
  EvMs.cons he (fun pv m q => EvMs.nil ⟨pv, q, rfl⟩) hs
/-- for … in (a, b) -/
theorem IterR.tup2 {target e1 e2 : Expr} {k : Nat} {p : Pos} {a b : PV} (h1 : EvE prog w B d c σ e1 a) (h2 : EvE prog w B d c σ e2 b)
    (hs1 : ∀ env, starEach [e1, e2] env = [(false, eval e1 env), (false, eval e2 env)] := by intro _; rfl) : IterR prog w B d c σ target (.Tuple [e1, e2] k p) σ [] 2 (fun i => [a, b].getD i .undef) :=
  fun h0 A s Q E bb ok R q => wpAny_Tuple (by
    rw [hs1]
    refine Calls.spliced_cons (h1 h0 A s _ E bb ok R fun v1 g1 t1 s1 r1 => ?_)
    refine Calls.spliced_cons (h2 h0 A _ _ E bb ok (R.sub s1) fun v2 g2 t2 s2 r2 => ?_)
    refine Calls.spliced_nil ⟨by show 2 ≤ 2 ^ 24; decide, ?_⟩
    have s3 : Sub g2 (g2.push (tupO #[v1, v2] 0)) := Sub.push _ _
    have R3 := ((R.sub s1).sub s2).sub s3
    have gT : (g2.push (tupO #[v1, v2] 0)).get? g2.objs.size = some (tupO #[v1, v2] 0) := Heap.get?_push_size _ rfl
    have hT : (g2.push (tupO #[v1, v2] 0)).IsTuple g2.objs.size #[v1, v2] := ⟨_, gT, rfl, 0, rfl⟩
    have z : (g2.push (tupO #[v1, v2] 0)).objs.size = g2.objs.size + 1 := Heap.size_push _ _
    refine wpAny_pyIter_tuple (s := { s with heap := g2.push (tupO #[v1, v2] 0), toks := t2 }) hT ?_
    have s4 : Sub (g2.push (tupO #[v1, v2] 0)) ((g2.push (tupO #[v1, v2] 0)).push { cls := .type "tuple_iterator", data := .fields #[.ref g2.objs.size, .int 0 0] }) := Sub.push _ _
    have hne : (g2.objs.size : Nat) ≠ (g2.push (tupO #[v1, v2] 0)).objs.size := by rw [z]; exact Nat.ne_of_lt (Nat.lt_succ_self _)
    have W := Walks.tuple (prog := prog) (w := w) (A := A) ok.1 (g2.push (tupO #[v1, v2] 0)).objs.size g2.objs.size hne #[v1, v2]
    have new : ∀ b : Nat, g2.objs.size ≤ b → s.heap.get? b = none := fun b hb => by
      cases q : s.heap.get? b with
      | none => rfl
      | some o => exact absurd (Nat.lt_of_lt_of_le (Heap.lt_size ((s1.trans s2) _ _ q)) hb) (Nat.lt_irrefl _)
    have newR : ∀ b : Nat, g2.objs.size ≤ b → b ≠ c.env.locals ∧ (∀ x a, c.env.cells.lookup x = some a → b ≠ a) ∧ b ∉ σ.mem.map (·.1) := fun b hb =>
      ⟨Nat.ne_of_gt (Nat.lt_of_lt_of_le ((R.sub s1).sub s2).lt_loc hb), fun x a' q => Nat.ne_of_gt (Nat.lt_of_lt_of_le (((R.sub s1).sub s2).lt_cell q) hb), fun q => Nat.lt_irrefl _ (Nat.lt_of_lt_of_le (((R.sub s1).sub s2).lt_mem q) hb)⟩
    refine q _ _ t2 [(g2.push (tupO #[v1, v2] 0)).objs.size, g2.objs.size] [(g2.push (tupO #[v1, v2] 0)).objs.size] _ _ ((s1.trans s2).trans (s3.trans s4)).hard
      ⟨R3.sub s4, fun p hp => (by cases hp), List.nodup_nil, W, ⟨⟨_, Heap.get?_push_size _ rfl, rfl, rfl⟩, s4 _ _ gT |> fun e => ⟨_, e, rfl, 0, rfl⟩⟩, fun b hb => ?_, fun b hb => ?_, fun b hb => ?_, fun i h st b hb => ?_, fun i v h' hPi hs => ?_, fun i v s' Q' E' st q => letGo_tupleiter st.1 q⟩
    · have hb' : b = (g2.push (tupO #[v1, v2] 0)).objs.size ∨ b = g2.objs.size := by simpa using hb
      rcases hb' with rfl | rfl
      · exact newR _ (by rw [z]; exact Nat.le_succ _)
      · exact newR _ (Nat.le_refl _)
    · have hb' : b = (g2.push (tupO #[v1, v2] 0)).objs.size ∨ b = g2.objs.size := by simpa using hb
      rcases hb' with rfl | rfl
      · exact ⟨_, Heap.get?_push_size _ rfl⟩
      · exact ⟨_, s4 _ _ gT⟩
    · obtain rfl := List.mem_singleton.mp hb
      cases q : h0.get? (g2.push (tupO #[v1, v2] 0)).objs.size with
      | none => rfl
      | some o => have e := R.keep _ _ q; rw [new _ (by rw [z]; exact Nat.le_succ _)] at e; cases e
    · obtain rfl := List.mem_singleton.mp hb
      obtain ⟨o, e, hc, _⟩ := st.1
      exact ⟨o, e, notHard_cls hc (by decide) (by decide)⟩
    · have hh := ((s3.trans s4).hard.trans hs)
      match i, hPi with
      | 0, hPi =>
        have : v1 = v := by simpa using hPi
        subst this
        exact (r1.hsub s2.hard).hsub hh
      | 1, hPi =>
        have : v2 = v := by simpa using hPi
        subst this
        exact r2.hsub hh
      | i + 2, hPi => simp at hPi)

/-- range(n, -2, -1) -/
theorem EvRg.down {np pos : Pos} {e1 e2 e3 : Expr} {n : Nat} (Z : Base B mg mb fa) (C : c.Ok) (hk : c.env.kindOf (Str.ofString "range") = some .globalImplicit) (h1 : EvE prog w B d c σ e1 (.int n)) (h2 : EvE prog w B d c σ e2 (.int (-2))) (h3 : EvE prog w B d c σ e3 (.int (-1))) (hn : n ≤ 1000)
    (hs1 : ∀ env, starEach [e1, e2, e3] env = (false, eval e1 env) :: starEach [e2, e3] env := by intro _; rfl) (hs2 : ∀ env, starEach [e2, e3] env = (false, eval e2 env) :: starEach [e3] env := by intro _; rfl) (hs3 : ∀ env, starEach [e3] env = (false, eval e3 env) :: starEach [] env := by intro _; rfl) :
    EvRg prog w B d c σ (.Call (.Name (Str.ofString "range") np) [e1, e2, e3] [] pos) n (-2) (-1) :=
  EvRg.three Z C hk h1 h2 h3 (by decide) (by
    unfold Builtin.divisionGoesByPylong
    have : (decide ((if ((-1 : Int) == 0) = true then 0 else (-1 : Int).natAbs.log2 / 30 + 1) > 300)) = false := by decide
    dsimp only
    rw [this]; rfl) hs1 hs2 hs3
theorem IterR.down {target : Expr} {np pos : Pos} {e1 e2 e3 : Expr} {n : Nat} (Z : Base B mg mb fa) (C : c.Ok) (hk : c.env.kindOf (Str.ofString "range") = some .globalImplicit) (h1 : EvE prog w B d c σ e1 (.int n)) (h2 : EvE prog w B d c σ e2 (.int (-2))) (h3 : EvE prog w B d c σ e3 (.int (-1))) (hn : n ≤ 1000)
    (go : ∀ it v, letOwnedTupleGo target it v = pure () := by intro _ _; rfl)
    (hs1 : ∀ env, starEach [e1, e2, e3] env = (false, eval e1 env) :: starEach [e2, e3] env := by intro _; rfl) (hs2 : ∀ env, starEach [e2, e3] env = (false, eval e2 env) :: starEach [e3] env := by intro _; rfl) (hs3 : ∀ env, starEach [e3] env = (false, eval e3 env) :: starEach [] env := by intro _; rfl) :
    IterR prog w B d c σ target (.Call (.Name (Str.ofString "range") np) [e1, e2, e3] [] pos) σ [] (n + 2) (fun i => .int ((n : Int) + i * (-1))) :=
by
  have e : Builtin.Range.rangeSize (n : Int) (-2) (-1) = ((n + 2 : Nat) : Int) := by
    unfold Builtin.Range.rangeSize
    rw [if_neg (by decide), if_pos (by lia), show (-(-1 : Int)) = 1 by decide, Int.ediv_one]
    lia
  refine IterR.range (n := n + 2) (EvRg.down Z C hk h1 h2 h3 hn hs1 hs2 hs3) ?_ e go
  unfold Builtin.Range.small
  simp only [Builtin.Range.rangeFitsLong, e, Bool.and_eq_true, Bool.or_eq_true, decide_eq_true_eq, beq_iff_eq, show ¬ ((-1 : Int) > 0) by decide, if_false]
  refine ⟨⟨⟨⟨by lia, by lia⟩, by lia⟩, by lia⟩, ?_⟩
  lia

/-- xs.extend(e) -/
theorem CallR.extend {a b : Addr} {xs ys : List PV} {m' : Ledger} {P : PV → Ledger → Prop} (p : Put a (.lst xs) (.lst (xs ++ ys)) σ.mem m') (hb : (b, MO.lst ys) ∈ σ.mem) (hl : xs.length + ys.length ≤ 1000000) (h : P (.val .none) m') : CallR prog w B d c σ (.builtin "list.extend") [.ref a, .ref b] P := by
  intro h0 A s vals Q E bb ok R r k
  revert vals; refine VRs.vv ?_
  · skip
    obtain ⟨vs, n, ea, va⟩ := (R.mem.at_ _ p.mem).1
    obtain ⟨ws, n2, eb, vb⟩ := (R.mem.at_ _ hb).1
    have l1 := va.length
    have l2 := vb.length
    simp only [Array.length_toList] at l1 l2
    refine call_meets F.slot_list_extend ⟨_, ea, rfl⟩ F.entry_list_extend (F.args_list_extend_2 _ _) (AutoSeq1.list_extend_list_list_0 a vs n b ws n2 (by
      have : Builtin.List.listTooLong (vs.size + ws.size) = false := by simp [Builtin.List.listTooLong, sizeLine]; lia
      rw [this]; simp) (by show _ ≤ 2 ^ 24; lia) (by show _ ≤ 2 ^ 24 + 1; lia)) ⟨ea, eb, ?_⟩
    obtain ⟨hh, R'⟩ := R.put p (h' := s.heap.update a (Obj.mapSeq fun x => x ++ ws)) (fun b o q e => (Heap.get?_update_ne _ _ _ _ q).trans e) (fun hh => by
      have z := IsL.update (h := s.heap) (l := a) (items := vs) (n := n) ea (fun x => x ++ ws)
      refine ⟨_, _, z, ?_⟩
      rw [Array.toList_append]
      exact (va.append vb).hsub hh)
    exact k (.val .none) m' .none _ s.toks h hh R' rfl
theorem ExSs.extend {o e : Expr} {ap pos pos2 : Pos} {a : Addr} {P1 : PV → Ledger → Prop} {ts : List Stmt} {P : FL → St → Prop} {xs0 : List PV} (ho : EvE prog w B d c σ o (.ref a)) (hm : (a, MO.lst xs0) ∈ σ.mem) (he : EvM prog w B d c σ e P1)
    (h : ∀ pv m, P1 pv m → ∃ b xs ys m', pv = .ref b ∧ (b, MO.lst ys) ∈ m ∧ Put a (.lst xs) (.lst (xs ++ ys)) m m' ∧ xs.length + ys.length ≤ 1000000 ∧ ExSs prog w B d c ⟨σ.vars, m'⟩ ts P) (hi : interactive c.env = false := by first | rfl | (apply Cx.Ok.inter; assumption))
    (hb : attributeBase o (Str.ofString "extend") c.env (eval o c.env) = eval o c.env := by rfl) (hp : (Pos.endLine ap == Pos.line pos) = true := by rfl)
    (hs : ∀ env, starEach [e] env = (false, eval e env) :: starEach [] env := by intro _; rfl) (hw : swapsWith (.Call (.Attribute o (Str.ofString "extend") ap) [e] [] pos) none pos2.line c.env = pure false := by rfl) :
    ExSs prog w B d c σ (.Expr (.Call (.Attribute o (Str.ofString "extend") ap) [e] [] pos) pos2 :: ts) P :=
  ExSs.expr (P1 := fun pv m => pv = .val .none ∧ ExSs prog w B d c ⟨σ.vars, m⟩ ts P) (EvM.meth ho (RecvT.lst hm) F.plainAttrs_list F.slot_list_extend F.type_list_extend (EvMs.one he hs) (fun pvs m ⟨pv, q, e⟩ => by
      obtain ⟨b, xs, ys, m', rfl, hbm, pu, hl, hx⟩ := h pv m q
      rw [e]
      exact CallR.extend pu hbm hl ⟨rfl, hx⟩) hb hp (by intro pos env; rw [hs]; rfl) (by intro pos env; rw [hs]; rfl)) (fun _ _ q => q.1) (fun m q => q.2) hi hw
end
end Mine

/-! ## W21 -/
namespace Mine
noncomputable def isStar : Expr → Bool
  | .Starred .. => true
  | _ => false
theorem swapped2 {x y : Str} {px py pt p2 : Pos} {kk k2 : Nat} {e1 e2 : Expr} {env : Env} (hbk : env.blockKind = .function) (kx : env.kindOf x = some .local) (ky : env.kindOf y = some .local) (hl : py.line = px.line) (hne : ([x, y] : List Str).eraseDups.length = 2)
    (hs : [e1, e2].any isStar = false) (hf : [e1, e2].all (foldedForSure 8) = false) (hc : [e1, e2].all (constantsAlone 8) = false) :
    swappedStores [.Tuple [.Name x px, .Name y py] kk pt] (.Tuple [e1, e2] k2 p2) env = pure (some [x, y]) := by
  unfold swappedStores
  rw [hbk]
  refine (if_neg (by simp)).trans ?_
  refine (if_neg ?_).trans ?_
  · intro h
    have : [e1, e2].any isStar = true := by
      rw [← h]; congr 1
    rw [hs] at this; cases this
  have hn : ∀ (f : Expr → Option Str), f (.Name x px) = some x → f (.Name y py) = some y → [Expr.Name x px, .Name y py].filterMap f = [x, y] := fun f h1 h2 => by
    rw [List.filterMap_cons, h1, List.filterMap_cons, h2]; rfl
  dsimp only
  rw [hn _ (by show (if (env.kindOf x == some .local && px.line == px.line) = true then some x else none) = some x; rw [kx, beq_self_eq_true, beq_self_eq_true]; rfl) (by show (if (env.kindOf y == some .local && py.line == px.line) = true then some y else none) = some y; rw [ky, hl, beq_self_eq_true, beq_self_eq_true]; rfl)]
  rw [hne]
  refine (if_neg (by simp)).trans ?_
  rw [if_neg (by rw [hf]; decide), if_neg (by rw [hc]; decide)]
section
variable {prog : Program} {w : World} {B : Heap → Prop} {mg mb : Str → Option Value} {fa : Nat → Addr} {d : Nat} {c : Cx} {σ : St}

/-- x, y = (e1, e2): the stores swapped -/
theorem ExSs.pair {x y : Str} {px py pt p2 pos : Pos} {kk k2 : Nat} {e1 e2 : Expr} {a b : PV} {ts : List Stmt} {P : FL → St → Prop} (i j : Nat) (C : c.Ok) (hrw : c.rw = true) (hi : c.names[i]? = some x) (hj : c.names[j]? = some y)
    (h1 : EvE prog w B d c σ e1 a) (h2 : EvE prog w B d c σ e2 b) (hw : swappedStores [.Tuple [.Name x px, .Name y py] kk pt] (.Tuple [e1, e2] k2 p2) c.env = pure (some [x, y])) (h : ExSs prog w B d c ⟨(σ.vars.set j b).set i a, σ.mem⟩ ts P)
    (hs1 : ∀ env, starEach [e1, e2] env = [(false, eval e1 env), (false, eval e2 env)] := by intro _; rfl) :
    ExSs prog w B d c σ (.Assign [.Tuple [.Name x px, .Name y py] kk pt] (.Tuple [e1, e2] k2 p2) pos :: ts) P := by
  refine ExSs.next (P1 := fun σ' => σ' = ⟨(σ.vars.set j b).set i a, σ.mem⟩) (fun h0 A s Q E bb ok R q => ?_) fun _ q => q ▸ h
  rw [exec_Assign_arm]
  refine wpAny_bind (wpAny_standAt ?_)
  refine wpAny_bind (wpAny_of_eq (a := false) rfl ?_)
  rw [if_neg (by decide)]
  refine wpAny_bind (wpAny_Tuple ?_)
  rw [hs1]
  refine Calls.spliced_cons (h1 h0 A _ _ E bb ok R fun v1 g1 t1 s1 r1 => ?_)
  refine Calls.spliced_cons (h2 h0 A _ _ E bb ok (R.sub s1) fun v2 g2 t2 s2 r2 => ?_)
  refine Calls.spliced_nil ⟨by show 2 ≤ 2 ^ 24; decide, ?_⟩
  rw [hw]
  refine wpAny_bind (wpAny_pure ?_)
  unfold assignStores
  dsimp only
  refine wpAny_bind (wpAny_rule (wpAny_bind ?_))
  refine wpAny_unpackItems_tuple (items := #[v1, v2]) ok.1 ⟨_, Heap.get?_push_size _ rfl, rfl, 0, rfl⟩ fun h' he => ?_
  have s3 : Sub g2 h' := fun b o e => he b o (Nat.ne_of_lt (Nat.lt_trans (Heap.lt_size e) (by rw [Heap.size_push]; exact Nat.lt_succ_self _))) (Heap.get?_push_of_some _ e)
  refine wpAny_bind ?_
  show wpAny _ _ (assignInOrder [bindName c.env y, bindName c.env x] [v2, v1]) _ _ _
  unfold assignInOrder bindName
  refine wpAny_bind (wpAny_holding (wpAny_bind (wpAny_holding (wpAny_point (wpAny_bind (storeVar C hrw (((R.sub s1).sub s2).sub s3) hj (r2.hsub s3.hard) fun h2 t2' hs2 R2 => ?_))))))
  refine wpAny_point ?_
  unfold assignInOrder
  refine wpAny_bind (wpAny_holding (wpAny_bind (wpAny_holding (wpAny_point (wpAny_bind (storeVar C hrw R2 hi (((r1.hsub s2.hard).hsub s3.hard).hsub hs2) fun h3 t3 hs3 R3 => ?_))))))
  refine wpAny_point ?_
  unfold assignInOrder
  exact wpAny_pure (wpAny_pure (q .next _ .next h3 t3 ⟨rfl, rfl⟩ R3 trivial))
end
end Mine

/-! ## P4 -/
namespace Mine
noncomputable def escC (c : Nat) : List Nat := if c = 46 ∨ c = 63 then [92, c] else [c]
noncomputable def okC (c : Nat) : Prop := c = 97 ∨ c = 98 ∨ c = 46 ∨ c = 63
structure TabB (prog : Program) (w : World) (B : Heap → Prop) (mg : Str → Option Value) (T : Addr) (f : Int → Option Value) : Prop where
  name : mg (Str.ofString "_special_chars_map") = some (.ref T)
  sys : (T == sysModules) = false
  map : ∀ h, B h → h.MapOf (intKind prog w) T f
  says : ∀ c, okC c → TabSays f escC c

section
variable {prog : Program} {w : World} {B : Heap → Prop} {mg mb : Str → Option Value} {fa : Nat → Addr} {d : Nat} {c : Cx} {σ : St}

theorem CallR.translate {T : Addr} {f : Int → Option Value} (Y : TabB prog w B mg T f) {x : List Nat} {P : PV → Ledger → Prop} (hx : ∀ c ∈ x, okC c) (hl : x.length ≤ 1000000) (h : P (.str (x.flatMap escC)) σ.mem) : CallR prog w B d c σ (.builtin "str.translate") [.str x, .ref T] P := by
  intro h0 A s vals Q E b ok R r k
  revert vals; refine VRs.sv fun t => ?_
  · skip
    exact call_translate ok.1 Y.sys (tab_sub (Y.map h0 b) R.keep) (fun c hc => Y.says c (hx c hc)) hl fun t' h' tk s' => k _ σ.mem _ h' tk h s'.hard (R.sub s') ⟨_, rfl⟩
theorem CallP.isStr {x : List Nat} : CallP prog w d c σ (.builtin "isinstance") [.str x, .val (.type "str")] (.bool true) := by
  rintro h0 A sh vals Q E ok R r k
  revert vals; refine VRs.sv fun t => ?_
  · skip
    exact IsiPair.str_str (k _ sh.heap sh.toks Sub.rfl rfl)

theorem escape_ok (Z : Base B mg mb fa) {T : Addr} {f : Int → Option Value} (Y : TabB prog w B mg T f) (x : List Nat) (hx : ∀ c ∈ x, okC c) (hl : x.length ≤ 1000000) :
    FnOk prog w B 1 (.ref (fa 6)) [.str x] [] (fun pv m => pv = .str (x.flatMap escC) ∧ m = []) := by
  have hpl : plainDfn (dfn 6) (["pattern"].map Str.ofString) (["pattern"].map Str.ofString) = true := by decide +kernel
  refine FnOk.def_ Z.toBs (Z.defs 6 (by decide)).2 hpl rfl (fun pm cd doc => len1 fun _ => rfl) fun env he => ?_
  have C := he.ok hpl
  refine ExSs.ifL (EvB.val (EvE.callP Z.toBs (EvE.bl Z C (by decide +kernel) boot_isinstance (kind_of he (by decide +kernel))) (.blt _) (EvAs.cons (EvE.var 0 C rfl rfl) (EvAs.one (EvE.bl Z C (by decide +kernel) boot_str (kind_of he (by decide +kernel))))) CallP.isStr) TruR.bool) (fun hc => ?_) (fun hc => by cases hc)
  refine ExSs.ret (P1 := fun pv m => pv = .str (x.flatMap escC) ∧ m = []) (EvM.meth (EvE.var 0 C rfl rfl) RecvT.str F.plainAttrs_str F.slot_str_translate F.type_str_translate ((EvAs.one (EvE.glob Z.toBs C (kind_of he (by decide +kernel)) Y.name)).ms (P := fun pvs m => pvs = [.ref T] ∧ m = []) ⟨rfl, rfl⟩) (fun _ _ q => by rw [q.1, q.2]; exact CallR.translate Y hx hl ⟨rfl, rfl⟩)) fun pv m q => q
end
end Mine

/-! ## P5 -/
namespace Mine
noncomputable def holdF (p : Sg) : Sg := [40, 63, 62, 46, 42, 63] ++ p ++ [41]
noncomputable def partAt (n i : Nat) (p : Sg) : Sg := if i + 1 = n then [46, 42] ++ p else if i = 0 then p else holdF p
/-- translate_pattern's text -/
noncomputable def tpF (path : Sg) : Sg := (((splitF 42 path).map (·.flatMap escC)).mapIdx (partAt (splitF 42 path).length)).flatten

theorem splitF_mem (ch : Nat) : ∀ (l : List Nat) (p : List Nat), p ∈ splitF ch l → ∀ x ∈ p, x ∈ l ∧ x ≠ ch
  | [], p, hp, x, hx => by
    rw [splitF] at hp
    rw [List.mem_singleton.mp hp] at hx; cases hx
  | y :: l, p, hp, x, hx => by
    rw [splitF] at hp
    by_cases hy : y = ch
    · rw [if_pos hy] at hp
      rcases List.mem_cons.mp hp with rfl | hp
      · cases hx
      · have := splitF_mem ch l p hp x hx; exact ⟨.tail _ this.1, this.2⟩
    · rw [if_neg hy] at hp
      split at hp
      · rename_i q qs e
        rcases List.mem_cons.mp hp with rfl | hp
        · rcases List.mem_cons.mp hx with rfl | hx
          · exact ⟨.head _, hy⟩
          · have := splitF_mem ch l q (by rw [e]; exact .head _) x hx; exact ⟨.tail _ this.1, this.2⟩
        · have := splitF_mem ch l p (by rw [e]; exact .tail _ hp) x hx; exact ⟨.tail _ this.1, this.2⟩
      · rename_i e; exact absurd e (splitF_ne ch l)
theorem splitF_sum (ch : Nat) (l : List Nat) : (splitF ch l).flatten.length ≤ l.length := by
  induction l with
  | nil => simp [splitF]
  | cons x r ih =>
    unfold splitF
    split
    · simp; simp at ih; lia
    · split
      · rename_i p ps e
        rw [e] at ih; simp at ih ⊢; lia
      · rename_i e; exact absurd e (splitF_ne ch r)
theorem mem_flat_len {p : List Nat} : ∀ {l : List (List Nat)}, p ∈ l → p.length ≤ l.flatten.length
  | _ :: l, .head _ => by simp
  | _ :: l, .tail _ h => by have := mem_flat_len h; simp only [List.flatten_cons, List.length_append]; lia
theorem splitF_plen (ch : Nat) (l : List Nat) (p : List Nat) (hp : p ∈ splitF ch l) : p.length ≤ l.length := by
  have := splitF_sum ch l
  have := mem_flat_len hp
  lia
theorem escC_len (c : Nat) : (escC c).length ≤ 2 := by unfold escC; split <;> simp
theorem esc_len (l : Sg) : (l.flatMap escC).length ≤ 2 * l.length := by
  induction l with
  | nil => simp
  | cons x r ih => simp only [List.flatMap_cons, List.length_append, List.length_cons]; have := escC_len x; lia

section
variable {prog : Program} {w : World} {B : Heap → Prop} {mg mb : Str → Option Value} {fa : Nat → Addr} {d : Nat} {c : Cx} {σ : St}

theorem EvJ.nil : EvJ prog w B d c σ [] [] := trivial
theorem EvJ.cons {e : Expr} {es : List Expr} {x : List Nat} {xs : List (List Nat)} (h : EvE prog w B d c σ e (.str x)) (r : EvJ prog w B d c σ es xs) : EvJ prog w B d c σ (e :: es) (x :: xs) := ⟨h, r⟩

theorem translate_pattern_ok (Z : Base B mg mb fa) {T : Addr} {f : Int → Option Value} (Y : TabB prog w B mg T f) (path : Sg) (hx : ∀ c ∈ path, okC c ∨ c = 42) (hl : path.length ≤ 1000) :
    FnOk prog w B 6 (.ref (fa 8)) [.str path] [] (fun pv m => pv = .str (tpF path)) := by
  have hpl : plainDfn (dfn 8) (["path"].map Str.ofString) (["path","parts","i"].map Str.ofString) = true := by decide +kernel
  refine FnOk.def_ Z.toBs (Z.defs 8 (by decide)).2 hpl rfl (fun pm cd doc => len1 fun _ => rfl) fun env he => ?_
  have C := he.ok hpl
  generalize hps : splitF 42 path = ps
  have hps1 : ps.length ≤ 1001 := by rw [← hps]; have := splitF_len 42 path; lia
  have hps0 : 1 ≤ ps.length := by
    rw [← hps]; have := splitF_ne 42 path
    cases e : splitF 42 path with
    | nil => exact absurd e this
    | cons _ _ => simp
  have hpl1 : ∀ p ∈ ps, p.length ≤ 1000 := fun p hp => by have := splitF_plen 42 path p (by rw [hps]; exact hp); lia
  have hpc : ∀ p ∈ ps, ∀ x ∈ p, okC x := fun p hp x hxp => by
    have := splitF_mem 42 path p (by rw [hps]; exact hp) x hxp
    exact (hx x this.1).resolve_right this.2
  refine ExSs.letM (P1 := fun pv m => ∃ a b, pv = .ref b ∧ m = [(b, .lst (ps.map fun p => .str (p.flatMap escC))), (a, .lst (ps.map .str))]) 1 C rfl rfl
    (EvM.listMap (xs := ps) (g := (·.flatMap escC)) (d' := 1) 6 Z C (by decide) rfl (kind_of he (by decide +kernel)) (kind_of he (by decide +kernel)) (kind_of he (by decide +kernel)) (by lia)
      (EvM.meth (EvE.var 0 C rfl rfl) RecvT.str F.plainAttrs_str F.slot_str_split F.type_str_split ((EvAs.one (EvE.strL [42])).ms (P := fun pvs m => pvs = [.str [42]] ∧ m = []) ⟨rfl, rfl⟩) (fun _ _ q => by rw [q.1, q.2]; exact CallR.split (by lia) fun a => ⟨a, rfl, by rw [hps]⟩))
      (fun p hp => escape_ok Z Y p (hpc p hp) (by have := hpl1 p hp; lia)) (by decide) fun a b => ⟨a, b, rfl, rfl⟩) rfl ?_
  rintro _ _ ⟨a, b, rfl, rfl⟩
  have hq : (ps.map fun p => PV.str (p.flatMap escC)) = (ps.map (·.flatMap escC)).map .str := by rw [List.map_map]; rfl
  rw [hq]
  generalize hqs : ps.map (·.flatMap escC) = qs
  have hqn : qs.length = ps.length := by rw [← hqs]; simp
  have hql : ∀ q ∈ qs, q.length ≤ 2000 := fun q hq => by
    rw [← hqs] at hq
    obtain ⟨p, hp, rfl⟩ := List.mem_map.mp hq
    have := esc_len p; have := hpl1 p hp; lia
  have hres : tpF path = (qs.mapIdx (partAt qs.length)).flatten := by unfold tpF; rw [hps, hqs, hqn]
  let st (j : Nat) : List Sg := qs.mapIdx fun i p => if 1 ≤ i ∧ i < 1 + j then holdF p else p
  have stl : ∀ j, (st j).length = qs.length := fun j => List.length_mapIdx
  refine ExSs.forCore (n := qs.length - 2) Z.toBs (IterR.range (n := qs.length - 2) (EvRg.two Z C (kind_of he (by decide +kernel)) (EvE.int (i := 1)) (EvE.bin (EvE.len Z C (kind_of he (by decide +kernel)) (EvE.var 1 C rfl rfl) (CallP.lenL (.head _) (by simp; lia))) EvE.int BinR.sub)) (small_one (by lia) (by lia) (by simp; lia) (by simp; lia)) (by rw [rangeSize_one, List.length_map]; split <;> lia))
    (fun j σ' => ∃ p2, σ' = ⟨[.str path, .ref b, p2], [(b, .lst ((st j).map .str)), (a, .lst (ps.map .str))]⟩) ⟨.undef, ?_⟩ ?_ ?_
  · have : st 0 = qs := by
      show qs.mapIdx _ = qs
      refine List.ext_getElem (by simp) fun i h1 h2 => ?_
      rw [List.getElem_mapIdx, if_neg (by lia)]
    rw [this]; rfl
  · rintro j _ hj ⟨p2, rfl⟩
    refine ⟨_, AsgR.name 2 C rfl rfl, ?_⟩
    have hi : 1 + j < qs.length := by lia
    have hi2 : 1 + j < (st j).length := by rw [stl]; exact hi
    have hat : (st j)[1 + j] = qs[1 + j] := by
      show (qs.mapIdx _)[1 + j]'_ = _
      rw [List.getElem_mapIdx, if_neg (by lia)]
    have hidx : (1 + (j : Int) * 1).toNat = 1 + j := by lia
    have hat2 : ((st j).map PV.str)[(1 + (j : Int) * 1).toNat]? = some (.str qs[1 + j]) := by
      rw [hidx, List.getElem?_map, List.getElem?_eq_getElem hi2, hat]; rfl
    refine ExSs.setIdx (pv := .str (holdF qs[1 + j])) ((EvE.fstr (xs := [[40, 63, 62, 46, 42, 63], qs[1 + j], [41]]) (EvJ.cons (EvE.strL _) (EvJ.cons (EvE.fval (EvE.idx (EvE.var 1 C rfl rfl) (.head _) (EvE.var 2 C rfl rfl) (by lia) (by lia) hat2) (by have := hql _ (List.getElem_mem hi); lia)) (EvJ.cons (EvE.strL _) EvJ.nil))) (by have := hql _ (List.getElem_mem hi); simp; lia)).eq (by unfold holdF; simp)) (EvE.var 1 C rfl rfl) (EvE.var 2 C rfl rfl) (by lia) (by simp [stl]; lia) (by simp [stl]; lia) .head (ExSs.nil ⟨.int (1 + (j : Int) * 1), ?_⟩)
    have : ((st j).map PV.str).set (1 + (j : Int) * 1).toNat (.str (holdF qs[1 + j])) = (st (j + 1)).map .str := by
      rw [hidx, ← List.map_set]
      congr 1
      refine List.ext_getElem (by simp [stl]) fun i h1 h2 => ?_
      have hi0 : i < qs.length := by rw [stl] at h2; exact h2
      have e1 : (st (j + 1))[i]'h2 = if 1 ≤ i ∧ i < 1 + (j + 1) then holdF qs[i] else qs[i] := List.getElem_mapIdx
      have e2 : (st j)[i]'(by rw [stl]; exact hi0) = if 1 ≤ i ∧ i < 1 + j then holdF qs[i] else qs[i] := List.getElem_mapIdx
      rw [e1, List.getElem_set]
      by_cases q0 : 1 + j = i
      · subst q0; rw [if_pos rfl, if_pos (by lia)]
      · rw [if_neg q0, e2]
        by_cases q : 1 ≤ i ∧ i < 1 + j
        · rw [if_pos q, if_pos (by lia)]
        · rw [if_neg q, if_neg (by lia)]
    rw [this]; rfl
  · rintro _ ⟨p2, rfl⟩
    have hlast : ((st (qs.length - 2)).map PV.str)[((-1 : Int) + (((st (qs.length - 2)).map PV.str).length : Nat)).toNat]? = some (.str (qs[qs.length - 1]'(by lia))) := by
      rw [List.length_map, stl]
      have e : ((-1 : Int) + (qs.length : Nat)).toNat = qs.length - 1 := by lia
      have h2 : qs.length - 1 < (st (qs.length - 2)).length := by rw [stl]; lia
      rw [e, List.getElem?_map, List.getElem?_eq_getElem h2]
      show some (PV.str ((qs.mapIdx _)[qs.length - 1]'_)) = _
      rw [List.getElem_mapIdx, if_neg (by lia)]
    have hl2 := hql _ (List.getElem_mem (l := qs) (n := qs.length - 1) (by lia))
    have hneg : ∀ (x : Nat), (1 : Nat) ≤ x → -(((x : Nat)) : Int) ≤ -1 := fun x h => by lia
    refine ExSs.setIdxNeg (pv := .str ([46, 42] ++ qs[qs.length - 1]'(by lia))) ((EvE.fstr (xs := [[46, 42], qs[qs.length - 1]'(by lia)]) (EvJ.cons (EvE.strL _) (EvJ.cons (EvE.fval (EvE.idxNeg (EvE.var 1 C rfl rfl) (.head _) (EvE.neg EvE.int) (by decide) (by simp only [List.length_map, stl]; lia) (by decide) hlast) (by lia)) EvJ.nil)) (by simp; lia)).eq (by simp)) (EvE.var 1 C rfl rfl) (EvE.neg EvE.int) (by decide) (by simp only [List.nil_append, List.length_map, stl]; lia) (by simp [stl]; lia) .head ?_
    have hfin : ((st (qs.length - 2)).map PV.str).set ((-1 : Int) + (((st (qs.length - 2)).map PV.str).length : Nat)).toNat (.str ([46, 42] ++ qs[qs.length - 1]'(by lia))) = (qs.mapIdx (partAt qs.length)).map .str := by
      rw [List.length_map, stl]
      have e : ((-1 : Int) + (qs.length : Nat)).toNat = qs.length - 1 := by lia
      rw [e, ← List.map_set]
      congr 1
      refine List.ext_getElem (by simp [stl]) fun i h1 h2 => ?_
      have hi : i < qs.length := by simpa using h2
      have e1 : (qs.mapIdx (partAt qs.length))[i]'h2 = partAt qs.length i qs[i] := List.getElem_mapIdx
      have hsi : i < (st (qs.length - 2)).length := by rw [stl]; exact hi
      have e2 : (st (qs.length - 2))[i]'hsi = if 1 ≤ i ∧ i < 1 + (qs.length - 2) then holdF qs[i] else qs[i] := List.getElem_mapIdx
      rw [e1, List.getElem_set]
      unfold partAt
      by_cases q1 : i + 1 = qs.length
      · have q2 : qs.length - 1 = i := by lia
        simp only [q1, q2, if_true]
      · rw [if_neg (by lia : ¬ qs.length - 1 = i), if_neg q1, e2]
        by_cases q : i = 0
        · rw [if_pos q, if_neg (by lia)]
        · rw [if_neg q, if_pos (by lia)]
    have tot : (qs.mapIdx (partAt qs.length)).flatten.length ≤ 16777216 := by
      rw [List.length_flatten]
      have : ∀ (l : List Nat) (b : Nat), (∀ x ∈ l, x ≤ b) → l.sum ≤ l.length * b := by
        intro l b
        induction l with
        | nil => intro _; simp
        | cons x l ih =>
          intro h
          have h1 := h x (.head _)
          have h2 := ih fun y hy => h y (.tail _ hy)
          rw [List.sum_cons, List.length_cons, Nat.add_mul]; lia
      have := this ((qs.mapIdx (partAt qs.length)).map List.length) 2007 (fun x hx => by
        obtain ⟨y, hy, rfl⟩ := List.mem_map.mp hx
        obtain ⟨i, hi, rfl⟩ := List.getElem_of_mem hy
        rw [List.getElem_mapIdx]
        have := hql _ (List.getElem_mem (l := qs) (n := i) (by simpa using hi))
        unfold partAt holdF
        split
        · simp; lia
        · split
          · lia
          · simp; lia)
      rw [List.length_map, List.length_mapIdx] at this
      lia
    refine ExSs.retE (EvE.join (l := qs.mapIdx (partAt qs.length)) (EvE.strL []) (EvE.var 1 C rfl rfl) (by
      have : (b, MO.lst (((st (qs.length - 2)).map PV.str).set ((-1 : Int) + (((st (qs.length - 2)).map PV.str).length : Nat)).toNat (.str ([46, 42] ++ qs[qs.length - 1]'(by lia))))) = (b, MO.lst ((qs.mapIdx (partAt qs.length)).map .str)) := by rw [hfin]
      rw [← this]; exact .head _) tot) (by rw [hres])
end
end Mine

/-! ## H1 -/
namespace Mine
noncomputable def sdLoop {α : Type} (lt : α → α → Bool) (start : Nat) (x : α) (xs : List α) (pos : Nat) : List α :=
  if h : start < pos then
    match xs[(pos - 1) / 2]? with
    | some p => if lt x p then sdLoop lt start x (xs.set pos p) ((pos - 1) / 2) else xs.set pos x
    | none => xs.set pos x
  else xs.set pos x
termination_by pos

section
variable {prog : Program} {w : World} {B : Heap → Prop} {mg mb : Str → Option Value} {fa : Nat → Addr}

theorem siftdown_ok {α : Type} (f : α → PV) (lt : α → α → Bool) (hf : ∀ a, f a ≠ .undef) (hlt : ∀ a b, CmpR prog w .Lt (f a) (f b) (lt a b)) (Z : Base B mg mb fa) (a : Addr) (xs : List α) (start pos : Nat) (x : α) (hx : xs[pos]? = some x) (hl : xs.length ≤ 1000000) :
    FnOk prog w B 1 (.ref (fa 19)) [.ref a, .int start, .int pos] [(a, .lst (xs.map f))] (fun pv m => pv = .val .none ∧ m = [(a, .lst ((sdLoop lt start x xs pos).map f))]) := by
  have hpl : plainDfn (dfn 19) (["heap","startpos","pos"].map Str.ofString) (["heap","startpos","pos","newitem","parentpos","parent"].map Str.ofString) = true := by decide +kernel
  refine FnOk.def_ Z.toBs (Z.defs 19 (by decide)).2 hpl rfl (fun pm cd doc => len3 fun _ _ _ => rfl) fun env he => ?_
  have C := he.ok hpl
  refine ExSs.genP fun Q0 hQ0 => ?_
  have hpos : pos < xs.length := (List.getElem?_eq_some_iff.mp hx).1
  refine ExSs.let_ 3 C rfl rfl (EvE.idx (EvE.var 0 C rfl rfl) (.head _) (EvE.var 2 C rfl rfl) (by lia) (by lia) (pv := f x) (by simp [hx])) rfl ?_
  refine ExSs.while_ (fun n σ' => ∃ (k : Nat) (ys : List α) (p4 p5 : PV), σ' = ⟨[.ref a, .int start, .int k, f x, p4, p5], [(a, .lst (ys.map f))]⟩ ∧ k < ys.length ∧ ys.length = xs.length ∧ sdLoop lt start x ys k = sdLoop lt start x xs pos ∧ n = k) pos
    ⟨pos, xs, .undef, .undef, rfl, hpos, rfl, rfl, rfl⟩ ?_
  rintro n _ ⟨k, ys, p4, p5, rfl, hk, hlen, hR, rfl⟩
  refine ⟨decide ((start : Int) < (n : Int)), EvB.cmp (EvE.var 2 C rfl rfl) (EvE.var 1 C rfl rfl) CmpR.gt, fun hb => ?_, fun hb => ?_⟩
  · have hb' : start < n := by simpa using hb
    have hpp : ((n : Int) - 1).fdiv 2 = ((n - 1) / 2 : Nat) := by rw [fdiv2]; lia
    have hpk : (n - 1) / 2 < ys.length := by lia
    refine ExSs.genP fun Q hQ => ?_
    refine ExSs.let_ 4 C rfl rfl ((EvE.bin (EvE.bin (EvE.var 2 C rfl rfl) EvE.int BinR.sub) EvE.int BinR.shr1).eq (congrArg PV.int hpp)) rfl ?_
    refine ExSs.let_ 5 C rfl rfl (EvE.idx (EvE.var 0 C rfl rfl) (.head _) (EvE.var 4 C rfl rfl) (by lia) (by lia) (mapIdx f ys ((n-1)/2) hpk _ rfl)) rfl ?_
    rw [sdLoop, dif_pos hb', List.getElem?_eq_getElem hpk] at hR
    dsimp only at hR
    refine ExSs.ite (EvB.cmp (EvE.var 3 C rfl rfl (hf x)) (EvE.var 5 C rfl rfl (hf _)) (hlt _ _)) (fun hc => ?_) (fun hc => ?_)
    · rw [if_pos hc] at hR
      refine ExSs.setIdx (EvE.var 5 C rfl rfl (hf _)) (EvE.var 0 C rfl rfl) (EvE.var 2 C rfl rfl) (by lia) (by simp; lia) (by simp; lia) .head ?_
      refine ExSs.let_ 2 C rfl rfl (EvE.var 4 C rfl rfl) rfl ?_
      refine ExSs.cont (hQ .cont _ ⟨(n - 1) / 2, by lia, (n - 1) / 2, ys.set n ys[(n-1)/2], _, _, by rw [List.map_set]; rfl, by simp; lia, by simp [hlen], hR, rfl⟩)
    · refine ExSs.nil ?_
      refine ExSs.brk (hQ .brk _ ?_)
      rw [if_neg (by simp [hc])] at hR
      refine ExSs.setIdx (EvE.var 3 C rfl rfl (hf _)) (EvE.var 0 C rfl rfl) (EvE.var 2 C rfl rfl) (by lia) (by simp; lia) (by simp; lia) .head (ExSs.nil (hQ0 .next _ ⟨rfl, ?_⟩))
      rw [← hR]; simp
  · have hb' : ¬ start < n := by simpa using hb
    rw [sdLoop, dif_neg hb'] at hR
    refine ExSs.setIdx (EvE.var 3 C rfl rfl (hf _)) (EvE.var 0 C rfl rfl) (EvE.var 2 C rfl rfl) (by lia) (by simp; lia) (by simp; lia) .head (ExSs.nil (hQ0 .next _ ⟨rfl, ?_⟩))
    rw [← hR]; simp

/-! _siftup -/
noncomputable def suPick {α : Type} (lt : α → α → Bool) (xs : List α) (pos : Nat) : Nat :=
  match xs[2 * pos + 1]?, xs[2 * pos + 2]? with
  | some l, some r => if !lt l r then 2 * pos + 2 else 2 * pos + 1
  | _, _ => 2 * pos + 1
theorem suPick_lt {α : Type} (lt : α → α → Bool) (xs : List α) (pos : Nat) (h : 2 * pos + 1 < xs.length) : pos < suPick lt xs pos ∧ suPick lt xs pos < xs.length := by
  unfold suPick
  split
  · rename_i l r h1 h2
    have := (List.getElem?_eq_some_iff.mp h2).1
    split <;> lia
  · lia
noncomputable def suLoop {α : Type} (lt : α → α → Bool) (xs : List α) (pos : Nat) : List α × Nat :=
  if h : 2 * pos + 1 < xs.length then
    suLoop lt (xs.set pos (xs[suPick lt xs pos]'(suPick_lt lt xs pos h).2)) (suPick lt xs pos)
  else (xs, pos)
termination_by xs.length - pos
decreasing_by simp only [List.length_set]; have := suPick_lt lt xs pos h; lia
theorem suLoop_spec {α : Type} (lt : α → α → Bool) (xs : List α) (pos : Nat) : (suLoop lt xs pos).1.length = xs.length ∧ (pos < xs.length → (suLoop lt xs pos).2 < xs.length) := by
  fun_induction suLoop lt xs pos with
  | case1 xs pos h ih =>
    simp only [List.length_set] at ih
    have := suPick_lt lt xs pos h
    exact ⟨ih.1, fun _ => ih.2 this.2⟩
  | case2 xs pos h => exact ⟨rfl, id⟩
noncomputable def siftupF {α : Type} (lt : α → α → Bool) (xs : List α) (pos : Nat) (x : α) : List α :=
  sdLoop lt pos x ((suLoop lt xs pos).1.set (suLoop lt xs pos).2 x) (suLoop lt xs pos).2
end
end Mine

/-! ## H2 -/
namespace Mine
section
variable {prog : Program} {w : World} {B : Heap → Prop} {mg mb : Str → Option Value} {fa : Nat → Addr}

theorem sdLoop_length {α : Type} (lt : α → α → Bool) (start : Nat) (x : α) (xs : List α) (pos : Nat) : (sdLoop lt start x xs pos).length = xs.length := by
  fun_induction sdLoop lt start x xs pos <;> simp_all

theorem siftup_ok {α : Type} (f : α → PV) (lt : α → α → Bool) (hf : ∀ a, f a ≠ .undef) (hlt : ∀ a b, CmpR prog w .Lt (f a) (f b) (lt a b)) (Z : Base B mg mb fa) (a : Addr) (xs : List α) (pos : Nat) (x : α) (hx : xs[pos]? = some x) (hl : xs.length ≤ 1000000) :
    FnOk prog w B 2 (.ref (fa 20)) [.ref a, .int pos] [(a, .lst (xs.map f))] (fun pv m => pv = .val .none ∧ m = [(a, .lst ((siftupF lt xs pos x).map f))]) := by
  have hpl : plainDfn (dfn 20) (["heap","pos"].map Str.ofString) (["heap","pos","endpos","startpos","newitem","childpos","rightpos"].map Str.ofString) = true := by decide +kernel
  refine FnOk.def_ Z.toBs (Z.defs 20 (by decide)).2 hpl rfl (fun pm cd doc => len2 fun _ _ => rfl) fun env he => ?_
  have C := he.ok hpl
  refine ExSs.genP fun Q0 hQ0 => ?_
  have hpos : pos < xs.length := (List.getElem?_eq_some_iff.mp hx).1
  refine ExSs.let_ 2 C rfl rfl (EvE.len Z C (kind_of he (by decide +kernel)) (EvE.var 0 C rfl rfl) (CallP.lenL (.head _) (by simp; lia))) rfl ?_
  refine ExSs.let_ 3 C rfl rfl (EvE.var 1 C rfl rfl) rfl ?_
  refine ExSs.let_ 4 C rfl rfl (EvE.idx (EvE.var 0 C rfl rfl) (.head _) (EvE.var 1 C rfl rfl) (by lia) (by lia) (pv := f x) (by simp [hx])) rfl ?_
  refine ExSs.let_ 5 C rfl rfl (EvE.bin (EvE.bin EvE.int (EvE.var 1 C rfl rfl) (BinR.mul (by decide))) EvE.int BinR.add) rfl ?_
  refine ExSs.while_ (fun n σ' => ∃ (k : Nat) (ys : List α) (p6 : PV), σ' = ⟨[.ref a, .int k, .int (xs.length : Nat), .int pos, f x, .int (2 * (k : Int) + 1), p6], [(a, .lst (ys.map f))]⟩ ∧ k < ys.length ∧ ys.length = xs.length ∧ suLoop lt ys k = suLoop lt xs pos ∧ n = ys.length - k) (xs.length - pos)
    ⟨pos, xs, .undef, by simp, hpos, rfl, rfl, rfl⟩ ?_
  rintro n _ ⟨k, ys, p6, rfl, hk, hlen, hR, rfl⟩
  refine ⟨decide ((2 * (k : Int) + 1) < (xs.length : Nat)), EvB.cmp (EvE.var 5 C rfl rfl) (EvE.var 2 C rfl rfl) CmpR.lt, fun hb => ?_, fun hb => ?_⟩
  · have hb' : 2 * k + 1 < ys.length := by rw [hlen]; simp at hb; lia
    have hp := suPick_lt lt ys k hb'
    refine ExSs.genP fun Q hQ => ?_
    rw [suLoop, dif_pos hb'] at hR
    have h1 : ys[2 * k + 1]? = some ys[2 * k + 1] := List.getElem?_eq_getElem hb'
    -- the pick
    have rest : ∀ p6 : PV, ExSs prog w B 1 ⟨env, ["heap","pos","endpos","startpos","newitem","childpos","rightpos"].map Str.ofString, true⟩ ⟨[.ref a, .int k, .int (xs.length : Nat), .int pos, f x, .int (suPick lt ys k : Nat), p6], [(a, .lst (ys.map f))]⟩
        (bodyAt 20 4 |>.drop 2) Q := by
      intro p6
      refine ExSs.setIdx (EvE.idx (EvE.var 0 C rfl rfl) (.head _) (EvE.var 5 C rfl rfl) (by lia) (by lia) (mapIdx f ys (suPick lt ys k) hp.2 _ rfl)) (EvE.var 0 C rfl rfl) (EvE.var 1 C rfl rfl) (by lia) (by simp; lia) (by simp; lia) .head ?_
      refine ExSs.let_ 1 C rfl rfl (EvE.var 5 C rfl rfl) rfl ?_
      refine ExSs.let_ 5 C rfl rfl (EvE.bin (EvE.bin EvE.int (EvE.var 1 C rfl rfl) (BinR.mul (by decide))) EvE.int BinR.add) rfl (ExSs.nil (hQ .next _ ?_))
      exact ⟨ys.length - suPick lt ys k, by lia, suPick lt ys k, ys.set k (ys[suPick lt ys k]'hp.2), p6, by rw [List.map_set]; simp, by simpa using hp.2, by simpa using hlen, hR, by simp⟩
    refine ExSs.let_ 6 C rfl rfl (EvE.bin (EvE.var 5 C rfl rfl) EvE.int BinR.add) rfl ?_
    by_cases hr : 2 * k + 2 < ys.length
    · have h2 : ys[2 * k + 2]? = some ys[2 * k + 2] := List.getElem?_eq_getElem hr
      have hpk : suPick lt ys k = if lt ys[2 * k + 1] ys[2 * k + 2] = false then 2 * k + 2 else 2 * k + 1 := by
        unfold suPick; rw [h1, h2]; simp
      refine ExSs.ite (b := !lt ys[2 * k + 1] ys[2 * k + 2]) ?_ (fun hc => ?_) (fun hc => ?_)
      · refine (EvB.and2 (a := true) (b := !lt ys[2 * k + 1] ys[2 * k + 2]) ((EvB.cmp (EvE.var 6 C rfl rfl) (EvE.var 2 C rfl rfl) CmpR.lt).eq (by simp; lia)) fun _ => EvB.not (EvB.cmp (EvE.idx (EvE.var 0 C rfl rfl) (.head _) (EvE.var 5 C rfl rfl) (by lia) (by lia) (mapIdx f ys (2 * k + 1) hb' _ (by lia)))
          (EvE.idx (EvE.var 0 C rfl rfl) (.head _) (EvE.var 6 C rfl rfl) (by lia) (by lia) (mapIdx f ys (2 * k + 2) hr _ (by lia))) (hlt _ _))).eq (by simp)
      · refine ExSs.let_ 5 C rfl rfl (EvE.var 6 C rfl rfl) rfl (ExSs.nil ?_)
        have := rest (.int (2 * (k : Int) + 1 + 1))
        rw [hpk, if_pos (by simpa using hc)] at this
        exact this
      · refine ExSs.nil ?_
        have := rest (.int (2 * (k : Int) + 1 + 1))
        rw [hpk, if_neg (by simpa using hc)] at this
        exact this
    · have h2 : ys[2 * k + 2]? = none := List.getElem?_eq_none (by lia)
      have hpk : suPick lt ys k = 2 * k + 1 := by
        unfold suPick; rw [h1, h2]
      refine ExSs.ite (b := false) ?_ (fun hc => by cases hc) (fun hc => ?_)
      · exact (EvB.and2 (a := false) (b := false) ((EvB.cmp (EvE.var 6 C rfl rfl) (EvE.var 2 C rfl rfl) CmpR.lt).eq (by simp; lia)) fun q => by cases q).eq rfl
      · refine ExSs.nil ?_
        have := rest (.int (2 * (k : Int) + 1 + 1))
        rw [hpk] at this
        exact this
  · have hb' : ¬ 2 * k + 1 < ys.length := by rw [hlen]; simp at hb; lia
    rw [suLoop, dif_neg hb'] at hR
    refine ExSs.setIdx (EvE.var 4 C rfl rfl (hf _)) (EvE.var 0 C rfl rfl) (EvE.var 1 C rfl rfl) (by lia) (by simp; lia) (by simp; lia) .head ?_
    have hk2 : (ys.set k x)[k]? = some x := by simp [hk]
    refine ExSs.callSE (m0 := [(a, .lst ((ys.set k x).map f))]) (rest := []) 19 Z C (by decide) rfl (kind_of he (by decide +kernel)) (EvAs.cons (EvE.var 0 C rfl rfl) (EvAs.cons (EvE.var 3 C rfl rfl) (EvAs.one (EvE.var 1 C rfl rfl)))) (siftdown_ok f lt hf hlt Z a (ys.set k x) pos k x hk2 (by simp; lia)) (Nat.le_refl _) (by rw [List.map_set]; simp) ?_
    refine ExSs.nil (hQ0 .next _ ⟨rfl, ?_⟩)
    rw [List.append_nil]
    unfold siftupF
    rw [← hR]
end
end Mine

/-! ## H3 -/
namespace Mine
section
variable {prog : Program} {w : World} {B : Heap → Prop} {mg mb : Str → Option Value} {fa : Nat → Addr}

noncomputable def pushF {α : Type} (lt : α → α → Bool) (xs : List α) (x : α) : List α := sdLoop lt 0 x (xs ++ [x]) xs.length
theorem heappush_ok {α : Type} (f : α → PV) (lt : α → α → Bool) (hf : ∀ a, f a ≠ .undef) (hlt : ∀ a b, CmpR prog w .Lt (f a) (f b) (lt a b)) (Z : Base B mg mb fa) (a : Addr) (xs : List α) (x : α) (hl : xs.length < 1000000) :
    FnOk prog w B 2 (.ref (fa 16)) [.ref a, f x] [(a, .lst (xs.map f))] (fun pv m => pv = .val .none ∧ m = [(a, .lst ((pushF lt xs x).map f))]) := by
  have hpl : plainDfn (dfn 16) (["heap","item"].map Str.ofString) (["heap","item"].map Str.ofString) = true := by decide +kernel
  refine FnOk.def_ Z.toBs (Z.defs 16 (by decide)).2 hpl rfl (fun pm cd doc => len2 fun _ _ => rfl) fun env he => ?_
  have C := he.ok hpl
  refine ExSs.append (EvE.var 0 C rfl rfl) (EvE.var 1 C rfl rfl (hf x)) .head (by simp; lia) ?_
  have e : (MO.lst (xs.map f ++ [f x])) = MO.lst ((xs ++ [x]).map f) := by simp
  refine ExSs.callS (m0 := [(a, .lst ((xs ++ [x]).map f))]) (rest := []) 19 Z C (by decide) rfl (kind_of he (by decide +kernel)) (EvAs.cons (EvE.var 0 C rfl rfl) (EvAs.cons (EvE.int (i := (0 : Nat))) (EvAs.one ((EvE.bin (EvE.len Z C (kind_of he (by decide +kernel)) (EvE.var 0 C rfl rfl) (CallP.lenL (.head _) (by simp; lia))) EvE.int BinR.sub).eq (b' := .int (xs.length : Nat)) (by simp))))) (siftdown_ok f lt hf hlt Z a (xs ++ [x]) 0 xs.length x (by simp) (by simp; lia)) (Nat.le_refl _) (by rw [e]; simp) (fun _ _ q => q.1) fun m1 q => ?_
  refine ExSs.nil ⟨rfl, ?_⟩
  rw [q.2, List.append_nil]
  rfl

noncomputable def popF {α : Type} (lt : α → α → Bool) (ys : List α) (l : α) : α × List α :=
  match ys with
  | [] => (l, [])
  | y :: ys => (y, siftupF lt (l :: ys) 0 l)
theorem heappop_ok {α : Type} (f : α → PV) (lt : α → α → Bool) (hf : ∀ a, f a ≠ .undef) (hlt : ∀ a b, CmpR prog w .Lt (f a) (f b) (lt a b)) (Z : Base B mg mb fa) (a : Addr) (ys : List α) (l : α) (hl : ys.length < 1000000) :
    FnOk prog w B 3 (.ref (fa 17)) [.ref a] [(a, .lst ((ys ++ [l]).map f))] (fun pv m => pv = f (popF lt ys l).1 ∧ m = [(a, .lst ((popF lt ys l).2.map f))]) := by
  have hpl : plainDfn (dfn 17) (["heap"].map Str.ofString) (["heap","lastelt","returnitem"].map Str.ofString) = true := by decide +kernel
  refine FnOk.def_ Z.toBs (Z.defs 17 (by decide)).2 hpl rfl (fun pm cd doc => len1 fun _ => rfl) fun env he => ?_
  have C := he.ok hpl
  refine ExSs.letM (P1 := fun pv m => pv = f l ∧ m = [(a, .lst (ys.map f))]) 1 C rfl rfl (EvM.pop (xs := ys.map f) (pv := f l) (EvE.var 0 C rfl rfl) (by simpa using Put.head) (by simp; lia) ⟨rfl, rfl⟩) rfl ?_
  rintro _ _ ⟨rfl, rfl⟩
  cases ys with
  | nil =>
    refine ExSs.ite (EvB.val (EvE.var 0 C rfl rfl) (TruR.lst (.head _) (by simp))) (fun hc => by cases hc) (fun hc => ExSs.nil ?_)
    exact ExSs.retE (EvE.var 1 C rfl rfl (hf l)) ⟨rfl, rfl⟩
  | cons y ys =>
    refine ExSs.ite (EvB.val (EvE.var 0 C rfl rfl) (TruR.lst (.head _) (by simp at hl ⊢; lia))) (fun hc => ?_) (fun hc => by cases hc)
    refine ExSs.let_ 2 C rfl rfl (EvE.idx (EvE.var 0 C rfl rfl) (.head _) EvE.int (by decide) (by decide) (pv := f y) rfl) rfl ?_
    refine ExSs.setIdx (EvE.var 1 C rfl rfl (hf _)) (EvE.var 0 C rfl rfl) EvE.int (by decide) (by simp) (by simp at hl ⊢; lia) .head ?_
    refine ExSs.callS (m0 := [(a, .lst ((l :: ys).map f))]) (rest := []) 20 Z C (by decide) rfl (kind_of he (by decide +kernel)) (EvAs.cons (EvE.var 0 C rfl rfl) (EvAs.one (EvE.int (i := (0 : Nat))))) (siftup_ok f lt hf hlt Z a (l :: ys) 0 l rfl (by simp at hl ⊢; lia)) (Nat.le_refl _) (by simp) (fun _ _ q => q.1) fun m1 q => ?_
    refine ExSs.retE (EvE.var 2 C rfl rfl (hf y)) ⟨rfl, ?_⟩
    rw [q.2, List.append_nil]
    rfl
end
end Mine

/-! ## H4 -/
namespace Mine
section
variable {prog : Program} {w : World} {B : Heap → Prop} {mg mb : Str → Option Value} {fa : Nat → Addr}

theorem siftupF_length {α : Type} (lt : α → α → Bool) (xs : List α) (pos : Nat) (x : α) : (siftupF lt xs pos x).length = xs.length := by
  unfold siftupF
  rw [sdLoop_length, List.length_set, (suLoop_spec lt xs pos).1]

/-- the turns of heapify -/
noncomputable def heapifyF {α : Type} (lt : α → α → Bool) : Nat → List α → List α
  | 0, xs => xs
  | i + 1, xs => heapifyF lt i (match xs[i]? with | some x => siftupF lt xs i x | none => xs)

theorem heapify_ok {α : Type} (f : α → PV) (lt : α → α → Bool) (hf : ∀ a, f a ≠ .undef) (hlt : ∀ a b, CmpR prog w .Lt (f a) (f b) (lt a b)) (Z : Base B mg mb fa) (a : Addr) (xs : List α) (hl : xs.length ≤ 1000000) :
    FnOk prog w B 3 (.ref (fa 18)) [.ref a] [(a, .lst (xs.map f))] (fun pv m => pv = .val .none ∧ m = [(a, .lst ((heapifyF lt (xs.length / 2) xs).map f))]) := by
  have hpl : plainDfn (dfn 18) (["x"].map Str.ofString) (["x","n","i"].map Str.ofString) = true := by decide +kernel
  refine FnOk.def_ Z.toBs (Z.defs 18 (by decide)).2 hpl rfl (fun pm cd doc => len1 fun _ => rfl) fun env he => ?_
  have C := he.ok hpl
  refine ExSs.let_ 1 C rfl rfl (EvE.len Z C (kind_of he (by decide +kernel)) (EvE.var 0 C rfl rfl) (CallP.lenL (.head _) (by simp; lia))) rfl ?_
  refine ExSs.forCore (n := xs.length / 2) Z.toBs (IterR.rev (n := xs.length / 2) Z C (kind_of he (by decide +kernel)) (EvRg.one Z C (kind_of he (by decide +kernel)) ((EvE.bin (EvE.var 1 C rfl rfl) EvE.int (BinR.fdiv (by decide) (by decide))).eq (b' := .int (xs.length / 2 : Nat)) (by simp))) (by lia))
    (fun i σ' => ∃ (ys : List α) (p : PV), σ' = ⟨[.ref a, .int (xs.length : Nat), p], [(a, .lst (ys.map f))]⟩ ∧ ys.length = xs.length ∧ heapifyF lt (xs.length / 2 - i) ys = heapifyF lt (xs.length / 2) xs) ⟨xs, _, by simp; rfl, rfl, rfl⟩ ?_ ?_
  · rintro i _ hi ⟨ys, p, rfl, hlen, hR⟩
    refine ⟨_, AsgR.name 2 C rfl rfl, ?_⟩
    obtain ⟨k, hk⟩ : ∃ k, xs.length / 2 - i = k + 1 := ⟨xs.length / 2 - i - 1, by lia⟩
    have hk2 : k < ys.length := by lia
    have hx : ys[k]? = some ys[k] := List.getElem?_eq_getElem hk2
    rw [hk, heapifyF, hx] at hR
    dsimp only at hR
    refine ExSs.callS (m0 := [(a, .lst (ys.map f))]) (rest := []) 20 Z C (by decide) rfl (kind_of he (by decide +kernel)) (EvAs.cons (EvE.var 0 C rfl rfl) (EvAs.one ((EvE.var 2 C rfl rfl).eq (b' := .int (k : Nat)) (by simp; lia)))) (siftup_ok f lt hf hlt Z a ys k _ hx (by lia)) (Nat.le_refl _) (by simp) (fun _ _ q => q.1) fun m1 q => ?_
    refine ExSs.nil ?_
    rw [q.2, List.append_nil]
    exact ⟨_, _, rfl, by rw [siftupF_length]; exact hlen, by rw [show xs.length / 2 - (i + 1) = k by lia]; exact hR⟩
  · rintro _ ⟨ys, p, rfl, hlen, hR⟩
    refine ExSs.nil ⟨rfl, ?_⟩
    rw [Nat.sub_self, heapifyF] at hR
    rw [hR]; rfl
end
end Mine

/-! ## P3 -/
namespace Mine
noncomputable abbrev nI (n : Nat) : PV := .int n
noncomputable def ltN (a b : Nat) : Bool := decide (a < b)
noncomputable def seenT : List Nat → Int → Bool
  | [], _ => false
  | x :: r, k => seenT r k || decide (k = (x : Int))
noncomputable def popL (ways : List Nat) : Nat × List Nat := popF ltN ways.dropLast (ways.getLastD 0)
noncomputable def wNew (st : List Nat × List Nat) (s : Nat) : List Nat × List Nat := if seenT st.2 s then st else (pushF ltN st.1 s, s :: st.2)
noncomputable def wSteps (ps : List Sg) (name : Sg) (way : Nat) : List Nat :=
  if way % 64 = ps.length then [] else
    let p := ps.getD (way % 64) []
    if (p == cHeld || p == cFar) then (if way / 64 < name.length then [way + 1, way + 64] else [way + 1])
    else if p == cShut then [way + 1]
    else if ((name.drop (way / 64)).take 1 == p) then [way + 65] else []
noncomputable def wEnds (ps : List Sg) (way : Nat) : List Nat := if way % 64 = ps.length then [way / 64] else []
/-- the ways, one after the other; at most so many turns -/
noncomputable def endsRun (ps : List Sg) (name : Sg) : Nat → List Nat → List Nat → List Nat → Option (List Nat)
  | 0, ways, _, ends => if ways = [] then some ends else none
  | n + 1, ways, seen, ends => if ways = [] then some ends else
      endsRun ps name n ((wSteps ps name (popL ways).1).foldl wNew ((popL ways).2, seen)).1 ((wSteps ps name (popL ways).1).foldl wNew ((popL ways).2, seen)).2 (ends ++ wEnds ps (popL ways).1)

section
variable {prog : Program} {w : World} {B : Heap → Prop} {mg mb : Str → Option Value} {fa : Nat → Addr} {d : Nat} {c : Cx} {σ : St}

theorem nI_ne (a : Nat) : nI a ≠ .undef := by nofun
theorem ltN_cmp (a b : Nat) : CmpR prog w .Lt (nI a) (nI b) (ltN a b) := by
  have : ltN a b = decide ((a : Int) < (b : Int)) := by unfold ltN; rw [Bool.eq_iff_iff]; simp
  rw [this]; exact CmpR.lt

theorem ExSs.sub {ts : List Stmt} {P : FL → St → Prop} {m' : Ledger} (hp : m'.Sublist σ.mem) (h : ExSs prog w B d c ⟨σ.vars, m'⟩ ts P) : ExSs prog w B d c σ ts P :=
  ExSs.less h (fun p hp' => hp.subset hp') (fun nd => nd.sublist (hp.map _)) fun _ _ e => .inr e

theorem pushF_length {α : Type} (lt : α → α → Bool) (xs : List α) (x : α) : (pushF lt xs x).length = xs.length + 1 := by
  unfold pushF; rw [sdLoop_length]; simp
theorem popF_length {α : Type} (lt : α → α → Bool) (ys : List α) (l : α) : (popF lt ys l).2.length = ys.length := by
  unfold popF
  cases ys with
  | nil => rfl
  | cons y ys => simp [siftupF_length]

/-! what a heap holds -/
theorem sdLoop_mem {α : Type} (lt : α → α → Bool) (start : Nat) (x : α) (xs : List α) (pos : Nat) (P : α → Prop) (hx : P x) (h : ∀ y ∈ xs, P y) : ∀ y ∈ sdLoop lt start x xs pos, P y := by
  fun_induction sdLoop lt start x xs pos with
  | case1 xs pos h1 p hp h2 ih =>
    refine ih fun y hy => ?_
    rcases List.mem_or_eq_of_mem_set hy with hy | rfl
    · exact h y hy
    · exact h _ (List.mem_of_getElem? hp)
  | case2 xs pos h1 p hp h2 => intro y hy; rcases List.mem_or_eq_of_mem_set hy with hy | rfl; (· exact h y hy); exact hx
  | case3 xs pos h1 h2 => intro y hy; rcases List.mem_or_eq_of_mem_set hy with hy | rfl; (· exact h y hy); exact hx
  | case4 xs pos h1 => intro y hy; rcases List.mem_or_eq_of_mem_set hy with hy | rfl; (· exact h y hy); exact hx
theorem suLoop_mem {α : Type} (lt : α → α → Bool) (xs : List α) (pos : Nat) (P : α → Prop) (h : ∀ y ∈ xs, P y) : ∀ y ∈ (suLoop lt xs pos).1, P y := by
  fun_induction suLoop lt xs pos with
  | case1 xs pos h1 ih =>
    refine ih fun y hy => ?_
    rcases List.mem_or_eq_of_mem_set hy with hy | rfl
    · exact h y hy
    · exact h _ (List.getElem_mem _)
  | case2 xs pos h1 => exact h
theorem siftupF_mem {α : Type} (lt : α → α → Bool) (xs : List α) (pos : Nat) (x : α) (P : α → Prop) (hx : P x) (h : ∀ y ∈ xs, P y) : ∀ y ∈ siftupF lt xs pos x, P y := by
  unfold siftupF
  refine sdLoop_mem lt _ x _ _ P hx fun y hy => ?_
  rcases List.mem_or_eq_of_mem_set hy with hy | rfl
  · exact suLoop_mem lt xs pos P h y hy
  · exact hx
theorem pushF_mem {α : Type} (lt : α → α → Bool) (xs : List α) (x : α) (P : α → Prop) (hx : P x) (h : ∀ y ∈ xs, P y) : ∀ y ∈ pushF lt xs x, P y := by
  unfold pushF
  refine sdLoop_mem lt _ x _ _ P hx fun y hy => ?_
  rcases List.mem_append.mp hy with hy | hy
  · exact h y hy
  · rw [List.mem_singleton.mp hy]; exact hx
theorem popF_mem {α : Type} (lt : α → α → Bool) (ys : List α) (l : α) (P : α → Prop) (hl : P l) (h : ∀ y ∈ ys, P y) : P (popF lt ys l).1 ∧ ∀ y ∈ (popF lt ys l).2, P y := by
  unfold popF
  cases ys with
  | nil => exact ⟨hl, by simp⟩
  | cons y ys => exact ⟨h y (.head _), siftupF_mem lt _ _ _ P hl fun z hz => by
      rcases List.mem_cons.mp hz with rfl | hz
      · exact hl
      · exact h z (.tail _ hz)⟩

theorem law_ends_ok (Z : Base B mg mb fa) (ap : Addr) (ps : List Sg) (name : Sg) (hl : name.length ≤ 1000) (hn : ps.length ≤ 63) (N : Nat) (hN : N ≤ 1000) (r : List Nat) (hrun : endsRun ps name N [0] [0] [] = some r) :
    FnOk prog w B 4 (.ref (fa 24)) [.ref ap, .str name] [(ap, .lst (ps.map .str))] (fun pv m => ∃ a, pv = .ref a ∧ (a, .lst (r.map nI)) ∈ m ∧ (ap, .lst (ps.map .str)) ∈ m) := by
  have hpl : plainDfn (dfn 24) (["pieces","name"].map Str.ofString) (["pieces","name","ways","seen","ends","way","at","k","steps","step"].map Str.ofString) = true := by decide +kernel
  refine FnOk.def_ Z.toBs (Z.defs 24 (by decide)).2 hpl rfl (fun pm cd doc => len2 fun _ _ => rfl) fun env he => ?_
  have C := he.ok hpl
  refine ExSs.genP fun Q0 hQ0 => ?_
  refine ExSs.letList (ps := [0].map nI) 2 C rfl rfl (EvAs.one (EvE.int (i := (0 : Nat)))) (Nat.le_of_ble_eq_true rfl) fun aw => ?_
  refine ExSs.letA (fun as => [(as, .set (seenT [0]) 1), (aw, .lst ([0].map nI)), (ap, .lst (ps.map .str))]) 3 C rfl rfl (fun _ q => EvM.setOne he (EvE.int (i := (0 : Nat))) q) fun as => ?_
  refine ExSs.letNil 4 C rfl rfl fun ae => ?_
  refine ExSs.while_ (fun n σ' => ∃ (ways seen ends : List Nat) (p5 p6 p7 p8 p9 : PV), σ' = ⟨[.ref ap, .str name, .ref aw, .ref as, .ref ae, p5, p6, p7, p8, p9], [(ae, .lst (ends.map nI)), (as, .set (seenT seen) seen.length), (aw, .lst (ways.map nI)), (ap, .lst (ps.map .str))]⟩ ∧
      endsRun ps name n ways seen ends = some r ∧ (∀ x ∈ ways, x % 64 ≤ ps.length) ∧ ways.length + 2 * n ≤ 2001 ∧ seen.length + 2 * n ≤ 2001 ∧ ends.length + n ≤ 1000) N
    ⟨[0], [0], [], .undef, .undef, .undef, .undef, .undef, rfl, hrun, by simp, by simp; lia, by simp; lia, by simp; lia⟩ ?_
  rintro n _ ⟨ways, seen, ends, p5, p6, p7, p8, p9, rfl, hR, hk, hw, hs, hen⟩
  refine ⟨decide (ways ≠ []), EvB.neDisp (f := nI) EqF.nat (EvE.var 2 C rfl rfl) (.tail _ (.tail _ (.head _))) (ys := []) EvAs.nil (by simp), fun hb => ?_, fun hb => ?_⟩
  · have hne : ways ≠ [] := by simpa using hb
    obtain ⟨n, rfl⟩ : ∃ k, n = k + 1 := by
      cases n with
      | zero => rw [endsRun, if_neg hne] at hR; cases hR
      | succ k => exact ⟨k, rfl⟩
    refine ExSs.genP fun Q hQ => ?_
    · rw [endsRun, if_neg hne] at hR
      have hsplit : ways = ways.dropLast ++ [ways.getLastD 0] := by
        rcases List.eq_nil_or_concat ways with h | ⟨l, x, rfl⟩
        · exact absurd h hne
        · simp
      have hmem := popF_mem ltN ways.dropLast (ways.getLastD 0) (fun x => x % 64 ≤ ps.length) (hk _ (by rw [hsplit]; simp)) (fun y hy => hk y ((List.dropLast_sublist ways).subset hy))
      have hpl2 : (popL ways).2.length = ways.length - 1 := by unfold popL; rw [popF_length]; simp
      refine ExSs.letFE (m0 := [(aw, .lst (ways.map nI))]) (rest := [(ae, .lst (ends.map nI)), (as, .set (seenT seen) seen.length), (ap, .lst (ps.map .str))]) (v := nI (popL ways).1) (m1 := [(aw, .lst ((popL ways).2.map nI))]) 5 17 Z C rfl rfl (by decide) rfl (kind_of he (by decide +kernel)) (EvAs.one (EvE.var 2 C rfl rfl))
        (by have := heappop_ok nI ltN nI_ne (ltN_cmp (prog := prog) (w := w)) Z aw ways.dropLast (ways.getLastD 0) (by simp; lia); rw [← hsplit] at this; exact this) (Nat.le_refl _) (by
          refine List.Perm.trans (List.Perm.swap _ _ _) (List.Perm.cons _ ?_)
          exact List.Perm.swap _ _ _) ?_
      generalize hway : (popL ways).1 = way at *
      generalize hws : (popL ways).2 = ws at *
      have hway64 : way % 64 ≤ ps.length := by have := hmem.1; rw [← hway]; exact this
      have hwsm : ∀ x ∈ ws, x % 64 ≤ ps.length := by intro x hx; rw [← hws] at hx; exact hmem.2 x hx
      have hcast1 : ((way : Nat) : Int) / 64 = ((way / 64 : Nat) : Int) := by lia
      have hcast2 : ((way : Nat) : Int) % 64 = ((way % 64 : Nat) : Int) := by lia
      refine ExSs.divmod 6 7 Z C rfl rfl rfl (kind_of he (by decide +kernel)) (EvE.var 5 C rfl rfl) EvE.int (by decide) (by decide) ?_
      rw [hcast1, hcast2]
      refine ExSs.letNil 8 C rfl rfl fun a1 => ?_
      -- the new ways
      have rest : ∀ (a2 : Addr) (g : Ledger), (∀ x ∈ wSteps ps name way, x % 64 ≤ ps.length) → (wSteps ps name way).length ≤ 2 →
          ExSs prog w B 3 ⟨env, ["pieces","name","ways","seen","ends","way","at","k","steps","step"].map Str.ofString, true⟩
          ⟨[.ref ap, .str name, .ref aw, .ref as, .ref ae, nI way, .int (way / 64 : Nat), .int (way % 64 : Nat), .ref a2, p9], (a2, .lst ((wSteps ps name way).map nI)) :: (g ++ [(aw, .lst (ws.map nI)), (ae, .lst ((ends ++ wEnds ps way).map nI)), (as, .set (seenT seen) seen.length), (ap, .lst (ps.map .str))])⟩
          (bodyAt 24 3 |>.drop 4) Q := by
        intro a2 g hst64 hst2
        refine ExSs.sub (m' := (a2, .lst ((wSteps ps name way).map nI)) :: [(aw, .lst (ws.map nI)), (ae, .lst ((ends ++ wEnds ps way).map nI)), (as, .set (seenT seen) seen.length), (ap, .lst (ps.map .str))]) (List.Sublist.cons_cons _ (List.sublist_append_right _ _)) ?_
        refine ExSs.forCore (n := ((wSteps ps name way).map nI).length) Z.toBs (IterR.list (xs := (wSteps ps name way).map nI) (m' := [(aw, .lst (ws.map nI)), (ae, .lst ((ends ++ wEnds ps way).map nI)), (as, .set (seenT seen) seen.length), (ap, .lst (ps.map .str))]) (EvE.var 8 C rfl rfl) (List.Perm.refl _))
          (fun i σ' => ∃ (st : List Nat × List Nat) (p9 : PV), σ' = ⟨[.ref ap, .str name, .ref aw, .ref as, .ref ae, nI way, .int (way / 64 : Nat), .int (way % 64 : Nat), .ref a2, p9], [(aw, .lst (st.1.map nI)), (ae, .lst ((ends ++ wEnds ps way).map nI)), (as, .set (seenT st.2) st.2.length), (ap, .lst (ps.map .str))]⟩ ∧
            ((wSteps ps name way).drop i).foldl wNew st = (wSteps ps name way).foldl wNew (ws, seen) ∧ (∀ x ∈ st.1, x % 64 ≤ ps.length) ∧ st.1.length ≤ ws.length + i ∧ st.2.length ≤ seen.length + i) ⟨(ws, seen), p9, rfl, rfl, hwsm, Nat.le_refl _, Nat.le_refl _⟩ ?_ ?_
        · rintro i _ hi ⟨st, p9, rfl, hS, hS64, hl1, hl2⟩
          refine ⟨_, AsgR.name 9 C rfl rfl, ExSs.genP fun R hR => ?_⟩
          have hi' : i < (wSteps ps name way).length := by simpa using hi
          have hget : ((wSteps ps name way).map nI).getD i .undef = nI (wSteps ps name way)[i] := by
            rw [List.getD_eq_getElem?_getD, List.getElem?_map, List.getElem?_eq_getElem hi']; rfl
          rw [hget]
          rw [List.drop_eq_getElem_cons hi', List.foldl_cons] at hS
          generalize hx : (wSteps ps name way)[i] = x at *
          have hx64 : x % 64 ≤ ps.length := by rw [← hx]; exact hst64 _ (List.getElem_mem hi')
          refine ExSs.ifL (EvB.notInSet (EvE.var 9 C rfl rfl) (EvE.var 3 C rfl rfl) (.tail _ (.tail _ (.head _)))) (fun hc => ?_) (fun hc => ?_)
          · have hc' : seenT st.2 x = false := by simpa using hc
            refine ExSs.setAdd (EvE.var 3 C rfl rfl) (EvE.var 9 C rfl rfl) (.tail (.tail .head)) (by lia) ?_
            rw [hc']
            refine ExSs.callS (m0 := [(aw, .lst (st.1.map nI))]) (rest := [(ae, .lst ((ends ++ wEnds ps way).map nI)), (as, .set (seenT (x :: st.2)) (x :: st.2).length), (ap, .lst (ps.map .str))]) 16 Z C (by decide) rfl (kind_of he (by decide +kernel)) (EvAs.cons (EvE.var 2 C rfl rfl) (EvAs.one (EvE.var 9 C rfl rfl)))
              (heappush_ok nI ltN nI_ne ltN_cmp Z aw st.1 x (by lia)) (by decide) (List.Perm.refl _) (fun _ _ q => q.1) fun m1 q => ?_
            rw [q.2]
            refine ExSs.nil (hR .next _ ⟨(pushF ltN st.1 x, x :: st.2), _, rfl, ?_, pushF_mem ltN st.1 x _ hx64 hS64, by rw [pushF_length]; lia, by simp; lia⟩)
            rw [← hS]; unfold wNew; rw [if_neg (by rw [hc']; decide)]
          · have hc' : seenT st.2 x = true := by simpa using hc
            refine ExSs.nil (hR .next _ ⟨st, _, rfl, ?_, hS64, by lia, by lia⟩)
            rw [← hS]; unfold wNew; rw [if_pos hc']
        · rintro _ ⟨st, p9, rfl, hS, hS64, hl1, hl2⟩
          rw [List.length_map] at hS hl1 hl2
          rw [List.drop_length, List.foldl_nil] at hS
          refine ExSs.perm (m' := [(ae, .lst ((ends ++ wEnds ps way).map nI)), (as, .set (seenT st.2) st.2.length), (aw, .lst (st.1.map nI)), (ap, .lst (ps.map .str)), (a2, .lst ((wSteps ps name way).map nI))]) (by
            refine List.Perm.trans ?_ (List.perm_append_comm (l₂ := [(a2, MO.lst ((wSteps ps name way).map nI))]) (l₁ := [(aw, .lst (st.1.map nI)), (ae, .lst ((ends ++ wEnds ps way).map nI)), (as, .set (seenT st.2) st.2.length), (ap, .lst (ps.map .str))]))
            exact (List.perm_append_comm (l₁ := [(ae, MO.lst ((ends ++ wEnds ps way).map nI)), (as, .set (seenT st.2) st.2.length)]) (l₂ := [(aw, MO.lst (st.1.map nI))])).append_right [(ap, MO.lst (ps.map .str)), (a2, .lst ((wSteps ps name way).map nI))]) ?_
          refine ExSs.sub (m' := [(ae, .lst ((ends ++ wEnds ps way).map nI)), (as, .set (seenT st.2) st.2.length), (aw, .lst (st.1.map nI)), (ap, .lst (ps.map .str))]) (by simp) (ExSs.nil (hQ .next _ ?_))
          refine ⟨n, by lia, st.1, st.2, ends ++ wEnds ps way, _, _, _, _, _, rfl, ?_, hS64, by lia, by lia, ?_⟩
          · rw [← hR, ← hS]
          · unfold wEnds; split <;> simp <;> lia
      have hmp : (ap, MO.lst (ps.map PV.str)) ∈ ([(a1, .lst (([] : List Nat).map nI)), (aw, .lst (ws.map nI)), (ae, .lst (ends.map nI)), (as, .set (seenT seen) seen.length), (ap, .lst (ps.map .str))] : Ledger) := by simp
      refine ExSs.ite (EvB.cmp (EvE.var 7 C rfl rfl) (EvE.len Z C (kind_of he (by decide +kernel)) (EvE.var 0 C rfl rfl) (CallP.lenL hmp (by simp; lia))) CmpR.eqI) (fun hc => ?_) (fun hc => ?_)
      · have hc' : way % 64 = ps.length := by simp at hc; lia
        refine ExSs.append (EvE.var 4 C rfl rfl) (EvE.var 6 C rfl rfl) (.tail (.tail .head)) (by simp; lia) (ExSs.nil ?_)
        have h1 : wSteps ps name way = [] := by unfold wSteps; rw [if_pos hc']
        have h2 : wEnds ps way = [way / 64] := by unfold wEnds; rw [if_pos hc']
        have := rest a1 [] (by rw [h1]; simp) (by rw [h1]; simp)
        rw [h1, h2, List.map_append] at this
        exact this
      · have hc' : ¬ way % 64 = ps.length := by simp at hc; lia
        have hwe : wEnds ps way = [] := by unfold wEnds; rw [if_neg hc']
        have hlt : way % 64 < ps.length := by lia
        have hpk : (ps.map PV.str)[((way % 64 : Nat) : Int).toNat]? = some (.str (ps.getD (way % 64) [])) := by
          rw [Int.toNat_natCast, List.getElem?_map, List.getD_eq_getElem?_getD, List.getElem?_eq_getElem hlt]; rfl
        have hws0 : wSteps ps name way = (let p := ps.getD (way % 64) []
            if (p == cHeld || p == cFar) then (if way / 64 < name.length then [way + 1, way + 64] else [way + 1])
            else if p == cShut then [way + 1]
            else if ((name.drop (way / 64)).take 1 == p) then [way + 65] else []) := by unfold wSteps; rw [if_neg hc']
        dsimp only at hws0
        generalize ps.getD (way % 64) [] = p at hpk hws0
        refine ExSs.ifL (EvB.inTup2 (EvE.idx (EvE.var 0 C rfl rfl) hmp (EvE.var 7 C rfl rfl) (by lia) (by lia) hpk) (EvE.strL cHeld) (EvE.strL cFar)) (fun hd => ?_) (fun hd => ?_)
        · rw [if_pos hd] at hws0
          refine ExSs.letA (fun a2 => (a2, .lst ((wSteps ps name way).map nI)) :: [(a1, .lst (([] : List Nat).map nI)), (aw, .lst (ws.map nI)), (ae, .lst (ends.map nI)), (as, .set (seenT seen) seen.length), (ap, .lst (ps.map .str))]) 8 C rfl rfl (fun P1 hP1 => EvM.ite (EvB.cmp (EvE.var 6 C rfl rfl) (EvE.len Z C (kind_of he (by decide +kernel)) (EvE.var 1 C rfl rfl) (CallP.lenS (by lia))) CmpR.lt) (fun hq => ?_) (fun hq => ?_)) fun a2 => ?_
          · have hq' : way / 64 < name.length := by simp at hq; lia
            rw [hws0, if_pos hq'] at hP1
            exact EvM.listE (EvAs.cons ((EvE.bin (EvE.var 5 C rfl rfl) EvE.int BinR.add).eq (b' := nI (way + 1)) (congrArg PV.int (by lia))) (EvAs.one ((EvE.bin (EvE.var 5 C rfl rfl) EvE.int BinR.add).eq (b' := nI (way + 64)) (congrArg PV.int (by lia))))) (Nat.le_of_ble_eq_true rfl) hP1
          · have hq' : ¬ way / 64 < name.length := by simp at hq; lia
            rw [hws0, if_neg hq'] at hP1
            exact EvM.listE (EvAs.one ((EvE.bin (EvE.var 5 C rfl rfl) EvE.int BinR.add).eq (b' := nI (way + 1)) (congrArg PV.int (by lia)))) (Nat.le_of_ble_eq_true rfl) hP1
          · refine ExSs.nil ?_
            have := rest a2 [(a1, .lst (([] : List Nat).map nI))] (by rw [hws0]; split <;> simp <;> lia) (by rw [hws0]; split <;> simp)
            rw [hwe, List.append_nil] at this
            exact this
        · rw [if_neg (by rw [hd]; decide)] at hws0
          refine ExSs.ifL (EvB.cmp (EvE.idx (EvE.var 0 C rfl rfl) hmp (EvE.var 7 C rfl rfl) (by lia) (by lia) hpk) (EvE.strL cShut) CmpR.eqS) (fun hd2 => ?_) (fun hd2 => ?_)
          · rw [if_pos hd2] at hws0
            have hst := hws0
            refine ExSs.letList (ps := [nI (way + 1)]) 8 C rfl rfl (EvAs.one ((EvE.bin (EvE.var 5 C rfl rfl) EvE.int BinR.add).eq (b' := nI (way + 1)) (congrArg PV.int (by lia)))) (Nat.le_of_ble_eq_true rfl) fun a2 => ?_
            refine ExSs.nil ?_
            have := rest a2 [(a1, .lst (([] : List Nat).map nI))] (by rw [hst]; simp; lia) (by rw [hst]; simp)
            rw [hst, hwe, List.append_nil] at this
            exact this
          · rw [if_neg (by rw [hd2]; decide)] at hws0
            refine ExSs.ifL (EvB.cmp ((EvE.slice (EvE.var 1 C rfl rfl) (l := some ((way / 64 : Nat) : Int)) (u := some (((way / 64 : Nat) : Int) + 1)) (EvP.s (EvE.var 6 C rfl rfl)) (EvP.s (EvE.bin (EvE.var 6 C rfl rfl) EvE.int BinR.add)) (by lia)).eq (b' := .str ((name.drop (way / 64)).take 1)) (by rw [pySl_nat name (way / 64) (way / 64 + 1) _ _ rfl (by simp)]; simp)) (EvE.idx (EvE.var 0 C rfl rfl) hmp (EvE.var 7 C rfl rfl) (by lia) (by lia) hpk) CmpR.eqS) (fun hd3 => ?_) (fun hd3 => ?_)
            · rw [if_pos hd3] at hws0
              have hst := hws0
              refine ExSs.letList (ps := [nI (way + 65)]) 8 C rfl rfl (EvAs.one ((EvE.bin (EvE.var 5 C rfl rfl) EvE.int BinR.add).eq (b' := nI (way + 65)) (congrArg PV.int (by lia)))) (Nat.le_of_ble_eq_true rfl) fun a2 => ?_
              refine ExSs.nil ?_
              have := rest a2 [(a1, .lst (([] : List Nat).map nI))] (by rw [hst]; simp; lia) (by rw [hst]; simp)
              rw [hst, hwe, List.append_nil] at this
              exact this
            · rw [if_neg (by rw [hd3]; decide)] at hws0
              refine ExSs.nil ?_
              have := rest a1 [] (by rw [hws0]; simp) (by rw [hws0]; simp)
              rw [hws0, hwe, List.append_nil] at this
              exact this
  · have hne : ways = [] := by simpa using hb
    have hR : some ends = some r := by rw [← hR]; cases n <;> rw [endsRun, if_pos hne]
    exact ExSs.retE (EvE.var 4 C rfl rfl) (hQ0 (.ret _) _ ⟨ae, rfl, by rw [Option.some.inj hR]; exact .head _, .tail _ (.tail _ (.tail _ (.head _)))⟩)
end
end Mine

/-! ## P6 -/
namespace Mine
noncomputable def itm (st : Addr) : Option Sg → PV
  | none => .ref st
  | some x => .str x
noncomputable def textsOf (l : List (Option Sg)) : List Sg := l.filterMap id
noncomputable def joinTail : List (Option Sg) → List Sg
  | [] => []
  | _ :: [] => [[46, 42]]
  | _ :: y :: r =>
    if (y :: r).dropWhile (·.isSome) = [] then [[46, 42], (textsOf ((y :: r).takeWhile (·.isSome))).flatten]
    else holdF (textsOf ((y :: r).takeWhile (·.isSome))).flatten :: joinTail ((y :: r).dropWhile (·.isSome))
termination_by l => l.length
decreasing_by
  simp_wf
  have := (List.dropWhile_sublist (l := y :: r) (·.isSome)).length_le
  simp at this; lia
noncomputable def joinAll (l : List (Option Sg)) : List Sg := textsOf (l.takeWhile (·.isSome)) ++ joinTail (l.dropWhile (·.isSome))
noncomputable def joinF2 (l : List (Option Sg)) : Sg := [40, 63, 115, 58] ++ (joinAll l).flatten ++ [41, 92, 90]
/-- no star behind a star -/
noncomputable def apart : List (Option Sg) → Prop
  | none :: none :: _ => False
  | _ :: r => apart r
  | [] => True


theorem joinAll_some (x : Sg) (r : List (Option Sg)) : joinAll (some x :: r) = x :: joinAll r := by
  unfold joinAll
  simp [textsOf]
theorem joinAll_tail (l : List (Option Sg)) (h : l = [] ∨ ∃ r, l = none :: r) : joinAll l = joinTail l := by
  rcases h with rfl | ⟨r, rfl⟩ <;> (unfold joinAll; simp [textsOf])
theorem texts_len {l : List (Option Sg)} (h : ∀ x, some x ∈ l → x.length ≤ 10) : (textsOf l).flatten.length ≤ 10 * l.length ∧ (textsOf l).length ≤ l.length := by
  induction l with
  | nil => simp [textsOf]
  | cons o l ih =>
    have ih := ih fun x hx => h x (.tail _ hx)
    cases o with
    | none => simp only [textsOf, List.filterMap_cons, id] at ih ⊢; simp only [List.length_cons]; lia
    | some x =>
      have := h x (.head _)
      simp only [textsOf, List.filterMap_cons, id, List.flatten_cons, List.length_append, List.length_cons] at ih ⊢; lia
theorem tw_dw {α : Type} (p : α → Bool) (l : List α) : (l.takeWhile p).length + (l.dropWhile p).length = l.length := by
  have := congrArg List.length (List.takeWhile_append_dropWhile (p := p) (l := l))
  rw [List.length_append] at this
  exact this
theorem joinTail_len (l : List (Option Sg)) (h : ∀ x, some x ∈ l → x.length ≤ 10) : (joinTail l).flatten.length ≤ 20 * l.length ∧ (joinTail l).length ≤ l.length := by
  fun_induction joinTail l with
  | case1 => simp
  | case2 => simp
  | case3 o y r hd =>
    have t := texts_len (l := (y :: r).takeWhile (·.isSome)) fun x hx => h x (.tail _ ((List.takeWhile_sublist _).subset hx))
    have e := tw_dw (·.isSome) (y :: r)
    rw [hd] at e
    simp only [List.length_nil, List.length_cons] at e
    simp only [List.flatten_cons, List.flatten_nil, List.length_append, List.length_cons, List.length_nil]
    lia
  | case4 o y r hd ih =>
    have ih := ih fun x hx => h x (.tail _ ((List.dropWhile_sublist _).subset hx))
    have t := texts_len (l := (y :: r).takeWhile (·.isSome)) fun x hx => h x (.tail _ ((List.takeWhile_sublist _).subset hx))
    have e := tw_dw (·.isSome) (y :: r)
    have pos : 1 ≤ ((y :: r).dropWhile (·.isSome)).length := by
      cases q : (y :: r).dropWhile (·.isSome) with
      | nil => exact absurd q hd
      | cons _ _ => simp
    simp only [List.length_cons] at e
    simp only [List.flatten_cons, List.length_append, List.length_cons, holdF, List.length_nil]
    lia
theorem joinAll_len (l : List (Option Sg)) (h : ∀ x, some x ∈ l → x.length ≤ 10) : (joinAll l).flatten.length ≤ 20 * l.length ∧ (joinAll l).length ≤ l.length := by
  have t := texts_len (l := l.takeWhile (·.isSome)) fun x hx => h x ((List.takeWhile_sublist _).subset hx)
  have u := joinTail_len (l.dropWhile (·.isSome)) fun x hx => h x ((List.dropWhile_sublist _).subset hx)
  have e := tw_dw (·.isSome) l
  unfold joinAll
  simp only [List.flatten_append, List.length_append]
  lia
theorem apart_tail {o : Option Sg} {l : List (Option Sg)} (h : apart (o :: l)) : apart l := by
  cases o with
  | none =>
    cases l with
    | nil => trivial
    | cons y l => cases y with
      | none => exact h.elim
      | some _ => exact h
  | some _ => exact h
theorem apart_drop {l : List (Option Sg)} (h : apart l) : ∀ k, apart (l.drop k) := by
  intro k
  induction k generalizing l with
  | zero => exact h
  | succ k ih =>
    cases l with
    | nil => exact h
    | cons o l => exact ih (apart_tail h)
theorem drop_of {α : Type} {l : List α} {i : Nat} {x : α} (h : l[i]? = some x) : l.drop i = x :: l.drop (i + 1) := by
  obtain ⟨hlt, e⟩ := List.getElem?_eq_some_iff.mp h
  rw [List.drop_eq_getElem_cons hlt, e]

section
variable {prog : Program} {w : World} {B : Heap → Prop} {mg mb : Str → Option Value} {fa : Nat → Addr} {d : Nat} {c : Cx} {σ : St}

theorem joinTest {i : Nat} {ai st : Addr} {items : List (Option Sg)} {p1 p2 p3 p4 p5 p6 p7 p8 p9 : Pos} (C : c.Ok) (h0 : c.names[0]? = some (Str.ofString "inp")) (h1 : c.names[1]? = some (Str.ofString "STAR")) (h4 : c.names[4]? = some (Str.ofString "i")) (h5 : c.names[5]? = some (Str.ofString "n"))
    (v0 : σ.vars[0]? = some (.ref ai)) (v1 : σ.vars[1]? = some (.ref st)) (v4 : σ.vars[4]? = some (.int i)) (v5 : σ.vars[5]? = some (.int items.length)) (hm : (ai, MO.lst (items.map (itm st))) ∈ σ.mem) (hl : items.length ≤ 100000) :
    ∃ b, EvB prog w B d c σ (.BoolOp .And [.Compare (.Name (Str.ofString "i") p1) [.Lt] [.Name (Str.ofString "n") p2] p3, .Compare (.Subscript (.Name (Str.ofString "inp") p4) (.Name (Str.ofString "i") p5) p6) [.IsNot] [.Name (Str.ofString "STAR") p7] p8] p9) b ∧
      (b = true → ∃ x, items[i]? = some (some x)) ∧ (b = false → items[i]? = none ∨ items[i]? = some none) := by
  cases hi : items[i]? with
  | none =>
    have : ¬ i < items.length := by rw [List.getElem?_eq_none_iff] at hi; lia
    exact ⟨false, (EvB.and2 (a := false) (b := false) ((EvB.cmp (EvE.var 4 C h4 v4) (EvE.var 5 C h5 v5) CmpR.lt).eq (by simp; lia)) fun q => by cases q).eq rfl, nofun, fun _ => .inl rfl⟩
  | some o =>
    have hlt : i < items.length := (List.getElem?_eq_some_iff.mp hi).1
    have hx : (items.map (itm st))[((i : Nat) : Int).toNat]? = some (itm st o) := by rw [Int.toNat_natCast, List.getElem?_map, hi]; rfl
    cases o with
    | none =>
      exact ⟨false, (EvB.and2 (a := true) (b := false) ((EvB.cmp (EvE.var 4 C h4 v4) (EvE.var 5 C h5 v5) CmpR.lt).eq (by simp; lia)) fun _ => EvB.isNot_ref (a := st) (EvE.idx (EvE.var 0 C h0 v0) hm (EvE.var 4 C h4 v4) (by lia) (by lia) hx) (EvE.var 1 C h1 v1)).eq rfl, nofun, fun _ => .inr rfl⟩
    | some x =>
      exact ⟨true, (EvB.and2 (a := true) (b := true) ((EvB.cmp (EvE.var 4 C h4 v4) (EvE.var 5 C h5 v5) CmpR.lt).eq (by simp; lia)) fun _ => EvB.isNot_str (x := x) (EvE.idx (EvE.var 0 C h0 v0) hm (EvE.var 4 C h4 v4) (by lia) (by lia) hx) (EvE.var 1 C h1 v1)).eq rfl, fun _ => ⟨x, rfl⟩, nofun⟩

theorem join_ok (Z : Base B mg mb fa) (ai st : Addr) (items : List (Option Sg)) (hl : items.length ≤ 1000) (hx : ∀ x, some x ∈ items → x.length ≤ 10) (hap : apart items) :
    FnOk prog w B 1 (.ref (fa 14)) [.ref ai, .ref st] [(ai, .lst (items.map (itm st)))] (fun pv m => pv = .str (joinF2 items)) := by
  have hpl : plainDfn (dfn 14) (["inp","STAR"].map Str.ofString) (["inp","STAR","res","add","i","n","fixed"].map Str.ofString) = true := by decide +kernel
  refine FnOk.def_ Z.toBs (Z.defs 14 (by decide)).2 hpl rfl (fun pm cd doc => len2 fun _ _ => rfl) fun env he => ?_
  have C := he.ok hpl
  have hJ := joinAll_len items hx
  generalize hR : joinAll items = R at hJ
  refine ExSs.genP fun Q0 hQ0 => ?_
  refine ExSs.letNil 2 C rfl rfl fun ar => ?_
  refine ExSs.let_ 3 C rfl rfl (EvE.appendOf (EvE.var 2 C rfl rfl) (.head _)) rfl ?_
  refine ExSs.pair 4 5 C rfl rfl rfl (EvE.int (i := (0 : Nat))) ((EvE.len Z C (kind_of he (by decide +kernel)) (EvE.var 0 C rfl rfl) (CallP.lenL (.tail _ (.head _)) (by simp; lia))).eq (b' := .int (items.length : Nat)) (by simp)) ?_ ?_
  · have hbk : Env.blockKind env = .function := by unfold Env.blockKind; rw [he.scope]; decide +kernel
    have ki : env.kindOf (Str.ofString "i") = some .local := kind_of he (by decide +kernel)
    have kn : env.kindOf (Str.ofString "n") = some .local := kind_of he (by decide +kernel)
    exact swapped2 hbk ki kn rfl (by decide +kernel) rfl rfl rfl
  -- the texts ahead
  refine ExSs.while_ (fun n σ' => ∃ (i : Nat) (acc : List Sg), σ' = ⟨[.ref ai, .ref st, .ref ar, .app ar, .int i, .int (items.length : Nat), .undef], [(ar, .lst (acc.map .str)), (ai, .lst (items.map (itm st)))]⟩ ∧ i ≤ items.length ∧ acc ++ joinAll (items.drop i) = R ∧ n = items.length - i) items.length
    ⟨0, [], rfl, Nat.zero_le _, by rw [← hR]; rfl, rfl⟩ ?_
  rintro n _ ⟨i, acc, rfl, hi, hA, rfl⟩
  have accl : ∀ (acc t : List Sg), acc ++ t = R → acc.length ≤ 1000 := fun acc t e => by
    have := congrArg List.length e; simp at this; lia
  obtain ⟨b, hb, hT, hF⟩ := joinTest (prog := prog) (w := w) (B := B) (d := 0) (σ := ⟨[.ref ai, .ref st, .ref ar, .app ar, .int i, .int (items.length : Nat), .undef], [(ar, .lst (acc.map .str)), (ai, .lst (items.map (itm st)))]⟩) (i := i) (items := items) C rfl rfl rfl rfl rfl rfl rfl rfl (.tail _ (.head _)) (by lia)
  refine ⟨b, hb, fun q => ?_, fun q => ?_⟩
  · refine ExSs.genP fun Q hQ => ?_
    obtain ⟨x, hix⟩ := hT q
    have hdi := drop_of hix
    have hlt : i < items.length := (List.getElem?_eq_some_iff.mp hix).1
    have hxi : (items.map (itm st))[((i : Nat) : Int).toNat]? = some (.str x) := by rw [Int.toNat_natCast, List.getElem?_map, hix]; rfl
    refine ExSs.callAppE (EvE.var 3 C rfl rfl) (EvE.idx (EvE.var 0 C rfl rfl) (.tail _ (.head _)) (EvE.var 4 C rfl rfl) (by lia) (by lia) hxi) .head (by have := accl _ _ hA; simp; lia) ?_
    refine ExSs.aug 4 C rfl rfl rfl (by nofun) EvE.int InpR.add (ExSs.nil (hQ .next _ ?_))
    rw [hdi, joinAll_some] at hA
    exact ⟨items.length - (i + 1), by lia, i + 1, acc ++ [x], by simp, hlt, by simpa using hA, rfl⟩
  · have hst : items.drop i = [] ∨ ∃ r, items.drop i = none :: r := by
      rcases hF q with e | e
      · exact .inl (List.drop_eq_nil_of_le (by rw [List.getElem?_eq_none_iff] at e; exact e))
      · exact .inr ⟨_, drop_of e⟩
    rw [joinAll_tail _ hst] at hA
    clear hT hF hb q
    -- the stars
    have fin : ∀ (acc : List Sg) (p6 : PV) (g : Ledger), acc = R → ExSs prog w B 0 ⟨env, ["inp","STAR","res","add","i","n","fixed"].map Str.ofString, true⟩ ⟨[.ref ai, .ref st, .ref ar, .app ar, .int (items.length : Nat), .int (items.length : Nat), p6], (ar, .lst (acc.map .str)) :: g⟩
        ((dfn 14).body.drop 5) Q0 := by
      rintro acc p6 g rfl
      refine ExSs.assert_ ((EvB.cmp (EvE.var 4 C rfl rfl) (EvE.var 5 C rfl rfl) CmpR.eqI).eq (by simp)) ?_
      refine ExSs.let_ 2 C rfl rfl (EvE.join (l := acc) (EvE.strL []) (EvE.var 2 C rfl rfl) (.head _) (by lia)) rfl ?_
      refine ExSs.retE (EvE.fstr (xs := [[40, 63, 115, 58], acc.flatten, [41, 92, 90]]) (EvJ.cons (EvE.strL _) (EvJ.cons (EvE.fval (EvE.var 2 C rfl rfl) (by lia)) (EvJ.cons (EvE.strL _) EvJ.nil))) (by simp only [List.flatten_cons, List.flatten_nil, List.length_append, List.length_cons, List.length_nil]; lia)) (hQ0 (.ret _) _ ?_)
      show PV.str _ = .str (joinF2 items)
      unfold joinF2
      rw [hR]; simp
    refine ExSs.while_ (fun n σ' => ∃ (i : Nat) (acc : List Sg) (p6 : PV), σ' = ⟨[.ref ai, .ref st, .ref ar, .app ar, .int i, .int (items.length : Nat), p6], [(ar, .lst (acc.map .str)), (ai, .lst (items.map (itm st)))]⟩ ∧ i ≤ items.length ∧ acc ++ joinTail (items.drop i) = R ∧ (items.drop i = [] ∨ ∃ r, items.drop i = none :: r) ∧ n = items.length - i) (items.length - i)
      ⟨i, acc, .undef, rfl, hi, hA, hst, rfl⟩ ?_
    clear hi hA hst
    rintro n _ ⟨i, acc, p6, rfl, hi, hA, hst, rfl⟩
    refine ⟨decide ((i : Int) < (items.length : Nat)), EvB.cmp (EvE.var 4 C rfl rfl) (EvE.var 5 C rfl rfl) CmpR.lt, fun q => ?_, fun q => ?_⟩
    · refine ExSs.genP fun Q hQ => ?_
      have hlt : i < items.length := by simpa using q
      obtain ⟨r, hr⟩ : ∃ r, items.drop i = none :: r := hst.resolve_left (fun e => by
        have := congrArg List.length e; simp at this; lia)
      have hin : items[i]? = some none := by
        have := congrArg (·[0]?) hr; simpa using this
      have hdr : items.drop (i + 1) = r := by rw [← List.drop_drop, hr]; rfl
      have hxi : (items.map (itm st))[((i : Nat) : Int).toNat]? = some (.ref st) := by rw [Int.toNat_natCast, List.getElem?_map, hin]; rfl
      refine ExSs.assert_ (EvB.is_ref (a := st) (EvE.idx (EvE.var 0 C rfl rfl) (.tail _ (.head _)) (EvE.var 4 C rfl rfl) (by lia) (by lia) hxi) (EvE.var 1 C rfl rfl)) ?_
      refine ExSs.aug 4 C rfl rfl rfl (by nofun) EvE.int InpR.add ?_
      have hc1 : (i : Int) + 1 = ((i + 1 : Nat) : Int) := by lia
      have hal := accl _ _ hA
      refine ExSs.ite (EvB.cmp (EvE.var 4 C rfl rfl) (EvE.var 5 C rfl rfl) CmpR.eqI) (fun q1 => ?_) (fun q1 => ExSs.nil ?_)
      · have hin1 : i + 1 = items.length := by simp at q1; lia
        have hrn : r = [] := by rw [← hdr]; exact List.drop_eq_nil_of_le (by lia)
        rw [hr, hrn, joinTail] at hA
        refine ExSs.callAppE (EvE.var 3 C rfl rfl) (EvE.strL [46, 42]) .head (by simp; lia) (ExSs.brk (hQ .brk _ ?_))
        have := fin (acc ++ [[46, 42]]) p6 [(ai, .lst (items.map (itm st)))] hA
        rw [List.map_append] at this
        have e4 : PV.int ((i : Int) + 1) = PV.int (items.length : Nat) := congrArg PV.int (by lia)
        show ExSs _ _ _ _ _ ⟨[.ref ai, .ref st, .ref ar, .app ar, .int ((i : Int) + 1), .int (items.length : Nat), p6], _⟩ _ _
        rw [e4]
        exact this
      · have hin1 : i + 1 < items.length := by simp at q1; lia
        obtain ⟨o, hio⟩ : ∃ o, items[i + 1]? = some o := ⟨_, List.getElem?_eq_getElem hin1⟩
        have hd1 := drop_of hio
        have hapi := apart_drop hap i
        rw [hr, ← hdr, hd1] at hapi
        cases o with
        | none => exact hapi.elim
        | some y =>
          have hxi1 : (items.map (itm st))[((i : Int) + 1).toNat]? = some (.str y) := by rw [hc1, Int.toNat_natCast, List.getElem?_map, hio]; rfl
          refine ExSs.assert_ (EvB.isNot_str (x := y) (EvE.idx (EvE.var 0 C rfl rfl) (.tail _ (.head _)) (EvE.var 4 C rfl rfl) (by lia) (by lia) hxi1) (EvE.var 1 C rfl rfl)) ?_
          refine ExSs.letNil 6 C rfl rfl fun af => ?_
          refine ExSs.while_ (fun n σ' => ∃ (j : Nat) (fx : List Sg), σ' = ⟨[.ref ai, .ref st, .ref ar, .app ar, .int j, .int (items.length : Nat), .ref af], [(af, .lst (fx.map .str)), (ar, .lst (acc.map .str)), (ai, .lst (items.map (itm st)))]⟩ ∧ j ≤ items.length ∧ fx.length ≤ j ∧
              fx ++ textsOf ((items.drop j).takeWhile (·.isSome)) = textsOf (r.takeWhile (·.isSome)) ∧ (items.drop j).dropWhile (·.isSome) = r.dropWhile (·.isSome) ∧ n = items.length - j) (items.length - (i + 1))
            ⟨i + 1, [], by rw [← hc1]; rfl, by lia, by simp, by rw [hdr]; rfl, by rw [hdr], rfl⟩ ?_
          rintro n _ ⟨j, fx, rfl, hj, hfj, hfx, hdw, rfl⟩
          obtain ⟨b, hb, hT, hF⟩ := joinTest (prog := prog) (w := w) (B := B) (d := 0) (σ := ⟨[.ref ai, .ref st, .ref ar, .app ar, .int j, .int (items.length : Nat), .ref af], [(af, .lst (fx.map .str)), (ar, .lst (acc.map .str)), (ai, .lst (items.map (itm st)))]⟩) (i := j) (items := items) C rfl rfl rfl rfl rfl rfl rfl rfl (.tail _ (.tail _ (.head _))) (by lia)
          refine ⟨b, hb, fun q => ?_, fun q => ?_⟩
          · refine ExSs.genP fun Q1 hQ1 => ?_
            obtain ⟨x, hix⟩ := hT q
            have hdj := drop_of hix
            have hjl : j < items.length := (List.getElem?_eq_some_iff.mp hix).1
            have hxj : (items.map (itm st))[((j : Nat) : Int).toNat]? = some (.str x) := by rw [Int.toNat_natCast, List.getElem?_map, hix]; rfl
            refine ExSs.append (EvE.var 6 C rfl rfl) (EvE.idx (EvE.var 0 C rfl rfl) (.tail _ (.tail _ (.head _))) (EvE.var 4 C rfl rfl) (by lia) (by lia) hxj) .head (by simp; lia) ?_
            refine ExSs.aug 4 C rfl rfl rfl (by nofun) EvE.int InpR.add (ExSs.nil (hQ1 .next _ ?_))
            rw [hdj] at hfx hdw
            refine ⟨items.length - (j + 1), by lia, j + 1, fx ++ [x], by simp, hjl, by simp; lia, ?_, ?_, rfl⟩
            · rw [← hfx]; simp [textsOf]
            · rw [← hdw]; simp
          · have hstj : items.drop j = [] ∨ ∃ r, items.drop j = none :: r := by
              rcases hF q with e | e
              · exact .inl (List.drop_eq_nil_of_le (by rw [List.getElem?_eq_none_iff] at e; exact e))
              · exact .inr ⟨_, drop_of e⟩
            have htw : (items.drop j).takeWhile (·.isSome) = [] := by rcases hstj with e | ⟨r, e⟩ <;> (rw [e]; simp)
            have hdd : (items.drop j).dropWhile (·.isSome) = items.drop j := by rcases hstj with e | ⟨r, e⟩ <;> (rw [e]; simp)
            rw [htw] at hfx
            rw [hdd] at hdw
            have hfx' : fx = textsOf (r.takeWhile (·.isSome)) := by rw [← hfx]; simp [textsOf]
            have hry : r = some y :: items.drop (i + 1 + 1) := by rw [← hdr, hd1]
            rw [hr, hry, joinTail] at hA
            rw [← hry, ← hfx', ← hdw] at hA
            have hfl : fx.flatten.length ≤ 10000 := by
              have t := texts_len (l := r.takeWhile (·.isSome)) fun x hxm => hx x (List.drop_subset (i + 1) items (by rw [hdr]; exact (List.takeWhile_sublist _).subset hxm))
              have l1 := (List.takeWhile_sublist (l := r) (·.isSome)).length_le
              have l2 : r.length ≤ items.length := by rw [← hdr, List.length_drop]; lia
              rw [hfx']; lia
            refine ExSs.let_ 6 C rfl rfl (EvE.join (l := fx) (EvE.strL []) (EvE.var 6 C rfl rfl) (.head _) (by lia)) rfl ?_
            refine ExSs.sub (m' := [(ar, .lst (acc.map .str)), (ai, .lst (items.map (itm st)))]) (List.sublist_cons_self _ _) ?_
            refine ExSs.ifL (EvB.cmp (EvE.var 4 C rfl rfl) (EvE.var 5 C rfl rfl) CmpR.eqI) (fun q2 => ?_) (fun q2 => ?_)
            · have hjn : j = items.length := by simp at q2; lia
              have hdn : items.drop j = [] := List.drop_eq_nil_of_le (by lia)
              rw [hdn, if_pos rfl] at hA
              refine ExSs.callAppE (EvE.var 3 C rfl rfl) (EvE.strL [46, 42]) .head (by simp; lia) ?_
              refine ExSs.callAppE (EvE.var 3 C rfl rfl) (EvE.var 6 C rfl rfl) .head (by simp; lia) (ExSs.nil (hQ .next _ ?_))
              exact ⟨items.length - j, by lia, j, acc ++ [[46, 42], fx.flatten], .str fx.flatten, by simp, hj, by rw [hdn, joinTail, List.append_nil]; exact hA, .inl hdn, rfl⟩
            · have hjn : j < items.length := by simp at q2; lia
              have hdn : items.drop j ≠ [] := fun e => by have := congrArg List.length e; simp at this; lia
              rw [if_neg hdn] at hA
              refine ExSs.callAppE (pv := .str (holdF fx.flatten)) (EvE.var 3 C rfl rfl) ((EvE.fstr (xs := [[40, 63, 62, 46, 42, 63], fx.flatten, [41]]) (EvJ.cons (EvE.strL _) (EvJ.cons (EvE.fval (EvE.var 6 C rfl rfl) (by lia)) (EvJ.cons (EvE.strL _) EvJ.nil))) (by simp only [List.flatten_cons, List.flatten_nil, List.length_append, List.length_cons, List.length_nil]; lia)).eq (by unfold holdF; simp)) .head (by simp; lia) (ExSs.nil (hQ .next _ ?_))
              exact ⟨items.length - j, by
                have : i + 1 ≤ j := by
                  rcases Nat.lt_or_ge j (i + 1) with h | h
                  · exfalso
                    have e1 : (items.drop j).length = (r.dropWhile (·.isSome)).length := by rw [hdw]
                    have e2 := (List.dropWhile_sublist (l := r) (·.isSome)).length_le
                    have e3 : r.length = items.length - (i + 1) := by rw [← hdr, List.length_drop]
                    rw [List.length_drop] at e1
                    lia
                  · exact h
                lia, j, acc ++ [holdF fx.flatten], .str fx.flatten, by simp, hj, by simpa using hA, hstj, rfl⟩
    · have hin : i = items.length := by simp at q; lia
      subst hin
      rw [List.drop_length, joinTail, List.append_nil] at hA
      exact fin acc p6 _ hA
end
end Mine

/-! ## P7 -/
namespace Mine
/-- the shell pattern's text: each ? in brackets -/
noncomputable def brC (c : Nat) : Sg := if c = 63 then [91, 63, 93] else [c]
noncomputable def padT (sh : Sg) : Sg := sh.flatMap brC
noncomputable def itC (c : Nat) : Option Sg := if c = 42 then none else if c = 63 then some [91, 63, 93] else some (escC c)
noncomputable def stepI (acc : List (Option Sg)) (c : Nat) : List (Option Sg) := if c = 42 ∧ acc.getLast? = some none then acc else acc ++ [itC c]
noncomputable def trF (sh : Sg) : List (Option Sg) := sh.foldl stepI []
noncomputable def shC (c : Nat) : Prop := okC c ∨ c = 42
theorem padT_len (sh : Sg) : sh.length ≤ (padT sh).length ∧ (padT sh).length ≤ 3 * sh.length := by
  induction sh with
  | nil => simp [padT]
  | cons c r ih =>
    have : (brC c).length = 1 ∨ (brC c).length = 3 := by unfold brC; split <;> simp
    unfold padT at ih ⊢
    simp only [List.flatMap_cons, List.length_append, List.length_cons]
    lia
theorem trF_len (sh : Sg) (acc : List (Option Sg)) : (sh.foldl stepI acc).length ≤ acc.length + sh.length := by
  induction sh generalizing acc with
  | nil => simp
  | cons c r ih =>
    rw [List.foldl_cons]
    have := ih (stepI acc c)
    have h2 : (stepI acc c).length ≤ acc.length + 1 := by unfold stepI; split <;> simp
    simp only [List.length_cons]; lia

section
variable {prog : Program} {w : World} {B : Heap → Prop} {mg mb : Str → Option Value} {fa : Nat → Addr} {d : Nat} {c : Cx} {σ : St}
theorem CallP.replaceNone : CallP prog w d c σ (.builtin "str.replace") [.str [63], .str [92], .str [92, 92]] (.str [63]) := by
  rintro h0 A s vals Q E ok R r k
  revert vals; refine VRs.sss fun t u v => ?_
  · skip
    have e0 : ((PySem.Builtin.Str.occurrences (S [63]) (S [92]) 0 (S [63]).length ((S [63]).length + 1)).isEmpty || ((S [92]).length == 0 && (S [92, 92]).length == 0)) = true := by decide +kernel
    refine call_gives F.slot_str_replace (typeIs_str _ _ _) F.entry_str_replace (F.args_str_replace_3 _ _ _) (gives_str_replace (S [63]) (S [92]) (S [92, 92]) t u v fun q => by rw [e0] at q; cases q) ?_
    rw [if_pos e0]
    exact k _ s.heap _ Sub.rfl ⟨_, rfl⟩

theorem lastTest {ar st : Addr} {l : List (Option Sg)} {p1 p2 p3 p4 p5 p6 p7 p8 : Pos} {k : Nat} (C : c.Ok) (h1 : c.names[1]? = some (Str.ofString "STAR")) (h3 : c.names[3]? = some (Str.ofString "res"))
    (v1 : σ.vars[1]? = some (.ref st)) (v3 : σ.vars[3]? = some (.ref ar)) (hm : (ar, MO.lst (l.map (itm st))) ∈ σ.mem) (hl : l.length ≤ 1000) :
    EvB prog w B d c σ (.BoolOp .Or [.UnaryOp .Not (.Name (Str.ofString "res") p1) p2, .Compare (.Subscript (.Name (Str.ofString "res") p3) (.UnaryOp .USub (.Constant (.int 1) k p4) p5) p6) [.IsNot] [.Name (Str.ofString "STAR") p7] p8] p2) (!decide (l.getLast? = some none)) := by
  rcases List.eq_nil_or_concat l with rfl | ⟨l', o, rfl⟩
  · exact (EvB.or2 (b := true) (EvB.not (EvB.val (EvE.var 3 C h3 v3) (TruR.lst hm (by simp)))) fun h => by cases h).eq (by simp)
  · rw [List.concat_eq_append] at hm hl ⊢
    have hx : ((l' ++ [o]).map (itm st))[((-1 : Int) + ((l' ++ [o]).map (itm st)).length).toNat]? = some (itm st o) := by
      have : ((-1 : Int) + ((l' ++ [o]).map (itm st)).length).toNat = l'.length := by simp; lia
      rw [this]; simp
    have hi : EvE prog w B d c σ (.Subscript (.Name (Str.ofString "res") p3) (.UnaryOp .USub (.Constant (.int 1) k p4) p5) p6) (itm st o) :=
      EvE.idxNeg (EvE.var 3 C h3 v3) hm (EvE.neg EvE.int) (by decide) (by simp; lia) (by decide) hx
    have he : ((l' ++ [o]).map (itm st)).isEmpty = false := by simp
    cases o with
    | none => exact (EvB.or2 (b := false) (EvB.not (EvB.val (EvE.var 3 C h3 v3) (TruR.lst hm (by simp at hl ⊢; lia)))) fun _ => EvB.isNot_ref (a := st) hi (EvE.var 1 C h1 v1)).eq (by rw [he]; simp)
    | some x => exact (EvB.or2 (b := true) (EvB.not (EvB.val (EvE.var 3 C h3 v3) (TruR.lst hm (by simp at hl ⊢; lia)))) fun _ => EvB.isNot_str (x := x) hi (EvE.var 1 C h1 v1)).eq (by simp)

/-- what the text of _translate stands on -/
structure LamB (B : Heap → Prop) (mg : Str → Option Value) (fa : Nat → Addr) (cc P twin : Addr) : Prop where
  dfn : IsDefC B (fa 13) (Mine.dfn 13) (.ref cc)
  code : ∀ h, B h → CodeHd h cc P
  main : ∀ h, B h → ∃ bm ob, mg "__builtins__" = some (.ref bm) ∧ bm ≠ builtinsNs ∧ h.get? bm = some ob ∧ ob.cls = .type "module" ∧ ob.dict = some builtinsNs ∧ ob.data = .plain
  name : mg (Str.ofString "_twin_re_1") = some (.ref twin)
  pat : ∀ h, B h → IsPat h twin

theorem translate_in_ok (Z : Base B mg mb fa) {T : Addr} {f : Int → Option Value} (Y : TabB prog w B mg T f) {cc P twin : Addr} (L : LamB B mg fa cc P twin) (st : Addr) (sh : Sg) (hs : ∀ c ∈ sh, shC c) (hl : sh.length ≤ 1000) (ps : Array Value) (ht : TabOk 110 39 ps) :
    FnOk prog w B 3 (.ref (fa 13)) [.str (padT sh), .ref st, .str [46]] [(P, .raw (tabObj ps))] (fun pv m => ∃ a ps', pv = .ref a ∧ TabOk 110 39 ps' ∧ m = [(a, .lst ((trF sh).map (itm st))), (P, .raw (tabObj ps'))]) := by
  have hpl : plainDfn (dfn 13) (["pat","STAR","QUESTION_MARK"].map Str.ofString) (["pat","STAR","QUESTION_MARK","res","add","i","n","c","j","stuff"].map Str.ofString) = true := by decide +kernel
  refine FnOk.defC Z.toBs L.dfn hpl rfl (fun pm cd doc => len3 fun _ _ _ => rfl) fun env he hcode => ?_
  have C := he.ok hpl
  have hpad := padT_len sh
  refine ExSs.genP fun Q hQ => ?_
  refine ExSs.letNil 3 C rfl rfl fun ar => ?_
  refine ExSs.let_ 4 C rfl rfl (EvE.appendOf (EvE.var 3 C rfl rfl) (.head _)) rfl ?_
  refine ExSs.pair 5 6 C rfl rfl rfl (EvE.int (i := (0 : Nat))) ((EvE.len Z C (kind_of he (by decide +kernel)) (EvE.var 0 C rfl rfl) (CallP.lenS (by lia))).eq (b' := .int ((padT sh).length : Nat)) rfl) ?_ ?_
  · have hbk : Env.blockKind env = .function := by unfold Env.blockKind; rw [he.scope]; decide +kernel
    have ki : env.kindOf (Str.ofString "i") = some .local := kind_of he (by decide +kernel)
    have kn : env.kindOf (Str.ofString "n") = some .local := kind_of he (by decide +kernel)
    exact swapped2 hbk ki kn rfl (by decide +kernel) rfl rfl rfl
  refine ExSs.while_ (fun n σ' => ∃ (done rest : Sg) (ps : Array Value) (p7 p8 p9 : PV), σ' = ⟨[.str (padT sh), .ref st, .str [46], .ref ar, .app ar, .int (padT done).length, .int (padT sh).length, p7, p8, p9], [(ar, .lst ((trF done).map (itm st))), (P, .raw (tabObj ps))]⟩ ∧
      sh = done ++ rest ∧ TabOk 110 39 ps ∧ n = rest.length) sh.length
    ⟨[], sh, ps, .undef, .undef, .undef, rfl, rfl, ht, rfl⟩ ?_
  rintro n _ ⟨done, rest, ps, p7, p8, p9, rfl, hsh, hps, rfl⟩
  refine ⟨decide (((padT done).length : Int) < ((padT sh).length : Nat)), EvB.cmp (EvE.var 5 C rfl rfl) (EvE.var 6 C rfl rfl) CmpR.lt, fun q => ?_, fun q => ?_⟩
  · refine ExSs.genP fun R hR => ?_
    obtain ⟨ch, rest, rfl⟩ : ∃ ch r, rest = ch :: r := by
      cases rest with
      | nil => rw [hsh] at q; simp at q
      | cons ch r => exact ⟨ch, r, rfl⟩
    have hch : shC ch := hs ch (by rw [hsh]; simp)
    have hpd : padT sh = padT done ++ (brC ch ++ padT rest) := by rw [hsh]; unfold padT; simp
    have hdl : done.length + 1 ≤ sh.length := by rw [hsh]; simp
    have htl := trF_len done []
    have hpdl := padT_len done
    have htr : (trF done).length ≤ 1000 := by unfold trF; simp at htl; lia
    have hnext : ∀ x, trF (done ++ [x]) = stepI (trF done) x := fun x => by unfold trF; rw [List.foldl_append]; rfl
    have hpn : ∀ x, padT (done ++ [x]) = padT done ++ brC x := fun x => by unfold padT; simp
    have hsn : sh = (done ++ [ch]) ++ rest := by rw [hsh]; simp
    rcases hch with hok | rfl
    · have h42 : ch ≠ 42 := by unfold okC at hok; lia
      have hstep : trF (done ++ [ch]) = trF done ++ [itC ch] := by rw [hnext]; unfold stepI; rw [if_neg (fun q => h42 q.1)]
      by_cases h63 : ch = 63
      · subst h63
        have hpd' : padT sh = padT done ++ [91, 63, 93] ++ padT rest := by rw [hpd]; simp [brC]
        generalize hD : (padT done).length = D at *
        have hlen : (padT sh).length = D + 3 + (padT rest).length := by rw [hpd']; simp; lia
        have hx : ∀ (k : Nat) (x : Nat), [91, 63, 93][k]? = some x → (padT sh)[D + k]? = some x := fun k x hk => by
          rw [hpd', List.append_assoc, List.getElem?_append_right (by lia), List.getElem?_append_left (by
            have := (List.getElem?_eq_some_iff.mp hk).1; simp at this ⊢; lia)]
          rw [hD, Nat.add_sub_cancel_left]; exact hk
        have hx0 : (padT sh)[(D : Int).toNat]? = some 91 := hx 0 91 rfl
        have hx1 : (padT sh)[((D : Int) + 1).toNat]? = some 63 := by have := hx 1 63 rfl; rwa [show ((D : Int) + 1).toNat = D + 1 by lia]
        have hx2 : (padT sh)[((D : Int) + 1 + 1).toNat]? = some 93 := by have := hx 2 93 rfl; rwa [show ((D : Int) + 1 + 1).toNat = D + 2 by lia]
        refine ExSs.let_ 7 C rfl rfl (EvE.idxS (ch := 91) (EvE.var 0 C rfl rfl) (EvE.var 5 C rfl rfl) (by lia) (by lia) hx0) rfl ?_
        refine ExSs.let_ 5 C rfl rfl (EvE.bin (EvE.var 5 C rfl rfl) EvE.int BinR.add) rfl ?_
        refine ExSs.ifL (b := false) ((EvB.cmp (EvE.var 7 C rfl rfl) (EvE.strL [42]) CmpR.eqS).eq rfl) (fun h => by cases h) (fun _ => ?_)
        refine ExSs.ifL (b := false) ((EvB.cmp (EvE.var 7 C rfl rfl) (EvE.strL [63]) CmpR.eqS).eq rfl) (fun h => by cases h) (fun _ => ?_)
        refine ExSs.ifL (b := true) ((EvB.cmp (EvE.var 7 C rfl rfl) (EvE.strL [91]) CmpR.eqS).eq rfl) (fun _ => ?_) (fun h => by cases h)
        refine ExSs.let_ 8 C rfl rfl (EvE.var 5 C rfl rfl) rfl ?_
        refine ExSs.ite (b := false) ((EvB.and2 (b := false) (EvB.cmp (EvE.var 8 C rfl rfl) (EvE.var 6 C rfl rfl) CmpR.lt) fun _ => EvB.cmp (EvE.idxS (ch := 63) (EvE.var 0 C rfl rfl) (EvE.var 8 C rfl rfl) (by lia) (by lia) hx1) (EvE.strL [33]) CmpR.eqS).eq (by simp)) (fun h => by cases h) (fun _ => ExSs.nil ?_)
        refine ExSs.ite (b := false) ((EvB.and2 (b := false) (EvB.cmp (EvE.var 8 C rfl rfl) (EvE.var 6 C rfl rfl) CmpR.lt) fun _ => EvB.cmp (EvE.idxS (ch := 63) (EvE.var 0 C rfl rfl) (EvE.var 8 C rfl rfl) (by lia) (by lia) hx1) (EvE.strL [93]) CmpR.eqS).eq (by simp)) (fun h => by cases h) (fun _ => ExSs.nil ?_)
        refine ExSs.while_ (fun n σ' => (n = 1 ∧ σ' = ⟨[.str (padT sh), .ref st, .str [46], .ref ar, .app ar, .int ((D : Int) + 1), .int (padT sh).length, .str [91], .int ((D : Int) + 1), p9], [(ar, .lst ((trF done).map (itm st))), (P, .raw (tabObj ps))]⟩) ∨
          (n = 0 ∧ σ' = ⟨[.str (padT sh), .ref st, .str [46], .ref ar, .app ar, .int ((D : Int) + 1), .int (padT sh).length, .str [91], .int ((D : Int) + 1 + 1), p9], [(ar, .lst ((trF done).map (itm st))), (P, .raw (tabObj ps))]⟩)) 1 (.inl ⟨rfl, rfl⟩) ?_
        rintro n _ (⟨rfl, rfl⟩ | ⟨rfl, rfl⟩)
        · refine ⟨true, (EvB.and2 (a := true) (b := true) ((EvB.cmp (EvE.var 8 C rfl rfl) (EvE.var 6 C rfl rfl) CmpR.lt).eq (by simp; lia)) fun _ => EvB.cmp (EvE.idxS (ch := 63) (EvE.var 0 C rfl rfl) (EvE.var 8 C rfl rfl) (by lia) (by lia) hx1) (EvE.strL [93]) CmpR.neS).eq rfl, fun _ => ?_, (fun h => by cases h)⟩
          exact ExSs.let_ 8 C rfl rfl (EvE.bin (EvE.var 8 C rfl rfl) EvE.int BinR.add) rfl (ExSs.nil ⟨0, by lia, .inr ⟨rfl, rfl⟩⟩)
        refine ⟨false, (EvB.and2 (a := true) (b := false) ((EvB.cmp (EvE.var 8 C rfl rfl) (EvE.var 6 C rfl rfl) CmpR.lt).eq (by simp; lia)) fun _ => EvB.cmp (EvE.idxS (ch := 93) (EvE.var 0 C rfl rfl) (EvE.var 8 C rfl rfl) (by lia) (by lia) hx2) (EvE.strL [93]) CmpR.neS).eq rfl, (fun h => by cases h), fun _ => ?_⟩
        refine ExSs.ifL (b := false) ((EvB.cmp (EvE.var 8 C rfl rfl) (EvE.var 6 C rfl rfl) CmpR.ge).eq (by simp; lia)) (fun h => by cases h) (fun _ => ?_)
        have hsl : pySl (padT sh) (some ((D : Int) + 1)) (some ((D : Int) + 1 + 1)) = [63] := by
          rw [pySl_nat (padT sh) (D + 1) (D + 2) _ _ (by lia) (by lia), show D + 2 - (D + 1) = 1 by lia, hpd', List.append_assoc, ← List.drop_drop, ← hD, List.drop_left]; rfl
        refine ExSs.let_ 9 C rfl rfl ((EvE.slice (EvE.var 0 C rfl rfl) (EvP.s (EvE.var 5 C rfl rfl)) (EvP.s (EvE.var 8 C rfl rfl)) (by lia)).eq (congrArg PV.str hsl)) rfl ?_
        refine ExSs.ite (b := true) ((EvB.cmp (EvE.strL [45]) (EvE.var 9 C rfl rfl) CmpR.notInS).eq (by decide)) (fun _ => ?_) (fun h => by cases h)
        refine ExSs.let_ 9 C rfl rfl (EvE.meth (EvE.var 9 C rfl rfl) RecvT.str F.plainAttrs_str F.slot_str_replace F.type_str_replace (EvAs.cons (EvE.strL [92]) (EvAs.one (EvE.strL [92, 92]))) CallP.replaceNone) rfl (ExSs.nil ?_)
        have hTw : ∀ (σ' : St) (h0 : Heap) (s : Shared) (v : Value), B h0 → Rel prog w ⟨env, ["pat","STAR","QUESTION_MARK","res","add","i","n","c","j","stuff"].map Str.ofString, true⟩ h0 σ' s.heap → VR s.heap (.ref twin) v → s.TypeIs v "re.Pattern" ∧ (∀ a, v = .ref a → ∃ ob, s.heap.get? a = some ob ∧ ob.dict = none) := by
          rintro σ' h0 s _ b R rfl
          obtain ⟨fs, T, ws, n, e, -⟩ := (L.pat h0 b).sub R.keep
          exact ⟨⟨_, e, rfl⟩, fun a q => by cases q; exact ⟨_, e, rfl⟩⟩
        refine ExSs.letM (P1 := fun pv m => ∃ f fo ps', pv = .str [63] ∧ TabOk 110 39 ps' ∧ m = [(f, MO.raw fo), (ar, .lst ((trF done).map (itm st))), (P, .raw (tabObj ps'))]) 9 C rfl rfl
          (EvM.methB (EvE.glob Z.toBs C (kind_of he (by decide +kernel)) L.name) (hTw _) plainAttrs_pat slot_pat_sub type_pat_sub
            (Pa := fun pvs m => ∃ f fo ps', pvs = [.ref f, .str [63]] ∧ fo.cls = .type "function" ∧ TabOk 110 39 ps' ∧ m = [(f, MO.raw fo), (ar, .lst ((trF done).map (itm st))), (P, .raw (tabObj ps'))])
            (EvMs.cons (P1 := fun pv m => ∃ f fo ps', pv = .ref f ∧ fo.cls = .type "function" ∧ TabOk 110 39 ps' ∧ m = [(f, MO.raw fo), (ar, .lst ((trF done).map (itm st))), (P, .raw (tabObj ps'))])
              (EvM.lambda Z.toBs C hcode L.code L.main hps (.tail _ (.head _)) fun ps' hps' => ⟨_, .tail .head, fun f fo hfo => ⟨f, fo, ps', rfl, hfo, hps', rfl⟩⟩)
              fun pv m ⟨f, fo, ps', e1, e2, e3, e4⟩ => by subst e1; subst e4; exact (EvAs.one (EvE.var 9 C rfl rfl)).ms ⟨f, fo, ps', rfl, e2, e3, rfl⟩)
            fun pvs m ⟨f, fo, ps', e1, e2, e3, e4⟩ => by subst e1; subst e4; exact CallR.patSub L.pat e2 (.head _) ⟨f, fo, ps', rfl, e3, rfl⟩) rfl ?_
        rintro _ _ ⟨f, fo, ps', rfl, hps', rfl⟩
        refine ExSs.sub (m' := [(ar, .lst ((trF done).map (itm st))), (P, .raw (tabObj ps'))]) (List.sublist_cons_self _ _) ?_
        refine ExSs.let_ 5 C rfl rfl (EvE.bin (EvE.var 8 C rfl rfl) EvE.int BinR.add) rfl ?_
        refine ExSs.ifL (b := false) ((EvB.not (EvB.val (EvE.var 9 C rfl rfl) (TruR.str (by simp)))).eq rfl) (fun h => by cases h) (fun _ => ?_)
        refine ExSs.ifL (b := false) ((EvB.cmp (EvE.var 9 C rfl rfl) (EvE.strL [33]) CmpR.eqS).eq rfl) (fun h => by cases h) (fun _ => ?_)
        refine ExSs.ite (b := false) ((EvB.cmp (EvE.idxS (ch := 63) (i := 0) (EvE.var 9 C rfl rfl) EvE.int (by decide) (by decide) rfl) (EvE.strL [33]) CmpR.eqS).eq rfl) (fun h => by cases h) (fun _ => ?_)
        refine ExSs.ifL (b := false) ((EvB.inTup2 (EvE.idxS (ch := 63) (i := 0) (EvE.var 9 C rfl rfl) EvE.int (by decide) (by decide) rfl) (EvE.strL [94]) (EvE.strL [91])).eq rfl) (fun h => by cases h) (fun _ => ExSs.nil ?_)
        refine ExSs.callAppE (pv := .str [91, 63, 93]) (EvE.var 4 C rfl rfl) (EvE.fstr (xs := [[91], [63], [93]]) (EvJ.cons (EvE.strL _) (EvJ.cons (EvE.fval (EvE.var 9 C rfl rfl) (by simp)) (EvJ.cons (EvE.strL _) EvJ.nil))) (by simp)) .head (by simp; lia) (ExSs.nil (hR .next _ ?_))
        refine ⟨rest.length, by simp, done ++ [63], rest, ps', .str [91], .int ((D : Int) + 1 + 1), .str [63], ?_, hsn, hps', rfl⟩
        rw [hstep, hpn]
        have : ((D : Int) + 1 + 1 + 1) = ((padT done ++ brC 63).length : Nat) := by simp [brC, hD]; lia
        rw [← this]; simp [itC]; rfl
      · have hx : (padT sh)[((padT done).length : Int).toNat]? = some ch := by rw [hpd]; simp [brC, h63]
        have hbr : brC ch = [ch] := by unfold brC; rw [if_neg h63]
        have hi1 : ((padT done).length : Int) + 1 = ((padT (done ++ [ch])).length : Nat) := by rw [hpn, hbr]; simp
        refine ExSs.let_ 7 C rfl rfl (EvE.idxS (ch := ch) (EvE.var 0 C rfl rfl) (EvE.var 5 C rfl rfl) (by lia) (by lia) hx) rfl ?_
        refine ExSs.let_ 5 C rfl rfl (EvE.bin (EvE.var 5 C rfl rfl) EvE.int BinR.add) rfl ?_
        refine ExSs.ifL (b := false) ((EvB.cmp (EvE.var 7 C rfl rfl) (EvE.strL [42]) CmpR.eqS).eq (by simp; exact h42)) (fun h => by cases h) (fun _ => ?_)
        refine ExSs.ifL (b := false) ((EvB.cmp (EvE.var 7 C rfl rfl) (EvE.strL [63]) CmpR.eqS).eq (by simp; exact h63)) (fun h => by cases h) (fun _ => ?_)
        refine ExSs.ifL (b := false) ((EvB.cmp (EvE.var 7 C rfl rfl) (EvE.strL [91]) CmpR.eqS).eq (by simp; unfold okC at hok; lia)) (fun h => by cases h) (fun _ => ?_)
        refine ExSs.callApp (P1 := fun pv m => pv = .str (escC ch) ∧ m = [(ar, .lst ((trF done).map (itm st))), (P, .raw (tabObj ps))]) (EvE.var 4 C rfl rfl)
          (EvM.callF (m0 := []) (rest := [(ar, .lst ((trF done).map (itm st))), (P, .raw (tabObj ps))]) 6 Z C (by decide) rfl (kind_of he (by decide +kernel)) (EvAs.one (EvE.var 7 C rfl rfl)) (escape_ok Z Y [ch] (fun x hx => by rw [List.mem_singleton.mp hx]; exact hok) (by simp)) (by decide) (.refl _) fun pv m1 hq => ⟨by rw [hq.1]; simp, by rw [hq.2]; rfl⟩) ?_
        rintro _ _ ⟨rfl, rfl⟩
        refine ⟨_, _, .head, by simp; lia, ExSs.nil (hR .next _ ⟨rest.length, by simp, done ++ [ch], rest, ps, .str [ch], p8, p9, ?_, hsn, hps, rfl⟩)⟩
        rw [hstep, ← hi1]; unfold itC; rw [if_neg h42, if_neg h63]; simp; rfl
    · have hx : (padT sh)[((padT done).length : Int).toNat]? = some 42 := by rw [hpd]; simp [brC]
      refine ExSs.let_ 7 C rfl rfl (EvE.idxS (ch := 42) (EvE.var 0 C rfl rfl) (EvE.var 5 C rfl rfl) (by lia) (by lia) hx) rfl ?_
      refine ExSs.let_ 5 C rfl rfl (EvE.bin (EvE.var 5 C rfl rfl) EvE.int BinR.add) rfl ?_
      refine ExSs.ifL (b := true) (EvB.cmp (EvE.var 7 C rfl rfl) (EvE.strL [42]) CmpR.eqS) (fun _ => ?_) (fun h => by cases h)
      have hi1 : ((padT done).length : Int) + 1 = ((padT (done ++ [42])).length : Nat) := by rw [hpn]; simp [brC]
      refine ExSs.ifL (lastTest (l := trF done) C rfl rfl rfl rfl (.head _) htr) (fun t => ?_) (fun t => ExSs.nil (hR .next _ ?_))
      · have ht2 : trF (done ++ [42]) = trF done ++ [none] := by
          rw [hnext]; unfold stepI; rw [if_neg (by simp at t; simp [t])]; rfl
        refine ExSs.callAppE (EvE.var 4 C rfl rfl) (EvE.var 1 C rfl rfl) .head (by simp; lia) (ExSs.nil (hR .next _ ?_))
        refine ⟨rest.length, by simp, done ++ [42], rest, ps, .str [42], p8, p9, ?_, hsn, hps, rfl⟩
        rw [ht2, ← hi1]; simp; rfl
      · have ht2 : trF (done ++ [42]) = trF done := by
          rw [hnext]; unfold stepI; rw [if_pos (by simp at t; simp [t])]
        refine ⟨rest.length, by simp, done ++ [42], rest, ps, .str [42], p8, p9, ?_, hsn, hps, rfl⟩
        rw [ht2, ← hi1]; rfl
  · have hr : rest = [] := by
      cases rest with
      | nil => rfl
      | cons c r =>
        exfalso
        have h1 : padT sh = padT done ++ (brC c ++ padT r) := by rw [hsh]; unfold padT; simp
        have h2 : 1 ≤ (brC c).length := by unfold brC; split <;> simp
        rw [h1] at q
        simp at q; lia
    subst hr
    rw [List.append_nil] at hsh
    subst hsh
    refine ExSs.assert_ ((EvB.cmp (EvE.var 5 C rfl rfl) (EvE.var 6 C rfl rfl) CmpR.eqI).eq (by simp)) ?_
    exact ExSs.retE (EvE.var 3 C rfl rfl) (hQ (.ret _) _ ⟨ar, ps, rfl, hps, rfl⟩)
end
end Mine

/-! ## P8 -/
namespace Mine
theorem FnOk.sub {prog : Program} {w : World} {B : Heap → Prop} {d : Nat} {f : Value} {args : List PV} {m0 : Ledger} {P P' : PV → Ledger → Prop} (h : FnOk prog w B d f args m0 P) (q : ∀ pv m, P pv m → ∃ m', m'.Sublist m ∧ P' pv m') : FnOk prog w B d f args m0 P' :=
  fun h0 A s vals Q E b ok sub hm r k => h h0 A s vals Q E b ok sub hm r fun pv m1 v h' tk p hs hm1 vr =>
    let ⟨m', hl, hp⟩ := q pv m1 p
    k pv m' v h' tk hp hs ⟨fun p hp => hm1.at_ p (hl.subset hp), hm1.nd.sublist (hl.map _)⟩ vr

theorem apart_snoc {l : List (Option Sg)} {o : Option Sg} (h : apart l) (hn : ¬ (l.getLast? = some none ∧ o = none)) : apart (l ++ [o]) := by
  induction l with
  | nil => cases o <;> trivial
  | cons x l ih =>
    cases l with
    | nil =>
      cases x with
      | none =>
        cases o with
        | none => exact absurd ⟨rfl, rfl⟩ hn
        | some y => trivial
      | some y => cases o <;> trivial
    | cons y l =>
      have ht := apart_tail h
      have := ih ht (by simpa using hn)
      cases x with
      | none =>
        cases y with
        | none => exact h.elim
        | some z => exact this
      | some z => exact this
theorem stepI_apart {acc : List (Option Sg)} {c : Nat} (h : apart acc) : apart (stepI acc c) := by
  unfold stepI
  split
  · exact h
  · rename_i q
    refine apart_snoc h fun hh => ?_
    unfold itC at hh
    by_cases h42 : c = 42
    · exact q ⟨h42, hh.1⟩
    · rw [if_neg h42] at hh
      split at hh <;> cases hh.2
theorem trF_apart (sh : Sg) : ∀ acc, apart acc → apart (sh.foldl stepI acc) := by
  induction sh with
  | nil => intro acc h; exact h
  | cons c r ih => intro acc h; exact ih _ (stepI_apart h)
theorem itC_len {c : Nat} {x : Sg} (h : itC c = some x) : x.length ≤ 3 := by
  unfold itC at h
  split at h
  · cases h
  · split at h
    · cases h; simp
    · cases h; have := escC_len c; lia
theorem trF_txt (sh : Sg) : ∀ acc : List (Option Sg), (∀ x, some x ∈ acc → x.length ≤ 3) → ∀ x, some x ∈ sh.foldl stepI acc → x.length ≤ 3 := by
  induction sh with
  | nil => intro acc h; exact h
  | cons c r ih =>
    intro acc h
    refine ih _ fun x hx => ?_
    unfold stepI at hx
    split at hx
    · exact h x hx
    · rcases List.mem_append.mp hx with hx | hx
      · exact h x hx
      · exact itC_len (List.mem_singleton.mp hx).symm

section
variable {prog : Program} {w : World} {B : Heap → Prop} {mg mb : Str → Option Value} {fa : Nat → Addr} {d : Nat} {c : Cx} {σ : St}

theorem translate_ok (Z : Base B mg mb fa) {T : Addr} {f : Int → Option Value} (Y : TabB prog w B mg T f) {cc P twin : Addr} (L : LamB B mg fa cc P twin) (sh : Sg) (hs : ∀ c ∈ sh, shC c) (hl : sh.length ≤ 1000) (ps : Array Value) (ht : TabOk 110 39 ps) :
    FnOk prog w B 4 (.ref (fa 12)) [.str (padT sh)] [(P, .raw (tabObj ps))] (fun pv m => pv = .str (joinF2 (trF sh)) ∧ ∃ ps', TabOk 110 39 ps' ∧ m = [(P, .raw (tabObj ps'))]) := by
  refine FnOk.sub (P := fun pv m => pv = .str (joinF2 (trF sh)) ∧ ∃ ps' g, TabOk 110 39 ps' ∧ m = g ++ [(P, .raw (tabObj ps'))]) ?_ (fun pv m ⟨e, ps', g, h1, h2⟩ => ⟨_, by rw [h2]; exact List.sublist_append_right _ _, e, ps', h1, rfl⟩)
  have hpl : plainDfn (dfn 12) (["pat"].map Str.ofString) (["pat","STAR","parts"].map Str.ofString) = true := by decide +kernel
  refine FnOk.def_ Z.toBs (Z.defs 12 (by decide)).2 hpl rfl (fun pm cd doc => len1 fun _ => rfl) fun env he => ?_
  have C := he.ok hpl
  refine ExSs.letM (P1 := fun pv m => ∃ st, pv = .ref st ∧ m = [(P, .raw (tabObj ps))]) 1 C rfl rfl (EvM.object Z C (kind_of he (by decide +kernel)) fun a => ⟨a, rfl, rfl⟩) rfl ?_
  rintro _ _ ⟨st, rfl, rfl⟩
  refine ExSs.letF (m0 := [(P, .raw (tabObj ps))]) (rest := []) 2 13 Z C rfl rfl (by decide) rfl (kind_of he (by decide +kernel)) (EvAs.cons (EvE.var 0 C rfl rfl) (EvAs.cons (EvE.var 1 C rfl rfl) (EvAs.one (EvE.strL [46])))) (translate_in_ok Z Y L st sh hs hl ps ht) (by decide) (.refl _) ?_
  rintro _ _ ⟨a, ps', rfl, hps', rfl⟩
  have htl := trF_len sh []
  refine ExSs.retF (m0 := [(a, .lst ((trF sh).map (itm st)))]) (rest := [(P, .raw (tabObj ps'))]) 14 Z C (by decide) rfl (kind_of he (by decide +kernel)) (EvAs.cons (EvE.var 2 C rfl rfl) (EvAs.one (EvE.var 1 C rfl rfl)))
    (join_ok Z a st (trF sh) (by unfold trF; simp at htl; lia) (fun x hx => by have := trF_txt sh [] (by simp) x hx; lia) (trF_apart sh [] trivial)) (by decide) (.refl _) ?_
  rintro _ m1 rfl
  exact ⟨rfl, ps', m1, hps', rfl⟩
end
end Mine

/-! ## P9 -/
namespace Mine
noncomputable def initR (n : Nat) : List Bool := true :: List.replicate n false
noncomputable def starR (n : Nat) (r : List Bool) : List Bool := (List.range (n + 1)).map fun k => decide (true ∈ r.take (k + 1))
noncomputable def signR (name : Sg) (r : List Bool) (s : Nat) : List Bool := false :: (List.range name.length).map fun k => r.getD k false && ([name.getD k 0] == [s])
noncomputable def stepR (name : Sg) (r : List Bool) (s : Nat) : List Bool := if s = 42 then starR name.length r else signR name r s
noncomputable def tableF (sh name : Sg) : List Nat := (List.range (name.length + 1)).filter fun k => (sh.foldl (stepR name) (initR name.length)).getD k false
theorem stepR_len (name : Sg) (r : List Bool) (s : Nat) : (stepR name r s).length = name.length + 1 := by unfold stepR starR signR; split <;> simp
theorem pySl_map {α β : Type} (f : α → β) (l : List α) (lo hi : Option Int) : pySl (l.map f) lo hi = (pySl l lo hi).map f := by
  unfold pySl; simp [List.map_take, List.map_drop]
theorem pySl_upto {α : Type} (l : List α) (j : Nat) (b : Int) (hb : b = j) : pySl l none (some b) = l.take j := by
  subst hb
  have e2 : clipN l.length l.length (some (j : Int)) = min j l.length := clipN_nat _ _ _
  unfold pySl
  rw [e2]
  show (l.drop 0).take (min j l.length - 0) = _
  rw [List.drop_zero, Nat.sub_zero]
  by_cases h : j ≤ l.length
  · rw [Nat.min_eq_left h]
  · rw [Nat.min_eq_right (by lia), List.take_length, List.take_of_length_le (by lia)]

section
variable {prog : Program} {w : World} {B : Heap → Prop} {mg mb : Str → Option Value} {fa : Nat → Addr} {d : Nat} {c : Cx} {σ : St}

noncomputable def FreeAt (c : Cx) (σ : St) : List Str → List PV → Prop
  | [], [] => True
  | y :: ys, p :: ps => (∃ j : Nat, c.names[j]? = some y ∧ σ.vars[j]? = some p) ∧ FreeAt c σ ys ps
  | _, _ => False
theorem FreeAt.get : ∀ {ys : List Str} {ps : List PV}, FreeAt c σ ys ps → ∀ (k : Nat) (pv : PV), ps[k]? = some pv → pv = .undef ∨ ∃ (y : Str) (j : Nat), ys[k]? = some y ∧ c.names[j]? = some y ∧ σ.vars[j]? = some pv
  | [], [], _, k, pv, e => by simp at e
  | y :: ys, p :: ps, ⟨⟨j, h1, h2⟩, _⟩, 0, pv, e => by cases e; exact .inr ⟨y, j, rfl, h1, h2⟩
  | y :: ys, p :: ps, ⟨_, r⟩, k + 1, pv, e => FreeAt.get r k pv (by simpa using e)
  | [], _ :: _, x, _, _, _ => x.elim
  | _ :: _, [], x, _, _, _ => x.elim

theorem swaps_cell {elt : Expr} {gs : List Comprehension} {scope : Scope} {pos p : Pos} {t : Str} {l : Nat} {env : Env} (h : env.kindOf t = some .cell) : swapsWith (.ListComp elt gs scope pos) (some (.Name t p)) l env = pure false := by
  unfold swapsWith
  dsimp only
  rw [h]
  have : ((some NameKind.cell : Option NameKind) == some NameKind.local) = false := by decide
  simp only [this, Bool.and_false, Bool.false_and]
theorem swaps_local {elt : Expr} {gs : List Comprehension} {scope : Scope} {pos p : Pos} {t : Str} {l : Nat} {env : Env} (hb : env.blockKind = .function) (h : env.kindOf t = some .local) (hp : (p.line == (Expr.ListComp elt gs scope pos).pos.line) = true) (hn : (scope.names.any fun (n, k) => n == t && (k == .local || k == .cell)) = false) :
    swapsWith (.ListComp elt gs scope pos) (some (.Name t p)) l env = pure true := by
  unfold swapsWith
  dsimp only
  rw [h, hb, hp, hn]
  rfl

theorem law_table_ok (Z : Base B mg mb fa) (sh name : Sg) (hl : sh.length ≤ 1000) (hn : name.length ≤ 1000) :
    FnOk prog w B 1 (.ref (fa 25)) [.str sh, .str name] [] (fun pv m => ∃ a, pv = .ref a ∧ (a, .lst ((tableF sh name).map nI)) ∈ m) := by
  have hpl : cellDfn (dfn 25) (["shell","name"].map Str.ofString) (["shell","name","reached","sign"].map Str.ofString) = true := by decide +kernel
  refine FnOk.defX Z.toBs (Z.defs 25 (by decide)).2 hpl rfl (fun pm cd doc => len2 fun _ _ => rfl) fun env he => ?_
  have C := he.ok hpl
  have kl : env.kindOf (Str.ofString "len") = some .globalImplicit := kind_ofC he (by decide +kernel)
  have kr : env.kindOf (Str.ofString "range") = some .globalImplicit := kind_ofC he (by decide +kernel)
  have nl : ∀ {σ : St} {np pos p2 : Pos}, σ.vars[1]? = some (.str name) → EvE prog w B 0 ⟨env, ["shell","name","reached","sign"].map Str.ofString, true⟩ σ (.Call (.Name (Str.ofString "len") np) [.Name (Str.ofString "name") p2] [] pos) (.int name.length) :=
    fun hv => EvE.len Z C kl (EvE.var 1 C rfl hv) (CallP.lenS (by lia))
  refine ExSs.letM (P1 := fun pv m => ∃ a g, pv = .ref a ∧ m = (a, .lst ((initR name.length).map PV.bool)) :: g) 2 C rfl rfl
    (EvM.addL (P1 := fun pv m => ∃ a, pv = .ref a ∧ m = [(a, .lst [.bool true])]) (EvM.list (Pa := fun pvs m => pvs = [.bool true] ∧ m = []) (EvMs.consE EvE.bool (EvMs.nil ⟨rfl, rfl⟩)) (fun pvs m q => by rw [q.1]; simp) fun pvs m a q => ⟨a, by rw [q.1, q.2]; exact ⟨rfl, rfl⟩⟩) ?_) rfl ?_
  · rintro _ _ ⟨a, rfl, rfl⟩
    refine EvM.mulL (n := name.length) (P1 := fun pv m => ∃ b, pv = .ref b ∧ m = [(b, .lst [.bool false]), (a, .lst [.bool true])]) (EvM.list (Pa := fun pvs m => pvs = [.bool false] ∧ m = [(a, .lst [.bool true])]) (EvMs.consE EvE.bool (EvMs.nil ⟨rfl, rfl⟩)) (fun pvs m q => by rw [q.1]; simp) fun pvs m b q => ⟨b, by rw [q.1, q.2]; exact ⟨rfl, rfl⟩⟩) ?_ (by lia)
    rintro _ _ ⟨b, rfl, rfl⟩
    refine ⟨nl rfl, b, [.bool false], rfl, .head _, by simp; lia, fun D => ⟨a, D, _, _, rfl, rfl, .tail _ (.tail _ (.head _)), .head _, by simp; lia, fun D' => ⟨D', _, rfl, by
      have : (initR name.length).map PV.bool = [.bool true] ++ (List.replicate name.length [PV.bool false]).flatten := by simp [initR]
      rw [this]⟩⟩⟩
  rintro _ _ ⟨a, g, rfl, rfl⟩
  refine ExSs.forCore (n := sh.length) Z.toBs (IterR.str (EvE.var 0 C rfl rfl))
    (fun i σ' => ∃ (a : Addr) (r : List Bool) (g : Ledger) (p3 : PV), σ' = ⟨[.str sh, .str name, .ref a, p3], (a, .lst (r.map PV.bool)) :: g⟩ ∧ r.length = name.length + 1 ∧ (sh.drop i).foldl (stepR name) r = sh.foldl (stepR name) (initR name.length))
    ⟨a, initR name.length, g, .undef, rfl, by simp [initR], rfl⟩ ?_ ?_
  · rintro i _ hi ⟨a, r, g, p3, rfl, hr, hR⟩
    refine ⟨_, AsgR.name 3 C rfl rfl, ?_⟩
    have hg : sh.getD i 0 = sh[i] := by rw [List.getD_eq_getElem?_getD, List.getElem?_eq_getElem hi]; rfl
    rw [List.drop_eq_getElem_cons hi, List.foldl_cons] at hR
    rw [hg]
    generalize hs : sh[i] = s at hR ⊢
    refine ExSs.ifL (EvB.cmp (EvE.var 3 C rfl rfl) (EvE.strL [42]) CmpR.eqS) (fun hc => ?_) (fun hc => ?_)
    · have hc' : s = 42 := by simpa using hc
      rw [stepR, if_pos hc'] at hR
      refine ExSs.letM (P1 := fun pv m => ∃ D g, pv = .ref D ∧ m = (D, .lst ((starR name.length r).map PV.bool)) :: g) 2 C rfl rfl (EvM.comp (m0 := (a, .lst (r.map PV.bool)) :: g) (extra := []) (n := name.length + 1) [Str.ofString "reached"] [.ref a] Z.toBs (CompOk.of he C (by decide +kernel) (FreeAt.get ⟨⟨2, rfl, rfl⟩, trivial⟩))
        (IterR.range1 (n := name.length + 1) Z C kr ((EvE.bin (nl rfl) EvE.int BinR.add).eq (by simp)) (by lia)) (by lia)
        (fun i pvs m => pvs = ((List.range i).map fun k => decide (true ∈ r.take (k + 1))).map PV.bool ∧ m = (a, .lst (r.map PV.bool)) :: g) ⟨rfl, rfl⟩ ?_ ?_) (swaps_cell (kind_ofC he (by decide +kernel))) ?_
      · rintro k L _ _ hk ⟨rfl, rfl⟩
        have C' := (CompOk.of (σ := ⟨[.str sh, .str name, .ref a, .str [s]], (a, .lst (r.map PV.bool)) :: g⟩) (frees := [Str.ofString "reached"]) (fvs := [.ref a]) (x := Str.ofString "k") (scope := { kind := .function, names := [(Str.ofString ".0", .local), (Str.ofString "k", .local), (Str.ofString "reached", .free)], isGenerator := false, isCoroutine := false, more := [] }) he C (by decide +kernel) (FreeAt.get ⟨⟨2, rfl, rfl⟩, trivial⟩)).ok L
        refine ⟨true, EvF.nil, fun q => (by cases q), fun _ => ?_⟩
        refine EvE.m (pv := .bool (decide (true ∈ r.take (k + 1)))) (EvE.inX gB EqF.bool gB_ok EvE.bool ?_) ⟨?_, rfl⟩
        · have := EvX.slice (prog := prog) (w := w) (B := B) (d := 0) (value := .Name (Str.ofString "reached") ⟨267, 31, 267, 38⟩) (lo := none) (hi := some (.BinOp (.Name (Str.ofString "k") ⟨267, 40, 267, 41⟩) .Add (.Constant (.int 1) 0 ⟨267, 44, 267, 45⟩) ⟨267, 40, 267, 45⟩)) (p := ⟨267, 39, 267, 45⟩) (pos := ⟨267, 31, 267, 46⟩) (l := none) (u := some ((k : Int) + 1)) (EvE.var (σ := ⟨[.int k, .ref a], (a, .lst (r.map PV.bool)) :: g⟩) 1 C' rfl rfl) (.head _) EvP.n (EvP.s (EvE.bin (EvE.var 0 C' rfl rfl) EvE.int BinR.add)) (by simp; lia)
          rw [pySl_map, pySl_upto r (k + 1) _ (by simp)] at this
          exact this
        · rw [List.range_succ]; simp
      · rintro _ _ D ⟨rfl, rfl⟩
        exact ⟨D, _, rfl, rfl⟩
      · rintro _ _ ⟨D, g', rfl, rfl⟩
        refine ExSs.nil ⟨D, starR name.length r, _, .str [s], rfl, by simp [starR], hR⟩
    · have hc' : s ≠ 42 := by simpa using hc
      rw [stepR, if_neg hc'] at hR
      refine ExSs.letM (P1 := fun pv m => ∃ D g, pv = .ref D ∧ m = (D, .lst ((signR name r s).map PV.bool)) :: g) 2 C rfl rfl
        (EvM.addL (P1 := fun pv m => ∃ b, pv = .ref b ∧ m = (b, .lst [.bool false]) :: (a, .lst (r.map PV.bool)) :: g) (EvM.list (Pa := fun pvs m => pvs = [.bool false] ∧ m = (a, .lst (r.map PV.bool)) :: g) (EvMs.consE EvE.bool (EvMs.nil ⟨rfl, rfl⟩)) (fun pvs m q => by rw [q.1]; simp) fun pvs m b q => ⟨b, by rw [q.1, q.2]; exact ⟨rfl, rfl⟩⟩) ?_) rfl ?_
      · rintro _ _ ⟨b, rfl, rfl⟩
        have K := CompOk.of (σ := ⟨[.str sh, .str name, .ref a, .str [s]], (b, .lst [.bool false]) :: (a, .lst (r.map PV.bool)) :: g⟩) (frees := [Str.ofString "name", Str.ofString "reached", Str.ofString "sign"]) (fvs := [.str name, .ref a, .str [s]]) (x := Str.ofString "k") (scope := { kind := .function, names := [(Str.ofString ".0", .local), (Str.ofString "k", .local), (Str.ofString "name", .free), (Str.ofString "reached", .free), (Str.ofString "sign", .free)], isGenerator := false, isCoroutine := false, more := [] }) he C (by decide +kernel) (FreeAt.get ⟨⟨1, rfl, rfl⟩, ⟨2, rfl, rfl⟩, ⟨3, rfl, rfl⟩, trivial⟩)
        refine EvM.comp (m0 := (b, .lst [.bool false]) :: (a, .lst (r.map PV.bool)) :: g) (extra := []) (n := name.length) _ _ Z.toBs K
          (IterR.range1 (n := name.length) Z C kr (nl rfl) (by lia)) (by lia)
          (fun i pvs m => pvs = ((List.range i).map fun k => r.getD k false && ([name.getD k 0] == [s])).map PV.bool ∧ m = (b, .lst [.bool false]) :: (a, .lst (r.map PV.bool)) :: g) ⟨rfl, rfl⟩ ?_ ?_
        · rintro k L _ _ hk ⟨rfl, rfl⟩
          have C' := K.ok L
          refine ⟨true, EvF.nil, fun q => (by cases q), fun _ => ?_⟩
          have e1 : (r.map PV.bool)[(k : Int).toNat]? = some (.bool (r.getD k false)) := by
            have hk' : k < r.length := by lia
            rw [Int.toNat_natCast, List.getElem?_map, List.getD_eq_getElem?_getD, List.getElem?_eq_getElem hk']; rfl
          have e2 : name[(k : Int).toNat]? = some (name.getD k 0) := by
            rw [Int.toNat_natCast, List.getD_eq_getElem?_getD, List.getElem?_eq_getElem hk]; rfl
          refine EvE.m (pv := .bool (r.getD k false && ([name.getD k 0] == [s]))) (EvE.and2 (EvE.idx (EvE.var 2 C' rfl rfl) (.tail _ (.head _)) (EvE.var 0 C' rfl rfl) (by lia) (by lia) e1) fun _ => EvE.cmp (EvE.idxS (EvE.var 1 C' rfl rfl) (EvE.var 0 C' rfl rfl) (by lia) (by lia) e2) (EvE.var 3 C' rfl rfl) CmpR.eqS) ⟨?_, rfl⟩
          rw [List.range_succ]; simp
        · rintro _ _ D ⟨rfl, rfl⟩
          refine ⟨b, D, _, _, rfl, rfl, .tail _ (.head _), .head _, by simp; lia, fun D' => ⟨D', _, rfl, by
            have : (signR name r s).map PV.bool = [.bool false] ++ ((List.range name.length).map fun k => r.getD k false && ([name.getD k 0] == [s])).map PV.bool := by simp [signR]
            rw [this]⟩⟩
      · rintro _ _ ⟨D, g', rfl, rfl⟩
        refine ExSs.nil ⟨D, signR name r s, _, .str [s], rfl, by simp [signR], hR⟩
  · rintro _ ⟨a, r, g, p3, rfl, hr, hR⟩
    rw [List.drop_length, List.foldl_nil] at hR
    have K := CompOk.of (σ := ⟨[.str sh, .str name, .ref a, p3], (a, .lst (r.map PV.bool)) :: g⟩) (frees := [Str.ofString "reached"]) (fvs := [.ref a]) (x := Str.ofString "k") (scope := { kind := .function, names := [(Str.ofString ".0", .local), (Str.ofString "k", .local), (Str.ofString "reached", .free)], isGenerator := false, isCoroutine := false, more := [] }) he C (by decide +kernel) (FreeAt.get ⟨⟨2, rfl, rfl⟩, trivial⟩)
    refine ExSs.ret (P1 := fun pv m => ∃ D, pv = .ref D ∧ (D, MO.lst ((tableF sh name).map nI)) ∈ m) (EvM.comp (m0 := (a, .lst (r.map PV.bool)) :: g) (extra := []) (n := name.length + 1) _ _ Z.toBs K
          (IterR.range1 (n := name.length + 1) Z C kr ((EvE.bin (nl rfl) EvE.int BinR.add).eq (by simp)) (by lia)) (by lia)
          (fun i pvs m => pvs = ((List.range i).filter fun k => r.getD k false).map nI ∧ m = (a, .lst (r.map PV.bool)) :: g) ⟨rfl, rfl⟩ ?_ ?_) fun pv m q => q
    · rintro k L _ _ hk ⟨rfl, rfl⟩
      have C' := K.ok L
      have e1 : (r.map PV.bool)[(k : Int).toNat]? = some (.bool (r.getD k false)) := by
        have hk' : k < r.length := by lia
        rw [Int.toNat_natCast, List.getElem?_map, List.getD_eq_getElem?_getD, List.getElem?_eq_getElem hk']; rfl
      refine ⟨r.getD k false, EvF.one (EvB.val (EvE.idx (EvE.var 1 C' rfl rfl) (.head _) (EvE.var 0 C' rfl rfl) (by lia) (by lia) e1) TruR.bool), fun q => ⟨?_, rfl⟩, fun q => ?_⟩
      · rw [List.range_succ, List.filter_append, List.filter_cons_of_neg (by rw [q]; decide)]; simp
      · refine EvE.m (EvE.var 0 C' rfl rfl) ⟨?_, rfl⟩
        rw [List.range_succ, List.filter_append, List.filter_cons_of_pos (p := fun k => r.getD k false) (a := k) (l := []) q]; simp
    · rintro _ _ D ⟨rfl, rfl⟩
      refine ⟨D, rfl, ?_⟩
      have : tableF sh name = (List.range (name.length + 1)).filter fun k => r.getD k false := by unfold tableF; rw [← hR]
      rw [this]
      exact .head _
end
end Mine

/-! ## P10 -/
namespace Mine
section
variable {prog : Program} {w : World} {B : Heap → Prop} {mg mb : Str → Option Value} {fa : Nat → Addr} {d : Nat} {c : Cx} {σ : St} {K : Frag} {C fI : Addr}

theorem EvB.is_none {l r : Expr} {pos : Pos} (hl : EvE prog w B d c σ l (.val .none)) (hr : EvE prog w B d c σ r (.val .none)) (hm : behindInMarks .Is r = false := by with_unfolding_all rfl) : EvB prog w B d c σ (.Compare l [.Is] [r] pos) true :=
  fun h0 A s Q E b ok R k => wpAny_isTrue_Compare1 (hl h0 A s _ E b ok R fun v1 h1 t1 s1 r1 => hr h0 A _ _ E b ok (R.sub s1) fun v2 h2 t2 s2 r2 => by
    obtain rfl : v1 = .none := r1
    obtain rfl : v2 = .none := r2
    exact wpAny_is_self rfl (wpAny_truthy_bool (k h2 t2 (s1.trans s2)))) hm

noncomputable def cFig : List Nat := [102, 105, 103]

theorem merge_ok (Z : Base B mg mb fa) (T : EntB B mg K C fI) {x1 d1 u1 r1 x2 d2 u2 r2 : Addr} {es1 es2 : List DictEntry} {n1 n2 : Nat} (h1 : Ents (entL u1 r1) es1) (h2 : Ents (entL u2 r2) es2) (rs1 rs2 : List PV) (hl : rs1.length + rs2.length ≤ 1000) :
    FnOk prog w B 3 (.ref (fa 9)) [.ref x1, .ref x2] (entM C x1 d1 u1 r1 es1 n1 [.str cFig] rs1 ++ entM C x2 d2 u2 r2 es2 n2 [.str cFig] rs2)
      (fun pv m => ∃ x dx u r es n g, pv = .ref x ∧ Ents (entL u r) es ∧ m.Perm (entM C x dx u r es n [.str cFig] (rs1 ++ rs2) ++ (entM C x1 d1 u1 r1 es1 n1 [.str cFig] rs1 ++ entM C x2 d2 u2 r2 es2 n2 [.str cFig] rs2) ++ g)) := by
  have hpl : plainDfn (dfn 9) (["e1","e2"].map Str.ofString) (["e1","e2","entry"].map Str.ofString) = true := by decide +kernel
  refine FnOk.def_ Z.toBs (Z.defs 9 (by decide)).2 hpl rfl (fun pm cd doc => len2 fun _ _ => rfl) fun env he => ?_
  have CC := he.ok hpl
  refine ExSs.genP fun Q0 hQ0 => ?_
  generalize hM : entM C x1 d1 u1 r1 es1 n1 [.str cFig] rs1 ++ entM C x2 d2 u2 r2 es2 n2 [.str cFig] rs2 = M
  have mx1 : (x1, MO.raw (instObj C d1)) ∈ M := by rw [← hM]; exact .head _
  have md1 : (d1, MO.raw (dictOf es1 n1)) ∈ M := by rw [← hM]; exact .tail _ (.head _)
  have mu1 : (u1, MO.lst [.str cFig]) ∈ M := by rw [← hM]; exact .tail _ (.tail _ (.head _))
  have mr1 : (r1, MO.lst rs1) ∈ M := by rw [← hM]; exact .tail _ (.tail _ (.tail _ (.head _)))
  have mx2 : (x2, MO.raw (instObj C d2)) ∈ M := by rw [← hM]; exact List.mem_append_right _ (.head _)
  have md2 : (d2, MO.raw (dictOf es2 n2)) ∈ M := by rw [← hM]; exact List.mem_append_right _ (.tail _ (.head _))
  have mu2 : (u2, MO.lst [.str cFig]) ∈ M := by rw [← hM]; exact List.mem_append_right _ (.tail _ (.tail _ (.head _)))
  have mr2 : (r2, MO.lst rs2) ∈ M := by rw [← hM]; exact List.mem_append_right _ (.tail _ (.tail _ (.tail _ (.head _))))
  refine ExSs.letK 2 CC rfl rfl (EvM.newEntry Z T (by decide) CC (kind_of he (by decide +kernel)) fun x dx u r es n hE => ?_)
  have inM : ∀ {p : Addr × MO} {g : Ledger}, p ∈ M → p ∈ g ++ M := fun h => List.mem_append_right _ h
  -- the agents
  refine ExSs.setAttrA (x := x) (dx := dx) (fun D => (D, .lst [.str cFig]) :: (entM C x dx u r es n [] [] ++ M)) (fun D es3 n3 => (D, .lst [.str cFig]) :: (entM C x dx u r es3 n3 [] [] ++ M)) T
    (fun _ q => EvM.listFilter Z CC (kind_of he (by decide +kernel)) (kind_of he (by decide +kernel)) (kind_of he (by decide +kernel))
      (EvE.attr T (EvE.var 0 CC rfl rfl) (inM mx1) (inM md1) h1 (v := .ref u1) rfl (by decide +kernel) rfl) (EvE.attr T (EvE.var 1 CC rfl rfl) (inM mx2) (inM md2) h2 (v := .ref u2) rfl (by decide +kernel) rfl) (inM mu1) (inM mu2) q) (by decide +kernel)
    (fun D => EvE.var 2 CC rfl rfl) (fun D => .tail _ (.head _)) (fun D => .tail _ (.tail _ (.head _))) hE (Nat.le_of_ble_eq_true rfl) (fun D es3 n3 => .tail (.tail .head)) fun D es3 n3 hE3 => ?_
  -- the rules
  refine ExSs.setAttrA (x := x) (dx := dx) (fun G => (G, .lst (rs1 ++ rs2)) :: ((D, .lst [.str cFig]) :: (entM C x dx u r es3 n3 [] [] ++ M))) (fun G es4 n4 => (G, .lst (rs1 ++ rs2)) :: ((D, .lst [.str cFig]) :: (entM C x dx u r es4 n4 [] [] ++ M))) T
    (fun P1 q => EvM.addL (P1 := fun pv m => pv = .ref r1 ∧ m = ((D, MO.lst [.str cFig]) :: (entM C x dx u r es3 n3 [] [] ++ M)))
      ((EvE.attr T (EvE.var 0 CC rfl rfl) (.tail _ (inM mx1)) (.tail _ (inM md1)) h1 (v := .ref r1) rfl (by decide +kernel) rfl).m ⟨rfl, rfl⟩) ?_) (by decide +kernel)
    (fun G => EvE.var 2 CC rfl rfl) (fun G => .tail _ (.tail _ (.head _))) (fun G => .tail _ (.tail _ (.tail _ (.head _)))) hE3 (Nat.le_of_ble_eq_true rfl) (fun G es4 n4 => .tail (.tail (.tail .head))) fun G es4 n4 hE4 => ?_
  · rintro _ _ ⟨rfl, rfl⟩
    exact (EvE.attr T (EvE.var 1 CC rfl rfl) (.tail _ (inM mx2)) (.tail _ (inM md2)) h2 (v := .ref r2) rfl (by decide +kernel) rfl).m ⟨r1, r2, rs1, rs2, rfl, rfl, .tail _ (inM mr1), .tail _ (inM mr2), by lia, q⟩
  have two : ∀ {p q : Addr × MO} {g : Ledger} {y : Addr × MO}, y ∈ M → y ∈ p :: q :: (g ++ M) := fun h => .tail _ (.tail _ (inM h))
  -- the rest
  refine ExSs.setAttrE (x := x) (dx := dx) (v := .none) (fun es5 n5 => (G, .lst (rs1 ++ rs2)) :: ((D, .lst [.str cFig]) :: (entM C x dx u r es5 n5 [] [] ++ M))) T
    ((EvE.ite (q := .val .none) (EvB.is_none (EvE.attr T (EvE.var 1 CC rfl rfl) (two mx2) (two md2) h2 (v := .none) rfl (by decide +kernel) rfl) EvE.noneC) (fun _ => EvE.attr T (EvE.var 0 CC rfl rfl) (two mx1) (two md1) h1 (v := .none) rfl (by decide +kernel) rfl) fun q => by cases q).eq rfl) (by decide +kernel)
    (EvE.var 2 CC rfl rfl) (.tail _ (.tail _ (.head _))) (.tail _ (.tail _ (.tail _ (.head _)))) hE4 (Nat.le_of_ble_eq_true rfl) (fun es5 n5 => .tail (.tail (.tail .head))) fun es5 n5 hE5 => ?_
  refine ExSs.setAttrE (x := x) (dx := dx) (v := .none) (fun es6 n6 => (G, .lst (rs1 ++ rs2)) :: ((D, .lst [.str cFig]) :: (entM C x dx u r es6 n6 [] [] ++ M))) T
    ((EvE.ite (q := .val .none) (EvB.is_none (EvE.attr T (EvE.var 1 CC rfl rfl) (two mx2) (two md2) h2 (v := .none) rfl (by decide +kernel) rfl) EvE.noneC) (fun _ => EvE.attr T (EvE.var 0 CC rfl rfl) (two mx1) (two md1) h1 (v := .none) rfl (by decide +kernel) rfl) fun q => by cases q).eq rfl) (by decide +kernel)
    (EvE.var 2 CC rfl rfl) (.tail _ (.tail _ (.head _))) (.tail _ (.tail _ (.tail _ (.head _)))) hE5 (Nat.le_of_ble_eq_true rfl) (fun es6 n6 => .tail (.tail (.tail .head))) fun es6 n6 hE6 => ?_
  refine ExSs.retE (EvE.var 2 CC rfl rfl) (hQ0 (.ret _) _ ⟨x, dx, D, G, es6, n6, [(u, .lst []), (r, .lst [])], rfl, hE6, ?_⟩)
  show List.Perm ((G, MO.lst (rs1 ++ rs2)) :: (D, .lst [.str cFig]) :: (x, .raw (instObj C dx)) :: (dx, .raw (dictOf es6 n6)) :: (u, .lst []) :: (r, .lst []) :: M) _
  rw [← hM]
  have e1 : List.Perm ([(G, MO.lst (rs1 ++ rs2)), (D, MO.lst [.str cFig])] ++ [(x, MO.raw (instObj C dx)), (dx, MO.raw (dictOf es6 n6))]) (entM C x dx D G es6 n6 [.str cFig] (rs1 ++ rs2)) :=
    List.perm_append_comm.trans (List.Perm.cons _ (List.Perm.cons _ (List.Perm.swap _ _ _)))
  have e2 : List.Perm ([(u, MO.lst []), (r, MO.lst [])] ++ M) (M ++ [(u, MO.lst []), (r, MO.lst [])]) := List.perm_append_comm
  have := e1.append e2
  simpa [hM] using this
end
end Mine

/-! ## T3 -/
namespace Mine
section
variable {prog : Program} {w : World}

noncomputable def lex3 (x y : Int × Int × Int) : Bool := if x.1 = y.1 then (if x.2.1 = y.2.1 then decide (x.2.2 < y.2.2) else decide (x.2.1 < y.2.1)) else decide (x.1 < y.1)

theorem tuple_lt_tree {A : Around} {E : Value → Shared → Prop} {s : Shared} {p q : Addr} {a b c a' b' c' : Int} {t1 t2 t3 u1 u2 u3 : Tok} {n m : Nat} {P : Fin → Shared → Prop} (hx : s.heap.get? p = some (tupO #[.int a t1, .int b t2, .int c t3] n)) (hy : s.heap.get? q = some (tupO #[.int a' u1, .int b' u2, .int c' u3] m))
    (h : P (.done (.ret (.bool (lex3 (a, b, c) (a', b', c'))))) s) : wpAny (model prog w) A (Builtin.«tuple.__lt__» ⟨[.ref p, .ref q], []⟩) P E s := by
  have hTb : s.TypeIs (.ref q) "tuple" := ⟨_, hy, rfl⟩
  show wpAny _ _ (isInstance (.ref q) (.type "tuple") >>= _) _ _ s
  refine wpAny_bind (wpAny_isInstance hTb isSubtype_tuple_tuple ?_)
  simp only [Bool.not_true, Bool.false_eq_true, if_false]
  refine wpAny_bind (wpAny_tupleItemsOf hx rfl ?_)
  refine wpAny_bind (wpAny_tupleItemsOf hy rfl ?_)
  refine wpAny_bind ?_
  show wpAny _ _ (forIn [(Value.int a t1, Value.int a' u1), (Value.int b t2, Value.int b' u2), (Value.int c t3, Value.int c' u3)] _ _) _ _ s
  unfold lex3 at h
  dsimp only at h
  simp only [List.forIn_cons, List.forIn_nil]
  have fin : ∀ (x y : Int) (t u : Tok) (Q : Value → Shared → Prop), Q (.bool (decide (x < y))) s → wpAny (model prog w) A (richCompare .Lt (.int x t) (.int y u)) Q E s := fun x y t u Q k => show wpAny (model prog w) A (compareOp .Lt (.int x t) (.int y u)) Q E s from PyProof.Rows.lt_int k
  refine wpAny_bind (wpAny_bind (wpAny_eqBool_int ?_))
  by_cases h1 : a = a'
  · subst h1
    simp only [beq_self_eq_true, Bool.not_true, Bool.false_eq_true, if_false]
    simp only [if_true] at h
    refine wpAny_pure ?_
    dsimp only
    refine wpAny_bind (wpAny_bind (wpAny_eqBool_int ?_))
    by_cases h2 : b = b'
    · subst h2
      simp only [beq_self_eq_true, Bool.not_true, Bool.false_eq_true, if_false]
      simp only [if_true] at h
      refine wpAny_pure ?_
      dsimp only
      refine wpAny_bind (wpAny_bind (wpAny_eqBool_int ?_))
      by_cases h3 : c = c'
      · subst h3
        simp only [beq_self_eq_true, Bool.not_true, Bool.false_eq_true, if_false]
        refine wpAny_pure ?_
        dsimp only
        refine wpAny_pure (wpAny_pure ?_)
        have : decide (c < c) = false := by simp
        rw [this] at h
        exact h
      · simp only [beq_eq_false_iff_ne.mpr h3, Bool.not_false, if_true]
        refine wpAny_bind (wpAny_rule (wpAny_bind (fin _ _ _ _ _ ?_)))
        exact wpAny_bind (wpAny_pure (wpAny_pure (wpAny_pure (wpAny_pure h))))
    · simp only [beq_eq_false_iff_ne.mpr h2, Bool.not_false, if_true]
      rw [if_neg h2] at h
      refine wpAny_bind (wpAny_rule (wpAny_bind (fin _ _ _ _ _ ?_)))
      exact wpAny_bind (wpAny_pure (wpAny_pure (wpAny_pure (wpAny_pure h))))
  · simp only [beq_eq_false_iff_ne.mpr h1, Bool.not_false, if_true]
    rw [if_neg h1] at h
    refine wpAny_bind (wpAny_rule (wpAny_bind (fin _ _ _ _ _ ?_)))
    exact wpAny_bind (wpAny_pure (wpAny_pure (wpAny_pure (wpAny_pure h))))

noncomputable def t3of (x : Int × Int × Int) : PV := .t3 x.1 x.2.1 x.2.2
theorem CmpR.lt3 (x y : Int × Int × Int) : CmpR prog w .Lt (t3of x) (t3of y) (lex3 x y) := by
  rintro A s _ _ Q E hu _ ⟨p, t1, t2, t3, n, rfl, hx⟩ ⟨q, u1, u2, u3, m, rfl, hy⟩ k
  exact wpAny_richCompare_same_room (op := .Lt) (T := "tuple") ⟨_, hx, rfl⟩ ⟨_, hy, rfl⟩ F.slot_tuple_lt (wpAny_call_entry F.slot_tuple_lt ⟨_, hx, rfl⟩ F.entry_tuple_lt (tuple_lt_tree hx hy ⟨_, rfl, (fun e => nomatch e), k _ s.toks Sub.rfl⟩) (F.args_tuple_lt_2 _ _)) hu
end
end Mine

/-! ## P11 -/
namespace Mine
/-! the law's own reckoning -/
noncomputable def ownL : List Int := [3, 0, 6, 1, 4, 1, 5, 2, 7, 10, 4, 6, 8, 10, 10, 0, 2, 4, 8, 12, 6, 10, 5, 2]
noncomputable def cellsF (script : List Int) : List Int := (List.range 24).map fun k => ownL.getD k 0 + (if k < script.length then script.getD k 0 else 0)
noncomputable def nameT : Sg := [97, 98, 97, 97, 98, 98, 63, 46]
noncomputable def pathT : Sg := [42, 42, 42, 97, 97, 97, 98, 98, 63, 46]
noncomputable def signN (x : Int) : Sg := (nameT.drop (x / 2 % 9).toNat).take 1
noncomputable def signP (x : Int) : Sg := (pathT.drop (x % 11).toNat).take 1
noncomputable def nameF (cells : List Int) : Sg := (((cells.drop 15).take 7).map signN).flatten
noncomputable def pathF (cells : List Int) (r : Nat) : Sg := (((cells.drop (5 * r)).take 5).map signP).flatten
noncomputable def shellF (path : Sg) : Sg := if 42 ∈ path then path else 42 :: path
noncomputable def lastI (t : List Nat) : Int := match t.getLast? with | none => -1 | some k => k
noncomputable def bit (x : Int) (r : Nat) : Int := x / 2 ^ (r : Int).toNat % 2
noncomputable def tabD (cells : List Int) (name : Sg) (r : Nat) : List Nat := tableF (shellF (pathF cells r)) name
noncomputable def endD (cells : List Int) (name : Sg) (r : Nat) : Int := if bit (cells.getD 23 0) r = 1 then (if lastI (tabD cells name r) = name.length then lastI (tabD cells name r) else -1) else lastI (tabD cells name r)
noncomputable def dueD (cells : List Int) (name : Sg) (r : Nat) : Int := if bit (cells.getD 23 0) r = 1 then (if name.length ∈ tabD cells name r then (name.length : Int) else -1) else lastI (tabD cells name r)
noncomputable def verD (cells : List Int) (r : Nat) : Int := bit (cells.getD 22 0) r
noncomputable def rowD (cells : List Int) (name : Sg) (r : Nat) : Int × Int × Int := (-1 - endD cells name r, 1 - verD cells r, (r : Int))

/-- what the texts must answer -/
structure MathOk (path name : Sg) : Prop where
  few : (piecesF (joinAll (trF (shellF path))).flatten).length ≤ 63
  ends : ∃ N ≤ 1000, endsRun (piecesF (joinAll (trF (shellF path))).flatten) name N [0] [0] [] = some (tableF (shellF path) name)
  small : ∀ p ∈ piecesF (tpF path), p.length ≤ 4
  some : (piecesF (tpF path)).length ≤ 100000
  walk : walkF name (runsF (piecesF (tpF path))) 0 = lastI (tableF (shellF path) name)

noncomputable abbrev coreT (C ca fA vA x1 d1 u1 r1 x2 d2 u2 r2 : Addr) (es1 : List DictEntry) (n1 : Nat) (es2 : List DictEntry) (n2 : Nat) (cells fs vs : List Int) (rows1 rows2 : List (Int × Int × Int)) : Ledger :=
  [(ca, .lst (cells.map .int)), (fA, .lst (fs.map .int)), (vA, .lst (vs.map .int)), (x1, .raw (instObj C d1)), (d1, .raw (dictOf es1 n1)), (u1, .lst [.str cFig]), (r1, .lst (rows1.map t3of)),
    (x2, .raw (instObj C d2)), (d2, .raw (dictOf es2 n2)), (u2, .lst [.str cFig]), (r2, .lst (rows2.map t3of))]
noncomputable abbrev core (C P ca fA vA x1 d1 u1 r1 x2 d2 u2 r2 : Addr) (es1 : List DictEntry) (n1 : Nat) (es2 : List DictEntry) (n2 : Nat) (cells fs vs : List Int) (rows1 rows2 : List (Int × Int × Int)) (ps : Array Value) : Ledger :=
  (P, .raw (tabObj ps)) :: coreT C ca fA vA x1 d1 u1 r1 x2 d2 u2 r2 es1 n1 es2 n2 cells fs vs rows1 rows2
theorem core_perm {x : Addr × MO} {g l : Ledger} : ([x] ++ (g ++ l)).Perm (g ++ x :: l) := by
  show List.Perm (x :: (g ++ l)) _
  exact List.perm_middle.symm

noncomputable def lawNames : List Str := ["script","own","k","cells","name","first","second","farthest","verdicts","r","path","shell","table","text","end","due","verdict","rows","both","came","order"].map Str.ofString
noncomputable def lawBody : List Stmt := (dfn 26).body

section
variable {prog : Program} {w : World} {B : Heap → Prop} {mg mb : Str → Option Value} {fa : Nat → Addr} {d : Nat} {c : Cx} {σ : St}

/-- ''.join(..) of a made list -/
theorem EvM.joinM {o e : Expr} {ap pos : Pos} {P : PV → Ledger → Prop} (ho : EvE prog w B d c σ o (.str [])) (he : EvM prog w B d c σ e (fun pv m => ∃ a, ∃ l : List (List Nat), pv = .ref a ∧ (a, MO.lst (l.map .str)) ∈ m ∧ l.flatten.length ≤ 16777216 ∧ P (.str l.flatten) m))
    (hb : attributeBase o (Str.ofString "join") c.env (eval o c.env) = eval o c.env := by rfl) (hp : (Pos.endLine ap == Pos.line pos) = true := by rfl)
    (hs : ∀ env, starEach [e] env = (false, eval e env) :: starEach [] env := by intro _; rfl) : EvM prog w B d c σ (.Call (.Attribute o (Str.ofString "join") ap) [e] [] pos) P :=
  EvM.meth ho RecvT.str F.plainAttrs_str F.slot_str_join F.type_str_join (EvMs.one he hs) (fun pvs m ⟨pv, q, e⟩ => by
    obtain ⟨a, l, rfl, hm, hl, hP⟩ := q
    rw [e]
    exact (CallP.join (σ := ⟨σ.vars, m⟩) hm hl).r hP) hb hp (by intro pos env; rw [hs]; rfl) (by intro pos env; rw [hs]; rfl)

theorem fdrop {cells : List Int} {i j : Nat} : pySl (cells.map PV.int) (some (i : Int)) (some (j : Int)) = ((cells.drop i).take (j - i)).map PV.int := by
  rw [pySl_map, pySl_nat cells i j _ _ rfl rfl]
theorem flat1 {α : Type} (f : α → Sg) (h : ∀ x, (f x).length ≤ 1) (l : List α) : (l.map f).flatten.length ≤ l.length := by
  induction l with
  | nil => simp
  | cons a l ih => have := h a; simp only [List.map_cons, List.flatten_cons, List.length_append, List.length_cons]; lia
theorem signN_len (x : Int) : (signN x).length ≤ 1 := by unfold signN; simp; lia
theorem signP_len (x : Int) : (signP x).length ≤ 1 := by unfold signP; simp; lia
theorem nameF_len (cells : List Int) : (nameF cells).length ≤ 7 := by
  have := flat1 signN signN_len ((cells.drop 15).take 7)
  unfold nameF
  simp only [List.length_take] at this; lia
theorem pathF_len (cells : List Int) (r : Nat) : (pathF cells r).length ≤ 5 := by
  have := flat1 signP signP_len ((cells.drop (5 * r)).take 5)
  unfold pathF
  simp only [List.length_take] at this; lia
theorem signN_ok (x : Int) : ∀ c ∈ signN x, okC c := by
  intro c hc
  have : c ∈ nameT := List.mem_of_mem_drop (List.mem_of_mem_take hc)
  unfold okC
  simp [nameT] at this; lia
theorem signP_ok (x : Int) : ∀ c ∈ signP x, shC c := by
  intro c hc
  have : c ∈ pathT := List.mem_of_mem_drop (List.mem_of_mem_take hc)
  unfold shC okC
  simp [pathT] at this; lia
theorem nameF_ok (cells : List Int) : ∀ c ∈ nameF cells, okC c := by
  intro c hc
  unfold nameF at hc
  obtain ⟨l, hl, hc⟩ := List.mem_flatten.mp hc
  obtain ⟨x, _, rfl⟩ := List.mem_map.mp hl
  exact signN_ok x c hc
theorem pathF_ok (cells : List Int) (r : Nat) : ∀ c ∈ pathF cells r, shC c := by
  intro c hc
  unfold pathF at hc
  obtain ⟨l, hl, hc⟩ := List.mem_flatten.mp hc
  obtain ⟨x, _, rfl⟩ := List.mem_map.mp hl
  exact signP_ok x c hc
theorem shellF_len (path : Sg) : (shellF path).length ≤ path.length + 1 := by unfold shellF; split <;> simp
theorem shellF_ok {path : Sg} (h : ∀ c ∈ path, shC c) : ∀ c ∈ shellF path, shC c := by
  unfold shellF
  split
  · exact h
  · intro c hc
    rcases List.mem_cons.mp hc with rfl | hc
    · exact .inr rfl
    · exact h c hc

/-- the cells' signs, joined -/
theorem EvM.signs {elt iter : Expr} {ap cp pos px : Pos} {k0 : Nat} {p0 : Pos} {scope : Scope} {D : Dfn} {f : Int → Sg} {xs : List Int} {P : PV → Ledger → Prop} (Z : Bs B mg mb) (hE : EnvC B D c.env) (C : c.Ok) (chk : compB D scope (Str.ofString "x") [] = true)
    (hit : EvX prog w B d c σ iter (xs.map .int)) (hf : ∀ x, (f x).length ≤ 1) (hxs : xs.length ≤ 1000)
    (turn : ∀ L x m, Cx.Ok ⟨compEnvC scope (clF c.env.cells scope.names []) L c.env, [Str.ofString "x"], false⟩ → EvE prog w B d ⟨compEnvC scope (clF c.env.cells scope.names []) L c.env, [Str.ofString "x"], false⟩ ⟨[.int x], m⟩ elt (.str (f x)))
    (h : ∀ D, P (.str (xs.map f).flatten) ((D, .lst ((xs.map f).map .str)) :: σ.mem)) (hs : ∀ x, foldedSetIterable iter c.env x = pure x := by intro _; rfl) (hp : (Pos.endLine ap == Pos.line pos) = true := by rfl) :
    EvM prog w B d c σ (.Call (.Attribute (.Constant (.str (Str.ofString "")) k0 p0) (Str.ofString "join") ap) [.ListComp elt [⟨.Name (Str.ofString "x") px, iter, [], 0⟩] scope cp] [] pos) P := by
  refine EvM.joinM (hp := hp) (EvE.strL []) ?_
  have K := CompOk.of (σ := σ) (frees := []) (fvs := []) hE C chk (FreeAt.get trivial)
  refine EvM.comp (m0 := σ.mem) (extra := []) (n := (xs.map PV.int).length) [] [] Z K (IterR.fresh (hit.m fun a => ⟨a, rfl, rfl⟩)) (by simp; lia)
    (fun i pvs m => pvs = ((xs.take i).map f).map .str ∧ m = σ.mem) ⟨rfl, rfl⟩ ?_ ?_ hs
  · rintro i L _ _ hi ⟨rfl, rfl⟩
    have hi' : i < xs.length := by simpa using hi
    have hget : (xs.map PV.int).getD i .undef = .int xs[i] := by
      rw [List.getD_eq_getElem?_getD, List.getElem?_map, List.getElem?_eq_getElem hi']; rfl
    rw [hget]
    refine ⟨true, EvF.nil, fun q => (by cases q), fun _ => ?_⟩
    refine (turn L xs[i] σ.mem (K.ok L)).m ⟨?_, rfl⟩
    rw [List.take_add_one, List.getElem?_eq_getElem hi', Option.toList_some, List.map_append, List.map_append]; rfl
  · rintro _ _ D ⟨rfl, rfl⟩
    have := flat1 f hf xs
    rw [List.length_map, List.take_length]
    exact ⟨D, xs.map f, rfl, .head _, by lia, h D⟩
end
end Mine

/-! ## P12 -/
namespace Mine
theorem joinF2_parts (l : List (Option Sg)) : pySl (joinF2 l) none (some 4) = [40, 63, 115, 58] ∧ pySl (joinF2 l) (some (-3)) none = [41, 92, 90] ∧ pySl (joinF2 l) (some 4) (some (-3)) = (joinAll l).flatten := by
  unfold joinF2
  generalize (joinAll l).flatten = b
  have hlen : ([40, 63, 115, 58] ++ b ++ [41, 92, 90] : Sg).length = b.length + 7 := by simp
  refine ⟨?_, ?_, ?_⟩
  · rw [pySl_upto _ 4 4 rfl]; simp
  · unfold pySl
    rw [hlen]
    have e1 : clipN (b.length + 7) 0 (some (-3)) = b.length + 4 := by simp only [clipN]; lia
    have e2 : clipN (b.length + 7) (b.length + 7) none = b.length + 7 := rfl
    rw [e1, e2]
    have : ([40, 63, 115, 58] ++ b ++ [41, 92, 90] : Sg).drop (b.length + 4) = [41, 92, 90] := by
      rw [List.drop_append_of_le_length (by simp), List.drop_eq_nil_of_le (by simp)]; rfl
    rw [this, List.take_of_length_le (by simp)]
  · unfold pySl
    rw [hlen]
    have e1 : clipN (b.length + 7) 0 (some 4) = 4 := by simp only [clipN]; lia
    have e2 : clipN (b.length + 7) (b.length + 7) (some (-3)) = b.length + 4 := by simp only [clipN]; lia
    rw [e1, e2]
    show (b ++ [41, 92, 90]).take (b.length + 4 - 4) = b
    rw [Nat.add_sub_cancel, List.take_left]

noncomputable def turnB : List Stmt := bodyAt 26 9

section
variable {prog : Program} {w : World} {B : Heap → Prop} {mg mb : Str → Option Value} {fa : Nat → Addr} {d : Nat} {c : Cx} {σ : St} {K : Frag} {Cl fI : Addr}

theorem Subscript_SliceS {M : Model} {A : Around} {E : Value → Shared → Prop} {s : Shared} {env : Env} {value : Expr} {lower upper : Option Expr} {p pos : Pos} {Q : Value → Shared → Prop}
    (h : wpAny M A (eval value env) (fun o s₁ => (∃ x t, o = .str x t) ∧ wpAny M A (eval (.Slice lower upper none p) env) (fun i s₂ => wpAny M A (getItem o i) Q E s₂) E s₁) E s)
    (ht : ∀ x t r, letTemporaryGo value (.str x t) r = pure () := by intro _ _ _; rfl) :
    wpAny M A (eval (.Subscript value (.Slice lower upper none p) pos) env) Q E s := by
  rw [eval_Subscript]
  refine wpAny_bind (wpAny_mono h (fun o s₁ h₁ => ?_) fun _ _ x => x)
  obtain ⟨⟨x, t, rfl⟩, h₁⟩ := h₁
  refine wpAny_bind (wpAny_holding (wpAny_mono h₁ (fun i s₂ h₂ => wpAny_bind (wpAny_standAt ?_)) fun _ _ x => x))
  have hT : s₂.TypeIs (.str x t) "str" := typeIs_str _ _ _
  have fin : wpAny M A (operate [i, .str x t] (getItem (.str x t) i)) (fun r s₃ => wpAny M A (letTemporaryGo value (.str x t) r >>= fun _ => pure r) Q E s₃) E s₂ :=
    wpAny_operating (wpAny_mono h₂ (fun r s₃ h₃ => wpAny_bind (wpAny_of_eq (ht x t r) (wpAny_pure h₃))) fun _ _ x => x)
  first
    | (refine wpAny_bind ?_
       rw [getitemInPython_of_ne hT.not_modules]
       refine wpAny_bind (wpAny_specialOf hT F.slot_str_getitem.lookup ?_)
       first
         | exact wpAny_pure (wpAny_bind fin)
         | exact wpAny_bind (wpAny_pure (wpAny_bind fin))
         | exact wpAny_bind fin)
    | (refine wpAny_bind (wpAny_specialOf hT F.slot_str_getitem.lookup ?_)
       first
         | exact wpAny_bind (wpAny_pure (wpAny_bind fin))
         | exact wpAny_bind fin)
/-- a part of a written text -/
theorem EvE.sliceC {value : Expr} {lo hi : Option Expr} {p pos : Pos} {xs : List Nat} {l u : Option Int} (ha : EvE prog w B d c σ value (.str xs)) (hl : EvP prog w B d c σ lo l) (hu : EvP prog w B d c σ hi u) (hsz : xs.length ≤ 16777216)
    (ht : ∀ x t r, letTemporaryGo value (.str x t) r = pure () := by intro _ _ _; rfl) :
    EvE prog w B d c σ (.Subscript value (.Slice lo hi none p) pos) (.str (pySl xs l u)) :=
  fun g A s Q E b ok R h => Subscript_SliceS (ha g A s _ E b ok R fun v1 h1 t1 s1 r1 => by
    obtain ⟨t, rfl⟩ := r1
    refine ⟨⟨_, _, rfl⟩, wpAny_Slice (evPart hl g A _ _ E b ok (R.sub s1) fun p1 h2 t2 s2 e2 => evPart hu g A _ _ E b ok ((R.sub s1).sub s2) fun p2 h3 t3 s3 e3 => ?_)⟩
    rw [evalPart_none]
    refine wpAny_pure (wpAny_getItem_str_slice (l := p1) (u := p2) (st := none) ⟨_, Heap.get?_push_size _ rfl, rfl, rfl⟩ rfl (slice_post hsz fun t' k => ?_))
    rw [e2, e3]
    exact h _ _ k ((s1.trans s2).trans (s3.trans (Sub.push _ _))) ⟨_, rfl⟩) ht

theorem EvX.eq {e : Expr} {xs ys : List PV} (h : EvX prog w B d c σ e xs) (q : xs = ys) : EvX prog w B d c σ e ys := q ▸ h

theorem law_turn1 (Z : Base B mg mb fa) {T : Addr} {f : Int → Option Value} (Y : TabB prog w B mg T f) {cc P twin : Addr} (L : LamB B mg fa cc P twin) (env : Env) (he : EnvC B (dfn 26) env) (C : Cx.Ok ⟨env, lawNames, true⟩)
    (cells : List Int) (r : Nat) (hr : r < 3) (hc : cells.length = 24) {sa oa ca fA vA x1 x2 : Addr} (KK : Array Value → Ledger) (TT : Ledger) (hmca : ∀ ps, (ca, MO.lst (cells.map .int)) ∈ KK ps) (hkp : ∀ {g : Ledger} {ps : Array Value}, List.Perm ([(P, .raw (tabObj ps))] ++ (g ++ TT)) (g ++ KK ps)) (ps : Array Value) (ht : TabOk 110 39 ps) (g : Ledger) (p10 p11 p12 p13 p14 p15 p16 p17 : PV) (Post : FL → St → Prop)
    (k : ∀ (tb : Addr) (g' : Ledger) (ps' : Array Value), TabOk 110 39 ps' → (tb, MO.lst ((tableF (shellF (pathF cells r)) (nameF cells)).map nI)) ∈ g' →
      ExSs prog w B 6 ⟨env, lawNames, true⟩ ⟨[.ref sa, .ref oa, .undef, .ref ca, .str (nameF cells), .ref x1, .ref x2, .ref fA, .ref vA, .int r, .str (pathF cells r), .str (shellF (pathF cells r)), .ref tb, .str (joinF2 (trF (shellF (pathF cells r)))), p14, p15, p16, p17, .undef, .undef, .undef],
        g' ++ KK ps'⟩ (turnB.drop 4) Post) :
    ExSs prog w B 6 ⟨env, lawNames, true⟩ ⟨[.ref sa, .ref oa, .undef, .ref ca, .str (nameF cells), .ref x1, .ref x2, .ref fA, .ref vA, .int r, p10, p11, p12, p13, p14, p15, p16, p17, .undef, .undef, .undef], g ++ KK ps⟩ turnB Post := by
  have hnl := nameF_len cells
  have hnk := nameF_ok cells
  have hpl := pathF_len cells r
  have hpk := pathF_ok cells r
  generalize hname : nameF cells = name at *
  generalize hpath : pathF cells r = path at *
  have hsl := shellF_len path
  have hsk := shellF_ok hpk
  have kl : env.kindOf (Str.ofString "len") = some .globalImplicit := kind_ofC he (by decide +kernel)
  have mca : ∀ {g : Ledger} {ps}, (ca, MO.lst (cells.map .int)) ∈ g ++ KK ps := fun {g ps} => List.mem_append_right _ (hmca ps)
  -- path
  refine ExSs.letM (P1 := fun pv m => ∃ g', pv = .str path ∧ m = g' ++ KK ps) 10 C rfl rfl
    (EvM.signs (xs := (cells.drop (5 * r)).take 5) (f := signP) Z.toBs he C (by decide +kernel) ((EvX.slice (l := some (5 * (r : Int))) (u := some (5 * (r : Int) + 5)) (EvE.var 3 C rfl rfl) mca (EvP.s (EvE.bin EvE.int (EvE.var 9 C rfl rfl) (BinR.mul (by decide)))) (EvP.s (EvE.bin (EvE.bin EvE.int (EvE.var 9 C rfl rfl) (BinR.mul (by decide))) EvE.int BinR.add)) (by simp; lia)).eq (by
        have := fdrop (cells := cells) (i := 5 * r) (j := 5 * r + 5)
        rw [show ((5 * r : Nat) : Int) = 5 * (r : Int) by lia, show ((5 * r + 5 : Nat) : Int) = 5 * (r : Int) + 5 by lia, Nat.add_sub_cancel_left] at this
        exact this)) signP_len (by simp; lia) (fun L x m C' => ?_) (fun D => ⟨(D, _) :: g, ?_, rfl⟩)) rfl ?_
  · have hx0 : 0 ≤ x % 11 := Int.emod_nonneg _ (by decide)
    refine (EvE.sliceC (EvE.strL pathT) (l := some (x % 11)) (u := some (x % 11 + 1)) (EvP.s (EvE.bin (EvE.var 0 C' rfl rfl) EvE.int (BinR.mod (by decide)))) (EvP.s (EvE.bin (EvE.bin (EvE.var 0 C' rfl rfl) EvE.int (BinR.mod (by decide))) EvE.int BinR.add)) (by decide)).eq ?_
    rw [pySl_nat pathT (x % 11).toNat ((x % 11).toNat + 1) _ _ (by lia) (by lia), Nat.add_sub_cancel_left]
    rfl
  · rw [← hpath]; rfl
  rintro _ _ ⟨g1, rfl, rfl⟩
  -- shell
  refine ExSs.let_ (pv := .str (shellF path)) 11 C rfl rfl ((EvE.ite (b := decide (42 ∈ path)) (p := .str path) (q := .str (42 :: path)) (EvB.cmp (EvE.strL [42]) (EvE.var 10 C rfl rfl) CmpR.inS) (fun _ => EvE.var 10 C rfl rfl) (fun _ => EvE.bin (EvE.strL [42]) (EvE.var 10 C rfl rfl) (BinR.addS (by simp; lia)))).eq (by
    unfold shellF; by_cases q : 42 ∈ path <;> simp [q])) rfl ?_
  -- table
  refine ExSs.letF (m0 := []) (rest := g1 ++ KK ps) 12 25 Z C rfl rfl (by decide) rfl (kind_ofC he (by decide +kernel)) (EvAs.cons (EvE.var 11 C rfl rfl) (EvAs.one (EvE.var 4 C rfl rfl)))
    (law_table_ok Z (shellF path) name (by lia) (by lia)) (by decide) (List.Perm.refl _) ?_
  rintro _ m1 ⟨tb, rfl, htb⟩
  generalize htab : tableF (shellF path) name = table at htb
  have hg2 : ∃ g2 : Ledger, m1 ++ (g1 ++ KK ps) = g2 ++ KK ps ∧ (tb, MO.lst (table.map nI)) ∈ g2 :=
    ⟨m1 ++ g1, by rw [List.append_assoc], List.mem_append_left _ htb⟩
  obtain ⟨g2, hg2, htb2⟩ := hg2
  rw [hg2]
  clear hg2 htb
  -- text
  refine ExSs.letM (P1 := fun pv m => ∃ g' ps', pv = .str (joinF2 (trF (shellF path))) ∧ TabOk 110 39 ps' ∧ (tb, MO.lst (table.map nI)) ∈ g' ∧ m.Perm (g' ++ KK ps')) 13 C rfl rfl
    (EvM.callFM 12 Z C (by decide) rfl (kind_ofC he (by decide +kernel)) (Pa := fun pvs m => ∃ g', pvs = [.str (padT (shellF path))] ∧ m = g' ++ KK ps ∧ (tb, MO.lst (table.map nI)) ∈ g')
      (EvMs.cons (P1 := fun pv m => ∃ g', pv = .str (padT (shellF path)) ∧ m = g' ++ KK ps ∧ (tb, MO.lst (table.map nI)) ∈ g') (EvM.joinM (EvE.strL []) ?_) fun pv m ⟨g', q1, q2, q3⟩ => EvMs.nil ⟨g', by rw [q1], q2, q3⟩)
      (by
        rintro _ _ ⟨g', rfl, rfl, q3⟩
        refine ⟨[(P, .raw (tabObj ps))], g' ++ TT, _, (translate_ok Z Y L (shellF path) hsk (by lia) ps ht).le (by decide), hkp, ?_⟩
        rintro _ _ ⟨rfl, ps', q5, rfl⟩
        exact ⟨g', ps', rfl, q5, q3, hkp⟩)) rfl ?_
  · have Kc := CompOk.of (σ := ⟨[.ref sa, .ref oa, .undef, .ref ca, .str name, .ref x1, .ref x2, .ref fA, .ref vA, .int r, .str path, .str (shellF path), .ref tb, p13, p14, p15, p16, p17, .undef, .undef, .undef], g2 ++ KK ps⟩) (frees := []) (fvs := []) (x := Str.ofString "sign") (scope := { kind := .function, names := [(Str.ofString ".0", .local), (Str.ofString "sign", .local)], isGenerator := false, isCoroutine := false, more := [] }) he C (by decide +kernel) (FreeAt.get trivial)
    refine EvM.comp (m0 := g2 ++ KK ps) (extra := []) (n := (shellF path).length) [] [] Z.toBs Kc (IterR.str (EvE.var 11 C rfl rfl)) (by lia)
      (fun i pvs m => pvs = (((shellF path).take i).map brC).map .str ∧ m = g2 ++ KK ps) ⟨rfl, rfl⟩ ?_ ?_
    · rintro i Lo _ _ hi ⟨rfl, rfl⟩
      have C' := Kc.ok Lo
      have hget : (shellF path).getD i 0 = (shellF path)[i] := by rw [List.getD_eq_getElem?_getD, List.getElem?_eq_getElem hi]; rfl
      rw [hget]
      refine ⟨true, EvF.nil, fun q => (by cases q), fun _ => ?_⟩
      refine ((EvE.ite (b := [(shellF path)[i]] == [63]) (p := .str [91, 63, 93]) (q := .str [(shellF path)[i]]) (EvB.cmp (EvE.var 0 C' rfl rfl) (EvE.strL [63]) CmpR.eqS) (fun _ => EvE.strL [91, 63, 93]) (fun _ => EvE.var 0 C' rfl rfl)).eq (b' := .str (brC (shellF path)[i])) ?_).m ⟨?_, rfl⟩
      · unfold brC; by_cases q : (shellF path)[i] = 63 <;> simp [q]
      · rw [List.take_add_one, List.getElem?_eq_getElem hi, Option.toList_some, List.map_append, List.map_append]; rfl
    · rintro _ _ D ⟨rfl, rfl⟩
      have hp := padT_len (shellF path)
      have e : ((shellF path).map brC).flatten = padT (shellF path) := by unfold padT; rw [List.flatMap_def]
      rw [List.take_length]
      refine ⟨D, (shellF path).map brC, rfl, .head _, by rw [e]; lia, (D, _) :: g2, by rw [e], rfl, .tail _ htb2⟩
  rintro _ mt ⟨g3, ps3, rfl, ht3, htb3, hperm3⟩
  refine ExSs.perm hperm3.symm ?_
  exact k tb g3 ps3 ht3 (by rw [htab]; exact htb3)
end
end Mine

/-! ## P13 -/
namespace Mine
section
variable {prog : Program} {w : World} {B : Heap → Prop} {mg mb : Str → Option Value} {fa : Nat → Addr} {d : Nat} {c : Cx} {σ : St} {K : Frag} {Cl fI : Addr}

theorem lastI_pv (t : List Nat) : (PV.int (-1) :: t.map nI).getLast? = some (.int (lastI t)) := by
  unfold lastI
  rcases List.eq_nil_or_concat t with rfl | ⟨l, x, rfl⟩
  · rfl
  · have h1 : (PV.int (-1) :: (l.concat x).map nI).getLast? = some (nI x) := by
      rw [List.concat_eq_append, List.map_append]
      show ((PV.int (-1) :: l.map nI) ++ [nI x]).getLast? = _
      rw [List.getLast?_append]; rfl
    rw [h1]; simp

theorem mapIdx_len (f : Nat → Sg → Sg) (hf : ∀ i p, (f i p).length ≤ p.length + 8) : ∀ (l : List Sg) (k : Nat), ((l.mapIdx fun i => f (i + k)).flatten).length ≤ l.flatten.length + 8 * l.length
  | [], k => by simp
  | p :: l, k => by
    rw [List.mapIdx_cons]
    have ih := mapIdx_len f hf l (k + 1)
    have := hf (0 + k) p
    have e : (l.mapIdx fun i => f (i + 1 + k)) = l.mapIdx fun i => f (i + (k + 1)) := by
      congr 1; funext i; congr 1; lia
    rw [e]
    simp only [List.flatten_cons, List.length_append, List.length_cons]
    lia
theorem tpF_len (path : Sg) : (tpF path).length ≤ 2 * path.length + 8 * (path.length + 1) := by
  unfold tpF
  have h : (List.mapIdx (partAt (splitF 42 path).length) ((splitF 42 path).map (·.flatMap escC))).flatten.length ≤ ((splitF 42 path).map (·.flatMap escC)).flatten.length + 8 * ((splitF 42 path).map (·.flatMap escC)).length := mapIdx_len (partAt (splitF 42 path).length) (fun i p => by unfold partAt holdF; split <;> (try split) <;> simp <;> lia) ((splitF 42 path).map (·.flatMap escC)) 0
  have e : ((splitF 42 path).map (·.flatMap escC)).flatten.length ≤ 2 * (splitF 42 path).flatten.length := by
    generalize splitF 42 path = l
    induction l with
    | nil => simp
    | cons p l ih => have := esc_len p; simp only [List.map_cons, List.flatten_cons, List.length_append]; lia
  have h2 := splitF_sum 42 path
  have h3 := splitF_len 42 path
  have h4 : ((splitF 42 path).map (·.flatMap escC)).length = (splitF 42 path).length := List.length_map _
  lia

theorem law_turn2 (Z : Base B mg mb fa) {T : Addr} {f : Int → Option Value} (Y : TabB prog w B mg T f) (env : Env) (he : EnvC B (dfn 26) env) (C : Cx.Ok ⟨env, lawNames, true⟩)
    (path name : Sg) (hpk : ∀ c ∈ path, shC c) (hpl : path.length ≤ 5) (hnl : name.length ≤ 7) (hM : MathOk path name) {tb : Addr} {r : Nat} {v0 v1 v2 v3 v5 v6 v7 v8 : PV} (core : Ledger) (g : Ledger) (htb : (tb, MO.lst ((tableF (shellF path) name).map nI)) ∈ g) (p14 p15 p16 p17 : PV) (Post : FL → St → Prop)
    (k : ∀ (g' : Ledger), (tb, MO.lst ((tableF (shellF path) name).map nI)) ∈ g' →
      ExSs prog w B 6 ⟨env, lawNames, true⟩ ⟨[v0, v1, v2, v3, .str name, v5, v6, v7, v8, .int r, .str path, .str (shellF path), .ref tb, .str (joinF2 (trF (shellF path))), .int (lastI (tableF (shellF path) name)), .int (lastI (tableF (shellF path) name)), p16, p17, .undef, .undef, .undef],
        g' ++ core⟩ (turnB.drop 8) Post) :
    ExSs prog w B 6 ⟨env, lawNames, true⟩ ⟨[v0, v1, v2, v3, .str name, v5, v6, v7, v8, .int r, .str path, .str (shellF path), .ref tb, .str (joinF2 (trF (shellF path))), p14, p15, p16, p17, .undef, .undef, .undef], g ++ core⟩ (turnB.drop 4) Post := by
  have hsl := shellF_len path
  have hjl : ((joinAll (trF (shellF path))).flatten).length ≤ 1000 := by
    have h1 := joinAll_len (trF (shellF path)) (fun x hx => by have := trF_txt (shellF path) [] (by simp) x hx; lia)
    have h2 := trF_len (shellF path) []
    unfold trF at h1 ⊢
    simp only [List.length_nil] at h2
    lia
  have htl : (joinF2 (trF (shellF path))).length ≤ 2000 := by unfold joinF2; simp only [List.length_append, List.length_cons, List.length_nil]; lia
  obtain ⟨j1, j2, j3⟩ := joinF2_parts (trF (shellF path))
  generalize htext : joinF2 (trF (shellF path)) = text at j1 j2 j3 htl k ⊢
  generalize hbody : (joinAll (trF (shellF path))).flatten = body at j3 hjl
  have hfew := hM.few
  obtain ⟨N, hN, hends⟩ := hM.ends
  have hsmall := hM.small
  have hsome := hM.some
  have hwalk := hM.walk
  rw [hbody] at hfew hends
  have hpi : ∀ c ∈ path, okC c ∨ c = 42 := hpk
  generalize htab : tableF (shellF path) name = table at *
  have hlen : table.length ≤ 1000 := by
    rw [← htab]; unfold tableF
    refine Nat.le_trans (List.length_filter_le _ _) ?_
    simp; lia
  -- the ways' ends
  refine ExSs.ifT (P1 := fun b m => b = false ∧ ∃ g', (tb, MO.lst (table.map nI)) ∈ g' ∧ m = g' ++ core)
    (EvT.or2 (P := fun b m => b = false ∧ m = g ++ core)
      ((EvB.cmp ((EvE.bin (EvE.slice (EvE.var 13 C rfl rfl) (l := none) (u := some 4) EvP.n (EvP.s EvE.int) (by lia)) (EvE.slice (EvE.var 13 C rfl rfl) (l := some (-3)) (u := none) (EvP.s (EvE.neg EvE.int)) EvP.n (by lia)) (BinR.addS (by rw [j1, j2]; decide))).eq (b' := .str [40, 63, 115, 58, 41, 92, 90]) (by rw [j1, j2]; rfl)) (EvE.strL [40, 63, 115, 58, 41, 92, 90]) CmpR.neS).t ⟨by decide, rfl⟩)
      (by
        rintro m ⟨-, rfl⟩
        refine EvT.neLs (f := nI) EqF.nat (P1 := fun pv m => ∃ a m1, pv = .ref a ∧ (a, MO.lst (table.map nI)) ∈ m1 ∧ m = m1 ++ (g ++ core))
          (EvM.callFM 24 Z C (by decide) rfl (kind_ofC he (by decide +kernel)) (Pa := fun pvs m => ∃ ap, pvs = [.ref ap, .str name] ∧ m = [(ap, .lst ((piecesF body).map .str))] ++ (g ++ core))
            (EvMs.cons (P1 := fun pv m => ∃ ap, pv = .ref ap ∧ m = [(ap, .lst ((piecesF body).map .str))] ++ (g ++ core))
              (EvM.callFM 22 Z C (by decide) rfl (kind_ofC he (by decide +kernel)) (Pa := fun pvs m => pvs = [.str body] ∧ m = g ++ core)
                (EvMs.consE ((EvE.slice (EvE.var 13 C rfl rfl) (l := some 4) (u := some (-3)) (EvP.s EvE.int) (EvP.s (EvE.neg EvE.int)) (by lia)).eq (b' := .str body) (by rw [j3])) (EvMs.nil ⟨rfl, rfl⟩)) (by
                  rintro _ _ ⟨rfl, rfl⟩
                  refine ⟨[], g ++ core, _, (law_pieces_ok Z body (by lia)).le (by decide), List.Perm.refl _, ?_⟩
                  rintro _ _ ⟨a, rfl, rfl⟩
                  exact ⟨a, rfl, rfl⟩)) (by
              rintro _ _ ⟨ap, rfl, rfl⟩
              exact EvMs.consE (EvE.var 4 C rfl rfl) (EvMs.nil ⟨ap, rfl, rfl⟩)))
            (by
              rintro _ _ ⟨ap, rfl, rfl⟩
              refine ⟨_, g ++ core, _, (law_ends_ok Z ap (piecesF body) name (by lia) hfew N hN table hends).le (by decide), List.Perm.refl _, ?_⟩
              rintro _ m1 ⟨a, rfl, ha, -⟩
              exact ⟨a, m1, rfl, ha, rfl⟩)) ?_
        rintro _ _ ⟨a, m1, rfl, ha, rfl⟩
        exact (EvE.var 12 C rfl rfl).m ⟨a, tb, table, table, rfl, rfl, List.mem_append_left _ ha, List.mem_append_right _ (List.mem_append_left _ htb), by simp, m1 ++ g, List.mem_append_right _ htb, by rw [List.append_assoc]⟩)
      (fun m q => by cases q.1)) (fun m q => by cases q.1) ?_
  rintro m ⟨-, g2, htb2, rfl⟩
  refine ExSs.nil ?_
  -- the walk's end
  refine ExSs.letM (P1 := fun pv m => pv = .int (lastI table) ∧ ∃ g', (tb, MO.lst (table.map nI)) ∈ g' ∧ m = g' ++ core) 14 C rfl rfl
    (EvM.callFM 23 Z C (by decide) rfl (kind_ofC he (by decide +kernel)) (Pa := fun pvs m => ∃ ap g', pvs = [.ref ap, .str name] ∧ (tb, MO.lst (table.map nI)) ∈ g' ∧ m = [(ap, .lst ((piecesF (tpF path)).map .str))] ++ (g' ++ core))
      (EvMs.cons (P1 := fun pv m => ∃ ap g', pv = .ref ap ∧ (tb, MO.lst (table.map nI)) ∈ g' ∧ m = [(ap, .lst ((piecesF (tpF path)).map .str))] ++ (g' ++ core))
        (EvM.callFM 22 Z C (by decide) rfl (kind_ofC he (by decide +kernel)) (Pa := fun pvs m => ∃ g', pvs = [.str (tpF path)] ∧ (tb, MO.lst (table.map nI)) ∈ g' ∧ m = g' ++ core)
          (EvMs.cons (P1 := fun pv m => ∃ g', pv = .str (tpF path) ∧ (tb, MO.lst (table.map nI)) ∈ g' ∧ m = g' ++ core)
            (EvM.callFM 8 Z C (by decide) rfl (kind_ofC he (by decide +kernel)) (Pa := fun pvs m => pvs = [.str path] ∧ m = g2 ++ core) (EvMs.consE (EvE.var 10 C rfl rfl) (EvMs.nil ⟨rfl, rfl⟩)) (by
              rintro _ _ ⟨rfl, rfl⟩
              refine ⟨[], g2 ++ core, _, translate_pattern_ok Z Y path hpi (by lia), List.Perm.refl _, ?_⟩
              rintro _ m1 rfl
              exact ⟨m1 ++ g2, rfl, List.mem_append_right _ htb2, by rw [List.append_assoc]⟩)) (by
            rintro _ _ ⟨g', rfl, q2, rfl⟩
            exact EvMs.nil ⟨g', rfl, q2, rfl⟩)) (by
            rintro _ _ ⟨g', rfl, q2, rfl⟩
            refine ⟨[], g' ++ core, _, (law_pieces_ok Z (tpF path) ?_).le (by decide), List.Perm.refl _, ?_⟩
            · have := tpF_len path; lia
            rintro _ _ ⟨a, rfl, rfl⟩
            exact ⟨a, g', rfl, q2, rfl⟩)) (by
        rintro _ _ ⟨ap, g', rfl, q2, rfl⟩
        exact EvMs.consE (EvE.var 4 C rfl rfl) (EvMs.nil ⟨ap, g', rfl, q2, rfl⟩)))
      (by
        rintro _ _ ⟨ap, g', rfl, q2, rfl⟩
        refine ⟨_, g' ++ core, _, (law_walk_ok Z ap (piecesF (tpF path)) name (by lia) hsome hsmall).le (by decide), List.Perm.refl _, ?_⟩
        rintro _ m1 ⟨rfl, -⟩
        exact ⟨by rw [hwalk], m1 ++ g', List.mem_append_right _ q2, by rw [List.append_assoc]⟩)) rfl ?_
  rintro _ _ ⟨rfl, g3, htb3, rfl⟩
  refine ExSs.ite (b := false) ((EvB.cmp (EvE.var 14 C rfl rfl) (EvE.lastX (EvX.consL (EvE.neg EvE.int) (EvE.var 12 C rfl rfl) (List.mem_append_left _ htb3) (by simp; lia)) (EvE.neg EvE.int) (lastI_pv table) (by simp; lia)) CmpR.neI).eq (by simp)) (fun q => by cases q) (fun _ => ExSs.nil ?_)
  refine ExSs.let_ 15 C rfl rfl (EvE.var 14 C rfl rfl) rfl ?_
  exact k g3 htb3
end
end Mine

/-! ## P14 -/
namespace Mine
section
variable {prog : Program} {w : World} {B : Heap → Prop} {mg mb : Str → Option Value} {fa : Nat → Addr} {d : Nat} {c : Cx} {σ : St} {K : Frag} {Cl fI : Addr}

theorem law_turn3 (Z : Base B mg mb fa) (TE : EntB B mg K Cl fI) (env : Env) (he : EnvC B (dfn 26) env) (C : Cx.Ok ⟨env, lawNames, true⟩)
    (cells : List Int) (hc : cells.length = 24) (r : Nat) (hr : r < 3) (name : Sg) (hnl : name.length ≤ 7) {sa oa ca fA vA x1 d1 u1 r1 x2 d2 u2 r2 tb P : Addr} {es1 es2 : List DictEntry} {n1 n2 : Nat} (h1 : Ents (entL u1 r1) es1) (h2 : Ents (entL u2 r2) es2)
    (fs vs : List Int) (hfs : fs.length ≤ 1000) (hvs : vs.length ≤ 1000) (rows1 rows2 : List (Int × Int × Int)) (hr1 : rows1.length ≤ 1000) (hr2 : rows2.length ≤ 1000) (ps : Array Value) (g : Ledger) (htb : (tb, MO.lst ((tabD cells name r).map nI)) ∈ g) (p10 p11 p13 p16 p17 : PV) (Post : FL → St → Prop)
    (k : ∀ q10 q11 q12 q13 q14 q15 q16 q17 : PV, Post .next ⟨[.ref sa, .ref oa, .undef, .ref ca, .str name, .ref x1, .ref x2, .ref fA, .ref vA, .int r, q10, q11, q12, q13, q14, q15, q16, q17, .undef, .undef, .undef],
        g ++ core Cl P ca fA vA x1 d1 u1 r1 x2 d2 u2 r2 es1 n1 es2 n2 cells (fs ++ [dueD cells name r]) (vs ++ [verD cells r]) (if r = 0 then rows1 ++ [rowD cells name r] else rows1) (if r = 0 then rows2 else rows2 ++ [rowD cells name r]) ps⟩) :
    ExSs prog w B 6 ⟨env, lawNames, true⟩ ⟨[.ref sa, .ref oa, .undef, .ref ca, .str name, .ref x1, .ref x2, .ref fA, .ref vA, .int r, p10, p11, .ref tb, p13, .int (lastI (tabD cells name r)), .int (lastI (tabD cells name r)), p16, p17, .undef, .undef, .undef], g ++ core Cl P ca fA vA x1 d1 u1 r1 x2 d2 u2 r2 es1 n1 es2 n2 cells fs vs rows1 rows2 ps⟩ (turnB.drop 8) Post := by
  have kl : env.kindOf (Str.ofString "len") = some .globalImplicit := kind_ofC he (by decide +kernel)
  have mca : (ca, MO.lst (cells.map .int)) ∈ g ++ core Cl P ca fA vA x1 d1 u1 r1 x2 d2 u2 r2 es1 n1 es2 n2 cells fs vs rows1 rows2 ps := List.mem_append_right _ (.tail _ (.head _))
  have hcell : ∀ i : Nat, i < 24 → (cells.map PV.int)[((i : Nat) : Int).toNat]? = some (.int (cells.getD i 0)) := fun i hi => by
    rw [Int.toNat_natCast, List.getElem?_map, List.getD_eq_getElem?_getD, List.getElem?_eq_getElem (by lia)]; rfl
  have hp2 : (0 : Int) < 2 ^ (r : Int).toNat ∧ (2 : Int) ^ (r : Int).toNat < 1000000000 := by
    rw [Int.toNat_natCast]
    have : r = 0 ∨ r = 1 ∨ r = 2 := by lia
    rcases this with rfl | rfl | rfl <;> decide
  have hnl2 : ∀ {σ : St} {np pos p2 : Pos}, σ.vars[4]? = some (.str name) → EvE prog w B 6 ⟨env, lawNames, true⟩ σ (.Call (.Name (Str.ofString "len") np) [.Name (Str.ofString "name") p2] [] pos) (.int name.length) :=
    fun hv => EvE.len Z C kl (EvE.var 4 C rfl hv) (CallP.lenS (by lia))
  have bits : ∀ {σ : St} (i : Nat) {p1 p2 p3 p4 p5 p6 p7 p8 p9 : Pos} {k1 k2 k3 : Nat}, i < 24 → σ.vars[3]? = some (.ref ca) → σ.vars[9]? = some (.int r) → (ca, MO.lst (cells.map .int)) ∈ σ.mem →
      EvE prog w B 6 ⟨env, lawNames, true⟩ σ (.BinOp (.BinOp (.Subscript (.Name (Str.ofString "cells") p1) (.Constant (.int i) k1 p2) p3) .FloorDiv (.BinOp (.Constant (.int 2) k2 p4) .Pow (.Name (Str.ofString "r") p5) p6) p7) .Mod (.Constant (.int 2) k3 p8) p9) (.int (bit (cells.getD i 0) r)) :=
    fun {σ} i {p1 p2 p3 p4 p5 p6 p7 p8 p9 k1 k2 k3} hi v3 v9 hm => EvE.bin (EvE.bin (EvE.idx (EvE.var 3 C rfl v3) hm EvE.int (by lia) (by lia) (hcell i hi)) (EvE.bin EvE.int (EvE.var 9 C rfl v9) (BinR.pow (by lia) (by lia) (by decide))) (BinR.fdiv hp2.1 hp2.2)) EvE.int (BinR.mod (by decide))
  -- behind the dollar
  have rest : ∀ q12, ExSs prog w B 6 ⟨env, lawNames, true⟩ ⟨[.ref sa, .ref oa, .undef, .ref ca, .str name, .ref x1, .ref x2, .ref fA, .ref vA, .int r, p10, p11, q12, p13, .int (endD cells name r), .int (dueD cells name r), p16, p17, .undef, .undef, .undef], g ++ core Cl P ca fA vA x1 d1 u1 r1 x2 d2 u2 r2 es1 n1 es2 n2 cells fs vs rows1 rows2 ps⟩ (turnB.drop 9) Post := by
    intro q12
    refine ExSs.let_ (pv := .int (verD cells r)) 16 C rfl rfl (bits 22 (by decide) rfl rfl mca) rfl ?_
    have mm : ∀ {x : Addr × MO}, x ∈ coreT Cl ca fA vA x1 d1 u1 r1 x2 d2 u2 r2 es1 n1 es2 n2 cells fs vs rows1 rows2 → x ∈ g ++ core Cl P ca fA vA x1 d1 u1 r1 x2 d2 u2 r2 es1 n1 es2 n2 cells fs vs rows1 rows2 ps := fun h => List.mem_append_right _ (.tail _ h)
    by_cases h0 : r = 0
    · subst h0
      refine ExSs.let_ (pv := .ref r1) 17 C rfl rfl ((EvE.ite (b := true) (q := .undef) ((EvB.cmp (EvE.var 9 C rfl rfl) EvE.int CmpR.eqI).eq rfl) (fun _ => EvE.attr TE (EvE.var 5 C rfl rfl) (mm (.tail _ (.tail _ (.tail _ (.head _))))) (mm (.tail _ (.tail _ (.tail _ (.tail _ (.head _)))))) h1 (v := .ref r1) rfl (by decide +kernel) rfl) (fun q => by cases q)).eq rfl) rfl ?_
      refine ExSs.append (EvE.var 17 C rfl rfl) (pv := t3of (rowD cells name 0)) ((EvE.tup3 (EvE.bin (EvE.neg EvE.int) (EvE.var 14 C rfl rfl) BinR.sub) (EvE.bin EvE.int (EvE.var 16 C rfl rfl) BinR.sub) (EvE.var 9 C rfl rfl)).eq rfl) (Put.app (.tail (.tail (.tail (.tail (.tail (.tail (.tail .head))))))) g) (by simp; lia) ?_
      refine ExSs.append (EvE.var 7 C rfl rfl) (pv := .int (dueD cells name 0)) (EvE.var 15 C rfl rfl) (Put.app (.tail (.tail .head)) g) (by simp; lia) ?_
      refine ExSs.append (EvE.var 8 C rfl rfl) (pv := .int (verD cells 0)) (EvE.var 16 C rfl rfl) (Put.app (.tail (.tail (.tail .head))) g) (by simp; lia) (ExSs.nil ?_)
      have := k p10 p11 q12 p13 (.int (endD cells name 0)) (.int (dueD cells name 0)) (.int (verD cells 0)) (.ref r1)
      simp only [core, coreT, if_true, List.map_append, List.map_cons, List.map_nil] at this
      exact this
    · have hb : ((r : Int) == 0) = false := by simp; lia
      refine ExSs.let_ (pv := .ref r2) 17 C rfl rfl ((EvE.ite (b := false) (p := .undef) ((EvB.cmp (EvE.var 9 C rfl rfl) EvE.int CmpR.eqI).eq hb) (fun q => by cases q) (fun _ => EvE.attr TE (EvE.var 6 C rfl rfl) (mm (.tail _ (.tail _ (.tail _ (.tail _ (.tail _ (.tail _ (.tail _ (.head _))))))))) (mm (.tail _ (.tail _ (.tail _ (.tail _ (.tail _ (.tail _ (.tail _ (.tail _ (.head _)))))))))) h2 (v := .ref r2) rfl (by decide +kernel) rfl)).eq rfl) rfl ?_
      refine ExSs.append (EvE.var 17 C rfl rfl) (pv := t3of (rowD cells name r)) ((EvE.tup3 (EvE.bin (EvE.neg EvE.int) (EvE.var 14 C rfl rfl) BinR.sub) (EvE.bin EvE.int (EvE.var 16 C rfl rfl) BinR.sub) (EvE.var 9 C rfl rfl)).eq rfl) (Put.app (.tail (.tail (.tail (.tail (.tail (.tail (.tail (.tail (.tail (.tail (.tail .head))))))))))) g) (by simp; lia) ?_
      refine ExSs.append (EvE.var 7 C rfl rfl) (pv := .int (dueD cells name r)) (EvE.var 15 C rfl rfl) (Put.app (.tail (.tail .head)) g) (by simp; lia) ?_
      refine ExSs.append (EvE.var 8 C rfl rfl) (pv := .int (verD cells r)) (EvE.var 16 C rfl rfl) (Put.app (.tail (.tail (.tail .head))) g) (by simp; lia) (ExSs.nil ?_)
      have := k p10 p11 q12 p13 (.int (endD cells name r)) (.int (dueD cells name r)) (.int (verD cells r)) (.ref r2)
      simp only [core, coreT, h0, if_false, List.map_append, List.map_cons, List.map_nil] at this
      exact this
  refine ExSs.ite (b := bit (cells.getD 23 0) r == 1) (EvB.cmp (bits 23 (by decide) rfl rfl mca) EvE.int CmpR.eqI) (fun hb => ?_) (fun hb => ExSs.nil ?_)
  · have hb' : bit (cells.getD 23 0) r = 1 := by simpa using hb
    refine ExSs.let_ (pv := .int (endD cells name r)) 14 C rfl rfl ((EvE.ite (EvB.cmp (EvE.var 14 C rfl rfl) (hnl2 rfl) CmpR.eqI) (fun _ => EvE.var 14 C rfl rfl) (fun _ => EvE.neg EvE.int)).eq (by
      unfold endD; rw [if_pos hb']
      by_cases q : lastI (tabD cells name r) = (name.length : Nat)
      · rw [if_pos q, if_pos (by simpa using q)]
      · rw [if_neg q, if_neg (by simpa using q)])) rfl ?_
    refine ExSs.let_ (pv := .int (dueD cells name r)) 15 C rfl rfl ((EvE.ite (EvB.inL (f := nI) gN EqF.nat gN_ok (x := name.length) (hnl2 rfl) (EvE.var 12 C rfl rfl) (List.mem_append_left _ htb)) (fun _ => hnl2 rfl) (fun _ => EvE.neg EvE.int)).eq (by
      unfold dueD; rw [if_pos hb']
      by_cases q : name.length ∈ tabD cells name r
      · rw [if_pos q, if_pos (by simpa using q)]
      · rw [if_neg q, if_neg (by simpa using q)])) rfl (ExSs.nil ?_)
    exact rest _
  · have hb' : ¬ bit (cells.getD 23 0) r = 1 := by simpa using hb
    have e1 : endD cells name r = lastI (tabD cells name r) := by unfold endD; rw [if_neg hb']
    have e2 : dueD cells name r = lastI (tabD cells name r) := by unfold dueD; rw [if_neg hb']
    have := rest (.ref tb)
    rw [e1, e2] at this
    exact this

/-- a whole turn -/
theorem law_turn (Z : Base B mg mb fa) {T : Addr} {f : Int → Option Value} (Y : TabB prog w B mg T f) {cc P twin : Addr} (L : LamB B mg fa cc P twin) (TE : EntB B mg K Cl fI) (env : Env) (he : EnvC B (dfn 26) env) (C : Cx.Ok ⟨env, lawNames, true⟩)
    (cells : List Int) (hc : cells.length = 24) (r : Nat) (hr : r < 3) (hM : MathOk (pathF cells r) (nameF cells)) {sa oa ca fA vA x1 d1 u1 r1 x2 d2 u2 r2 : Addr} {es1 es2 : List DictEntry} {n1 n2 : Nat} (h1 : Ents (entL u1 r1) es1) (h2 : Ents (entL u2 r2) es2)
    (fs vs : List Int) (hfs : fs.length ≤ 1000) (hvs : vs.length ≤ 1000) (rows1 rows2 : List (Int × Int × Int)) (hr1 : rows1.length ≤ 1000) (hr2 : rows2.length ≤ 1000) (ps : Array Value) (ht : TabOk 110 39 ps) (g : Ledger) (p10 p11 p12 p13 p14 p15 p16 p17 : PV) (Post : FL → St → Prop)
    (k : ∀ (g' : Ledger) (ps' : Array Value) (q10 q11 q12 q13 q14 q15 q16 q17 : PV), TabOk 110 39 ps' → Post .next ⟨[.ref sa, .ref oa, .undef, .ref ca, .str (nameF cells), .ref x1, .ref x2, .ref fA, .ref vA, .int r, q10, q11, q12, q13, q14, q15, q16, q17, .undef, .undef, .undef],
        g' ++ core Cl P ca fA vA x1 d1 u1 r1 x2 d2 u2 r2 es1 n1 es2 n2 cells (fs ++ [dueD cells (nameF cells) r]) (vs ++ [verD cells r]) (if r = 0 then rows1 ++ [rowD cells (nameF cells) r] else rows1) (if r = 0 then rows2 else rows2 ++ [rowD cells (nameF cells) r]) ps'⟩) :
    ExSs prog w B 6 ⟨env, lawNames, true⟩ ⟨[.ref sa, .ref oa, .undef, .ref ca, .str (nameF cells), .ref x1, .ref x2, .ref fA, .ref vA, .int r, p10, p11, p12, p13, p14, p15, p16, p17, .undef, .undef, .undef], g ++ core Cl P ca fA vA x1 d1 u1 r1 x2 d2 u2 r2 es1 n1 es2 n2 cells fs vs rows1 rows2 ps⟩ turnB Post :=
  law_turn1 Z Y L env he C cells r hr hc (fun ps => core Cl P ca fA vA x1 d1 u1 r1 x2 d2 u2 r2 es1 n1 es2 n2 cells fs vs rows1 rows2 ps) (coreT Cl ca fA vA x1 d1 u1 r1 x2 d2 u2 r2 es1 n1 es2 n2 cells fs vs rows1 rows2) (fun _ => .tail _ (.head _)) core_perm ps ht g p10 p11 p12 p13 p14 p15 p16 p17 Post fun tb g1 ps1 ht1 htb1 =>
    law_turn2 Z Y env he C (pathF cells r) (nameF cells) (pathF_ok cells r) (pathF_len cells r) (nameF_len cells) hM (core Cl P ca fA vA x1 d1 u1 r1 x2 d2 u2 r2 es1 n1 es2 n2 cells fs vs rows1 rows2 ps1) g1 htb1 p14 p15 p16 p17 Post fun g2 htb2 =>
      law_turn3 Z TE env he C cells hc r hr (nameF cells) (nameF_len cells) h1 h2 fs vs hfs hvs rows1 rows2 hr1 hr2 ps1 g2 htb2 _ _ _ p16 p17 Post fun q10 q11 q12 q13 q14 q15 q16 q17 => k g2 ps1 q10 q11 q12 q13 q14 q15 q16 q17 ht1
end
end Mine

/-! ## P15 -/
namespace Mine
noncomputable abbrev R3 := Int × Int × Int
noncomputable def pop3 (xs : List R3) : R3 × List R3 := popF lex3 xs.dropLast (xs.getLastD (0, 0, 0))
noncomputable def leftF : Nat → List R3 → List R3
  | 0, xs => xs
  | n + 1, xs => (pop3 (leftF n xs)).2
noncomputable def popsF : Nat → List R3 → List R3
  | 0, _ => []
  | n + 1, xs => popsF n xs ++ [(pop3 (leftF n xs)).1]
noncomputable def pickO (n : Nat) (fs vs : List Int) (i : Nat) (v : Int) : List Int := ((List.range 3).filter fun r => fs.getD r 0 == (n : Int) + (i : Int) * (-1) && vs.getD r 0 == v).map Int.ofNat
noncomputable def roundO (n : Nat) (fs vs : List Int) (i : Nat) : List Int := [(1 : Int), 0].flatMap (pickO n fs vs i)
noncomputable def orderF (n : Nat) (fs vs : List Int) : List Int := (List.range (n + 2)).flatMap (roundO n fs vs)
noncomputable def rowsD (cells : List Int) (name : Sg) (r : Nat) : List R3 := (List.range r).map (rowD cells name)
noncomputable def heap0 (xs : List R3) : List R3 := heapifyF lex3 (xs.length / 2) xs

theorem pop3_len (xs : List R3) : (pop3 xs).2.length = xs.length - 1 := by unfold pop3; rw [popF_length]; simp
theorem leftF_len (xs : List R3) (n : Nat) : (leftF n xs).length = xs.length - n := by
  induction n with
  | zero => rfl
  | succ n ih => rw [leftF, pop3_len, ih]; lia
theorem heapifyF_len {α : Type} (lt : α → α → Bool) : ∀ (i : Nat) (xs : List α), (heapifyF lt i xs).length = xs.length
  | 0, xs => rfl
  | i + 1, xs => by
    rw [heapifyF, heapifyF_len lt i]
    split
    · rw [siftupF_length]
    · rfl
theorem pickO_len (n : Nat) (fs vs : List Int) (i : Nat) (v : Int) : (pickO n fs vs i v).length ≤ 3 := by
  unfold pickO
  rw [List.length_map]
  exact List.length_filter_le _ _
theorem roundO_len (n : Nat) (fs vs : List Int) (i : Nat) : (roundO n fs vs i).length ≤ 6 := by
  have h1 := pickO_len n fs vs i 1
  have h2 := pickO_len n fs vs i 0
  unfold roundO
  simp only [List.flatMap_cons, List.flatMap_nil, List.append_nil, List.length_append]; lia
theorem flat_le {f : Nat → List Int} {k : Nat} (h : ∀ i, (f i).length ≤ k) : ∀ l : List Nat, (l.flatMap f).length ≤ k * l.length
  | [] => by simp
  | a :: l => by
    have := h a
    have := flat_le h l
    simp only [List.flatMap_cons, List.length_append, List.length_cons, Nat.mul_add]; lia

section
variable {prog : Program} {w : World} {B : Heap → Prop} {mg mb : Str → Option Value} {fa : Nat → Addr} {d : Nat} {c : Cx} {σ : St} {K : Frag} {Cl fI : Addr}

theorem EvB.neL2 {α : Type} [DecidableEq α] {f : α → PV} (hf : EqF f) {l r : Expr} {pos : Pos} {a b : Addr} {xs ys : List α} (hl : EvE prog w B d c σ l (.ref a)) (hr : EvE prog w B d c σ r (.ref b)) (ha : (a, MO.lst (xs.map f)) ∈ σ.mem) (hb : (b, MO.lst (ys.map f)) ∈ σ.mem)
    (hmk : behindInMarks .NotEq r = false := by with_unfolding_all rfl) : EvB prog w B d c σ (.Compare l [.NotEq] [r] pos) (decide (xs ≠ ys)) :=
  fun h0 A s Q E b ok R k => wpAny_isTrue_Compare1 (hl h0 A s _ E b ok R fun v1 h1 t1 s1 r1 => hr h0 A _ _ E b ok (R.sub s1) fun v2 h2 t2 s2 r2 => by
    obtain rfl := r1
    obtain rfl := r2
    obtain ⟨us, hu, ru⟩ := ((R.sub s1).sub s2).lst ha
    obtain ⟨ws, hw, rw'⟩ := ((R.sub s1).sub s2).lst hb
    exact neLists (s := { s with heap := h2, toks := t2 }) hf ok.un hu ru hw rw' (wpAny_truthy_bool (k h2 t2 (s1.trans s2)))) hmk

theorem t3of_ne (a : R3) : t3of a ≠ .undef := by nofun

/-- [row[2] for row in rows] -/
theorem EvM.thirds {iter : Expr} {p1 p2 p3 pos px : Pos} {k0 : Nat} {scope : Scope} {D : Dfn} {a : Addr} {rows : List R3} (Z : Bs B mg mb) (hE : EnvC B D c.env) (C : c.Ok) (chk : compB D scope (Str.ofString "row") [] = true) (hi : EvE prog w B d c σ iter (.ref a)) (hm : (a, MO.lst (rows.map t3of)) ∈ σ.mem) (hl : rows.length ≤ 1000)
    (hs : ∀ x, foldedSetIterable iter c.env x = pure x := by intro _; rfl) :
    EvM prog w B d c σ (.ListComp (.Subscript (.Name (Str.ofString "row") p1) (.Constant (.int 2) k0 p2) p3) [⟨.Name (Str.ofString "row") px, iter, [], 0⟩] scope pos) (fun pv m => ∃ D, pv = .ref D ∧ (D, MO.lst ((rows.map (·.2.2)).map PV.int)) ∈ m ∧ ∀ p ∈ σ.mem, p ∈ m) := by
  obtain ⟨s, t, hst⟩ := List.append_of_mem hm
  have hperm : List.Perm ((a, MO.lst (rows.map t3of)) :: (s ++ t)) σ.mem := by rw [hst]; exact List.perm_middle.symm
  have K := CompOk.of (σ := σ) (frees := []) (fvs := []) hE C chk (FreeAt.get trivial)
  refine EvM.comp (m0 := s ++ t) (extra := [(a, .lst (rows.map t3of))]) (n := (rows.map t3of).length) [] [] Z K (IterR.list hi hperm) (by simp; lia)
    (fun i pvs m => pvs = ((rows.take i).map (·.2.2)).map PV.int ∧ m = s ++ t) ⟨rfl, rfl⟩ ?_ ?_ hs
  · rintro i L _ _ hi ⟨rfl, rfl⟩
    have hi' : i < rows.length := by simpa using hi
    have hget : (rows.map t3of).getD i .undef = t3of rows[i] := by
      rw [List.getD_eq_getElem?_getD, List.getElem?_map, List.getElem?_eq_getElem hi']; rfl
    rw [hget]
    refine ⟨true, EvF.nil, fun q => (by cases q), fun _ => ?_⟩
    refine EvE.m (EvE.row2 (EvE.var 0 (K.ok L) rfl rfl (by nofun))) ⟨?_, rfl⟩
    rw [List.take_add_one, List.getElem?_eq_getElem hi', Option.toList_some, List.map_append, List.map_append]; rfl
  · rintro _ _ D' ⟨rfl, rfl⟩
    rw [List.length_map, List.take_length]
    refine ⟨D', rfl, .head _, fun p hp => .tail _ ?_⟩
    exact hperm.mem_iff.mpr hp

/-- the law behind its loop -/
theorem law_tail (Z : Base B mg mb fa) (TE : EntB B mg K Cl fI) (env : Env) (he : EnvC B (dfn 26) env) (C : Cx.Ok ⟨env, lawNames, true⟩) (cells : List Int) (name : Sg) (hnl : name.length ≤ 7) {sa oa ca fA vA x1 d1 u1 r1 x2 d2 u2 r2 P : Addr} {es1 es2 : List DictEntry} {n1 n2 : Nat} (h1 : Ents (entL u1 r1) es1) (h2 : Ents (entL u2 r2) es2)
    (fs vs : List Int) (hfs : fs.length = 3) (hvs : vs.length = 3) (row0 row1 row2 : R3) (hrow0 : row0.2.2 = 0) (hrow1 : row1.2.2 = 1) (hrow2 : row2.2.2 = 2) (ps : Array Value) (g : Ledger) (p9 p10 p11 p12 p13 p14 p15 p16 p17 : PV)
    (hO : (popsF 3 (heap0 [row0, row1, row2])).map (·.2.2) = orderF name.length fs vs) :
    ExSs prog w B 6 ⟨env, lawNames, true⟩ ⟨[.ref sa, .ref oa, .undef, .ref ca, .str name, .ref x1, .ref x2, .ref fA, .ref vA, p9, p10, p11, p12, p13, p14, p15, p16, p17, .undef, .undef, .undef],
        g ++ core Cl P ca fA vA x1 d1 u1 r1 x2 d2 u2 r2 es1 n1 es2 n2 cells fs vs [row0] [row1, row2] ps⟩ (lawBody.drop 10) (fun fl σ' => fl = .ret (.bool true) ∧ (P, MO.raw (tabObj ps)) ∈ σ'.mem) := by
  have kl : env.kindOf (Str.ofString "len") = some .globalImplicit := kind_ofC he (by decide +kernel)
  have kr : env.kindOf (Str.ofString "range") = some .globalImplicit := kind_ofC he (by decide +kernel)
  refine ExSs.genP fun Q0 hQ0 => ?_
  have hpm : List.Perm ((entM Cl x1 d1 u1 r1 es1 n1 [.str cFig] ([row0].map t3of) ++ entM Cl x2 d2 u2 r2 es2 n2 [.str cFig] ([row1, row2].map t3of)) ++ ((P, .raw (tabObj ps)) :: (ca, .lst (cells.map .int)) :: (fA, .lst (fs.map .int)) :: (vA, .lst (vs.map .int)) :: g))
      (g ++ core Cl P ca fA vA x1 d1 u1 r1 x2 d2 u2 r2 es1 n1 es2 n2 cells fs vs [row0] [row1, row2] ps) := by
    refine List.Perm.trans ?_ List.perm_append_comm
    show List.Perm ((entM Cl x1 d1 u1 r1 es1 n1 [.str cFig] ([row0].map t3of) ++ entM Cl x2 d2 u2 r2 es2 n2 [.str cFig] ([row1, row2].map t3of)) ++ ([(P, .raw (tabObj ps)), (ca, .lst (cells.map .int)), (fA, .lst (fs.map .int)), (vA, .lst (vs.map .int))] ++ g)) _
    rw [← List.append_assoc]
    exact List.Perm.append_right g List.perm_append_comm
  -- both
  refine ExSs.letF (P0 := fun pv m => ∃ x dx u r es n g', pv = .ref x ∧ Ents (entL u r) es ∧ m.Perm (entM Cl x dx u r es n [.str cFig] ([row0].map t3of ++ [row1, row2].map t3of) ++ (entM Cl x1 d1 u1 r1 es1 n1 [.str cFig] ([row0].map t3of) ++ entM Cl x2 d2 u2 r2 es2 n2 [.str cFig] ([row1, row2].map t3of)) ++ g')) 18 9 Z C rfl rfl (by decide) rfl (kind_ofC he (by decide +kernel)) (EvAs.cons (EvE.var 5 C rfl rfl) (EvAs.one (EvE.var 6 C rfl rfl))) (merge_ok Z TE h1 h2 ([row0].map t3of) ([row1, row2].map t3of) (by simp)) (by decide) hpm ?_
  rintro _ m1 ⟨bx, bd, bu, br, bes, bn, g1, rfl, hbe, hm1⟩
  have hcat : [row0].map t3of ++ [row1, row2].map t3of = [row0, row1, row2].map t3of := rfl
  rw [hcat] at hm1
  -- the ledger from here: the heap's list first
  have mk : ∀ G : Prop, (∀ g2 : Ledger, List.Perm ((br, MO.lst ([row0, row1, row2].map t3of)) :: g2) (m1 ++ ((P, .raw (tabObj ps)) :: (ca, .lst (cells.map .int)) :: (fA, .lst (fs.map .int)) :: (vA, .lst (vs.map .int)) :: g)) → (bx, MO.raw (instObj Cl bd)) ∈ g2 → (bd, MO.raw (dictOf bes bn)) ∈ g2 → (bu, MO.lst [.str cFig]) ∈ g2 → (x1, MO.raw (instObj Cl d1)) ∈ g2 → (d1, MO.raw (dictOf es1 n1)) ∈ g2 → (x2, MO.raw (instObj Cl d2)) ∈ g2 → (d2, MO.raw (dictOf es2 n2)) ∈ g2 → (r1, MO.lst ([row0].map t3of)) ∈ g2 → (r2, MO.lst ([row1, row2].map t3of)) ∈ g2 → (P, MO.raw (tabObj ps)) ∈ g2 → (fA, MO.lst (fs.map .int)) ∈ g2 → (vA, MO.lst (vs.map .int)) ∈ g2 → G) → G := by
    refine fun G k => k ([(bx, .raw (instObj Cl bd)), (bd, .raw (dictOf bes bn)), (bu, .lst [.str cFig])] ++ ((entM Cl x1 d1 u1 r1 es1 n1 [.str cFig] ([row0].map t3of) ++ entM Cl x2 d2 u2 r2 es2 n2 [.str cFig] ([row1, row2].map t3of)) ++ g1) ++ ((P, .raw (tabObj ps)) :: (ca, .lst (cells.map .int)) :: (fA, .lst (fs.map .int)) :: (vA, .lst (vs.map .int)) :: g)) ?_ (List.mem_append_left _ (List.mem_append_left _ (.head _))) (List.mem_append_left _ (List.mem_append_left _ (.tail _ (.head _)))) (List.mem_append_left _ (List.mem_append_left _ (.tail _ (.tail _ (.head _))))) (List.mem_append_left _ (List.mem_append_right _ (List.mem_append_left _ (List.mem_append_left _ (.head _))))) (List.mem_append_left _ (List.mem_append_right _ (List.mem_append_left _ (List.mem_append_left _ (.tail _ (.head _)))))) (List.mem_append_left _ (List.mem_append_right _ (List.mem_append_left _ (List.mem_append_right _ (.head _))))) (List.mem_append_left _ (List.mem_append_right _ (List.mem_append_left _ (List.mem_append_right _ (.tail _ (.head _)))))) (List.mem_append_left _ (List.mem_append_right _ (List.mem_append_left _ (List.mem_append_left _ (.tail _ (.tail _ (.tail _ (.head _)))))))) (List.mem_append_left _ (List.mem_append_right _ (List.mem_append_left _ (List.mem_append_right _ (.tail _ (.tail _ (.tail _ (.head _)))))))) (List.mem_append_right _ (.head _)) (List.mem_append_right _ (.tail _ (.tail _ (.head _)))) (List.mem_append_right _ (.tail _ (.tail _ (.tail _ (.head _)))))
    refine List.Perm.trans ?_ (List.Perm.append_right _ hm1.symm)
    rw [← List.cons_append]
    refine List.Perm.append_right _ ?_
    rw [List.append_assoc]
    show List.Perm ([(br, MO.lst ([row0, row1, row2].map t3of))] ++ [(bx, .raw (instObj Cl bd)), (bd, .raw (dictOf bes bn)), (bu, .lst [.str cFig])] ++ ((entM Cl x1 d1 u1 r1 es1 n1 [.str cFig] ([row0].map t3of) ++ entM Cl x2 d2 u2 r2 es2 n2 [.str cFig] ([row1, row2].map t3of)) ++ g1)) _
    exact List.Perm.append_right _ List.perm_append_comm
  refine mk _ fun g2 hperm mbx mbd mbu mx1 md1 mx2 md2 mr1 mr2 mP mfA mvA => ?_
  refine ExSs.perm hperm ?_
  -- heapify
  refine ExSs.callS (m0 := [(br, .lst ([row0, row1, row2].map t3of))]) (rest := g2) 18 Z C (by decide) rfl (kind_ofC he (by decide +kernel)) (EvAs.one (EvE.attr TE (EvE.var 18 C rfl rfl) (.tail _ mbx) (.tail _ mbd) hbe (v := .ref br) rfl (by decide +kernel) rfl)) (heapify_ok t3of lex3 t3of_ne CmpR.lt3 Z br [row0, row1, row2] (by simp)) (by decide) (List.Perm.refl _) (fun _ _ q => q.1) ?_
  rintro _ ⟨-, rfl⟩
  show ExSs prog w B 6 _ ⟨_, (br, .lst ((heap0 [row0, row1, row2]).map t3of)) :: g2⟩ _ _
  have hh0 : (heap0 [row0, row1, row2]).length = 3 := by unfold heap0; rw [heapifyF_len]; rfl
  generalize heap0 [row0, row1, row2] = H at hO hh0 ⊢
  -- came
  have K1 := CompOk.of (σ := ⟨[.ref sa, .ref oa, .undef, .ref ca, .str name, .ref x1, .ref x2, .ref fA, .ref vA, p9, p10, p11, p12, p13, p14, p15, p16, p17, .ref bx, .undef, .undef], (br, .lst (H.map t3of)) :: g2⟩) (frees := [Str.ofString "both"]) (fvs := [.ref bx]) (x := Str.ofString "r") (scope := { kind := .function, names := [(Str.ofString ".0", .local), (Str.ofString "r", .local), (Str.ofString "heappop", .globalImplicit), (Str.ofString "both", .free)], isGenerator := false, isCoroutine := false, more := [] }) he C (by decide +kernel) (FreeAt.get ⟨⟨18, rfl, rfl⟩, trivial⟩)
  refine ExSs.letComp (m0 := (br, .lst (H.map t3of)) :: g2) (extra := []) (n := 3) _ _ 19 C rfl rfl Z.toBs K1 (swaps_local (by show env.blockKind = _; unfold Env.blockKind; rw [he.scope]; rfl) (kind_ofC he (by decide +kernel)) (by rfl) (by decide +kernel))
    (IterR.range1 (n := 3) Z C kr (EvE.int.eq rfl) (by decide)) (by decide) (fun i pvs m => pvs = ((popsF i H).map (·.2.2)).map PV.int ∧ m = (br, .lst ((leftF i H).map t3of)) :: g2) ⟨rfl, rfl⟩ ?_ ?_
  · rintro i Lo _ _ hi ⟨rfl, rfl⟩
    have C' := K1.ok Lo
    refine ⟨true, EvF.nil, fun q => (by cases q), fun _ => ?_⟩
    have hl : (leftF i H).length = 3 - i := by rw [leftF_len, hh0]
    have hne : leftF i H ≠ [] := by intro q; rw [q] at hl; simp at hl; lia
    have hsplit : leftF i H = (leftF i H).dropLast ++ [(leftF i H).getLastD (0, 0, 0)] := by
      rcases List.eq_nil_or_concat (leftF i H) with h | ⟨l, x, h⟩
      · exact absurd h hne
      · rw [h]; simp
    refine EvM.row2 (EvM.callFM 17 Z C' (by decide) rfl (kind_comp (by decide +kernel)) (Pa := fun pvs m => pvs = [.ref br] ∧ m = (br, .lst ((leftF i H).map t3of)) :: g2)
      (EvMs.consE (EvE.attr TE (EvE.var 1 C' rfl rfl) (.tail _ mbx) (.tail _ mbd) hbe (v := .ref br) rfl (by decide +kernel) rfl) (EvMs.nil ⟨rfl, rfl⟩)) ?_)
    rintro _ _ ⟨rfl, rfl⟩
    have hp := heappop_ok (prog := prog) (w := w) t3of lex3 t3of_ne CmpR.lt3 Z br (leftF i H).dropLast ((leftF i H).getLastD (0, 0, 0)) (by simp; lia)
    rw [← hsplit] at hp
    refine ⟨[(br, .lst ((leftF i H).map t3of))], g2, _, hp.le (by decide), List.Perm.refl _, ?_⟩
    rintro _ _ ⟨rfl, rfl⟩
    refine ⟨_, _, _, rfl, ?_, rfl⟩
    rw [popsF, List.map_append, List.map_append]; rfl
  rintro _ _ D ⟨rfl, rfl⟩
  have hl3 : leftF 3 H = [] := List.eq_nil_of_length_eq_zero (by rw [leftF_len, hh0])
  rw [hl3, hO]
  -- order
  refine ExSs.letNil 20 C rfl rfl fun o => ?_
  show ExSs prog w B 6 _ ⟨_, (o, .lst (([] : List Int).map PV.int)) :: ((D, MO.lst ((orderF name.length fs vs).map PV.int)) :: (br, .lst (([] : List R3).map t3of)) :: g2)⟩ _ _
  generalize hg3 : ((D, MO.lst ((orderF name.length fs vs).map PV.int)) :: (br, .lst (([] : List R3).map t3of)) :: g2) = g3
  have up : ∀ {p : Addr × MO}, p ∈ g2 → p ∈ g3 := fun h => by rw [← hg3]; exact .tail _ (.tail _ h)
  have mD : (D, MO.lst ((orderF name.length fs vs).map PV.int)) ∈ g3 := by rw [← hg3]; exact .head _
  have mbr : (br, MO.lst (([] : List R3).map t3of)) ∈ g3 := by rw [← hg3]; exact .tail _ (.head _)
  refine ExSs.forCore (n := name.length + 2) Z.toBs (IterR.down (n := name.length) Z C kr (EvE.len Z C kl (EvE.var 4 C rfl rfl) (CallP.lenS (by lia))) (EvE.neg EvE.int) (EvE.neg EvE.int) (by lia))
    (fun i σ' => ∃ (q2 q16 : PV) (gg : Ledger), σ' = ⟨[.ref sa, .ref oa, q2, .ref ca, .str name, .ref x1, .ref x2, .ref fA, .ref vA, p9, p10, p11, p12, p13, p14, p15, q16, p17, .ref bx, .ref D, .ref o], gg ++ (o, .lst (((List.range i).flatMap (roundO name.length fs vs)).map PV.int)) :: g3⟩) ⟨_, _, [], rfl⟩ ?_ ?_
  · rintro i _ hi ⟨q2, q16, gg, rfl⟩
    refine ⟨_, AsgR.name 2 C rfl rfl, ExSs.genP fun R hR => ?_⟩
    refine ExSs.forCore (n := 2) Z.toBs (IterR.tup2 (EvE.int (i := 1)) (EvE.int (i := 0)))
      (fun j σ' => ∃ (q16 : PV) (gg : Ledger), σ' = ⟨[.ref sa, .ref oa, .int ((name.length : Int) + (i : Int) * (-1)), .ref ca, .str name, .ref x1, .ref x2, .ref fA, .ref vA, p9, p10, p11, p12, p13, p14, p15, q16, p17, .ref bx, .ref D, .ref o], gg ++ (o, .lst (((List.range i).flatMap (roundO name.length fs vs) ++ ([(1 : Int), 0].take j).flatMap (pickO name.length fs vs i)).map PV.int)) :: g3⟩) ⟨_, gg, by simp; rfl⟩ ?_ ?_
    · rintro j _ hj ⟨q16, gg, rfl⟩
      obtain ⟨v, hv1, hv2⟩ : ∃ v : Int, [PV.int 1, PV.int 0].getD j .undef = .int v ∧ [(1 : Int), 0].take (j + 1) = [(1 : Int), 0].take j ++ [v] := by
        rcases (show j = 0 ∨ j = 1 by lia) with rfl | rfl
        · exact ⟨1, rfl, rfl⟩
        · exact ⟨0, rfl, rfl⟩
      rw [hv1]
      refine ⟨_, AsgR.name 16 C rfl rfl, ExSs.genP fun R2 hR2 => ?_⟩
      generalize hxs : (List.range i).flatMap (roundO name.length fs vs) ++ ([(1 : Int), 0].take j).flatMap (pickO name.length fs vs i) = xs
      have hxl : xs.length ≤ 1000 := by
        rw [← hxs]
        have a1 := flat_le (roundO_len name.length fs vs) (List.range i)
        have a2 : (([(1 : Int), 0].take j).flatMap (pickO name.length fs vs i)).length ≤ 6 := by
          have b1 := pickO_len name.length fs vs i 1
          have b0 := pickO_len name.length fs vs i 0
          rcases (show j = 0 ∨ j = 1 by lia) with rfl | rfl
          · simp
          · simp; lia
        rw [List.length_range] at a1
        rw [List.length_append]; lia
      have K2 := CompOk.of (σ := ⟨[.ref sa, .ref oa, .int ((name.length : Int) + (i : Int) * (-1)), .ref ca, .str name, .ref x1, .ref x2, .ref fA, .ref vA, p9, p10, p11, p12, p13, p14, p15, .int v, p17, .ref bx, .ref D, .ref o], gg ++ (o, .lst (xs.map PV.int)) :: g3⟩) (frees := [Str.ofString "farthest", Str.ofString "k", Str.ofString "verdict", Str.ofString "verdicts"]) (fvs := [.ref fA, .int ((name.length : Int) + (i : Int) * (-1)), .int v, .ref vA]) (x := Str.ofString "r") (scope := { kind := .function, names := [(Str.ofString ".0", .local), (Str.ofString "r", .local), (Str.ofString "farthest", .free), (Str.ofString "k", .free), (Str.ofString "verdict", .free), (Str.ofString "verdicts", .free)], isGenerator := false, isCoroutine := false, more := [] }) he C (by decide +kernel) (FreeAt.get ⟨⟨7, rfl, rfl⟩, ⟨2, rfl, rfl⟩, ⟨16, rfl, rfl⟩, ⟨8, rfl, rfl⟩, trivial⟩)
      have mo : (o, MO.lst (xs.map PV.int)) ∈ gg ++ (o, .lst (xs.map PV.int)) :: g3 := List.mem_append_right _ (.head _)
      refine ExSs.extend (P1 := fun pv m => ∃ b, pv = .ref b ∧ m = (b, .lst ((pickO name.length fs vs i v).map PV.int)) :: (gg ++ (o, .lst (xs.map PV.int)) :: g3)) (EvE.var 20 C rfl rfl) mo
        (EvM.comp (m0 := gg ++ (o, .lst (xs.map PV.int)) :: g3) (extra := []) (n := 3) _ _ Z.toBs K2 (IterR.range1 (n := 3) Z C kr (EvE.int.eq rfl) (by decide)) (by decide)
          (fun i' pvs m => pvs = (((List.range i').filter fun r => fs.getD r 0 == (name.length : Int) + (i : Int) * (-1) && vs.getD r 0 == v).map Int.ofNat).map PV.int ∧ m = gg ++ (o, .lst (xs.map PV.int)) :: g3) ⟨rfl, rfl⟩ ?_ (fun pvs m D' q => ⟨D', rfl, by rw [q.1, q.2]; rfl⟩)) ?_
      · rintro k Lo _ _ hk ⟨rfl, rfl⟩
        have C' := K2.ok Lo
        have e1 : (fs.map PV.int)[(k : Int).toNat]? = some (.int (fs.getD k 0)) := by
          rw [Int.toNat_natCast, List.getElem?_map, List.getD_eq_getElem?_getD, List.getElem?_eq_getElem (by lia)]; rfl
        have e2 : (vs.map PV.int)[(k : Int).toNat]? = some (.int (vs.getD k 0)) := by
          rw [Int.toNat_natCast, List.getElem?_map, List.getD_eq_getElem?_getD, List.getElem?_eq_getElem (by lia)]; rfl
        have mf : (fA, MO.lst (fs.map .int)) ∈ gg ++ (o, .lst (xs.map PV.int)) :: g3 := List.mem_append_right _ (.tail _ (up mfA))
        have mv : (vA, MO.lst (vs.map .int)) ∈ gg ++ (o, .lst (xs.map PV.int)) :: g3 := List.mem_append_right _ (.tail _ (up mvA))
        refine ⟨fs.getD k 0 == (name.length : Int) + (i : Int) * (-1) && vs.getD k 0 == v, EvF.one (EvB.and2 (EvB.cmp (EvE.idx (EvE.var 1 C' rfl rfl) mf (EvE.var 0 C' rfl rfl) (by lia) (by lia) e1) (EvE.var 2 C' rfl rfl) CmpR.eqI) fun _ => EvB.cmp (EvE.idx (EvE.var 4 C' rfl rfl) mv (EvE.var 0 C' rfl rfl) (by lia) (by lia) e2) (EvE.var 3 C' rfl rfl) CmpR.eqI), fun q => ⟨?_, rfl⟩, fun q => ?_⟩
        · rw [List.range_succ, List.filter_append, List.filter_cons_of_neg (p := fun r => fs.getD r 0 == (name.length : Int) + (i : Int) * (-1) && vs.getD r 0 == v) (by rw [q]; decide)]; simp
        · refine EvE.m (EvE.var 0 C' rfl rfl) ⟨?_, rfl⟩
          rw [List.range_succ, List.filter_append, List.filter_cons_of_pos (p := fun r => fs.getD r 0 == (name.length : Int) + (i : Int) * (-1) && vs.getD r 0 == v) (a := k) (l := []) q, List.map_append, List.map_append]; rfl
      · rintro _ _ ⟨b, rfl, rfl⟩
        have hpl := pickO_len name.length fs vs i v
        refine ⟨b, xs.map PV.int, (pickO name.length fs vs i v).map PV.int, _, rfl, .head _, .tail (Put.app .head gg), by simp; lia, ExSs.nil (hR2 .next _ ?_)⟩
        refine ⟨.int v, (b, .lst ((pickO name.length fs vs i v).map PV.int)) :: gg, ?_⟩
        rw [hv2, List.flatMap_append, ← List.append_assoc, hxs, List.map_append (l₁ := xs)]
        simp
    · rintro _ ⟨q16, gg, rfl⟩
      refine ExSs.nil (hR .next _ ⟨.int ((name.length : Int) + (i : Int) * (-1)), q16, gg, ?_⟩)
      rw [List.range_succ, List.flatMap_append]
      show (⟨_, gg ++ (o, MO.lst (((List.range i).flatMap (roundO name.length fs vs) ++ roundO name.length fs vs i).map PV.int)) :: g3⟩ : St) = _
      rw [List.flatMap_cons, List.flatMap_nil, List.append_nil]
  · rintro _ ⟨q2, q16, gg, rfl⟩
    have mo : (o, MO.lst ((orderF name.length fs vs).map PV.int)) ∈ gg ++ (o, .lst (((List.range (name.length + 2)).flatMap (roundO name.length fs vs)).map PV.int)) :: g3 := List.mem_append_right _ (.head _)
    have up3 : ∀ {p : Addr × MO}, p ∈ g3 → p ∈ gg ++ (o, .lst (((List.range (name.length + 2)).flatMap (roundO name.length fs vs)).map PV.int)) :: g3 := fun h => List.mem_append_right _ (.tail _ h)
    refine ExSs.ite (b := false) ((EvB.boolop (b := false) (EvL.or_cons (b := false) (r := false) ((EvB.neL2 (f := PV.int) EqF.int (EvE.var 19 C rfl rfl) (EvE.var 20 C rfl rfl) (up3 mD) mo).eq (by simp)) fun _ => EvL.or_cons (b := false) (r := false) ((EvB.neDisp (f := PV.int) (ys := []) EqF.int (EvE.attr TE (EvE.var 18 C rfl rfl) (up3 (up mbx)) (up3 (up mbd)) hbe (v := .ref br) rfl (by decide +kernel) rfl) (xs := []) (up3 mbr) EvAs.nil (by simp)).eq (by simp)) fun _ =>
      EvL.or_cons (b := false) (r := false) ((EvB.neDisp (f := PV.str) (ys := [cFig]) EqF.str (EvE.attr TE (EvE.var 18 C rfl rfl) (up3 (up mbx)) (up3 (up mbd)) hbe (v := .ref bu) rfl (by decide +kernel) rfl) (xs := [cFig]) (up3 (up mbu)) (EvAs.one (EvE.strL cFig)) (by simp)).eq (by simp)) fun _ => EvL.or_nil)).eq rfl) (fun q => by cases q) (fun _ => ExSs.nil ?_)
    refine ExSs.ret (P1 := fun pv m => pv = .bool true ∧ (P, MO.raw (tabObj ps)) ∈ m) ?_ fun pv m q => hQ0 _ _ ⟨by rw [q.1], q.2⟩
    generalize hM : gg ++ (o, MO.lst (((List.range (name.length + 2)).flatMap (roundO name.length fs vs)).map PV.int)) :: g3 = M at up3 ⊢
    refine EvM.and2 (P1 := fun pv m => ∀ p ∈ M, p ∈ m) (EvM.eqLs (f := PV.int) EqF.int (P1 := fun pv m => ∃ D, pv = .ref D ∧ (D, MO.lst (([row0].map (·.2.2)).map PV.int)) ∈ m ∧ ∀ p ∈ M, p ∈ m)
      (EvM.thirds (rows := [row0]) Z.toBs he C (by decide +kernel) (EvE.attr TE (EvE.var 5 C rfl rfl) (up3 (up mx1)) (up3 (up md1)) h1 (v := .ref r1) rfl (by decide +kernel) rfl) (up3 (up mr1)) (by simp)) ?_) ?_
    · rintro _ m ⟨D1, rfl, hD1, hup⟩
      refine EvM.list (Pa := fun pvs m' => pvs = [.int 0] ∧ m' = m) (EvMs.consE EvE.int (EvMs.nil ⟨rfl, rfl⟩)) (fun pvs m q => by rw [q.1]; simp) ?_
      rintro _ _ D2 ⟨rfl, rfl⟩
      exact ⟨D1, D2, [row0].map (·.2.2), [0], rfl, rfl, .tail _ hD1, .head _, by simp [hrow0], fun p hp => .tail _ (hup p hp)⟩
    · intro m hup
      refine EvM.eqLs (f := PV.int) EqF.int (P1 := fun pv m => ∃ D, pv = .ref D ∧ (D, MO.lst (([row1, row2].map (·.2.2)).map PV.int)) ∈ m ∧ ∀ p ∈ M, p ∈ m)
        ((EvM.thirds (rows := [row1, row2]) Z.toBs he C (by decide +kernel) (EvE.attr TE (EvE.var 6 C rfl rfl) (hup _ (up3 (up mx2))) (hup _ (up3 (up md2))) h2 (v := .ref r2) rfl (by decide +kernel) rfl) (hup _ (up3 (up mr2))) (by simp)).mono fun pv m ⟨D, q1, q2, q3⟩ => ⟨D, q1, q2, fun p hp => q3 p (hup p hp)⟩) ?_
      rintro _ m ⟨D1, rfl, hD1, hup⟩
      refine EvM.list (Pa := fun pvs m' => pvs = [.int 1, .int 2] ∧ m' = m) (EvMs.consE EvE.int (EvMs.consE EvE.int (EvMs.nil ⟨rfl, rfl⟩))) (fun pvs m q => by rw [q.1]; simp) ?_
      rintro _ _ D2 ⟨rfl, rfl⟩
      exact ⟨D1, D2, [row1, row2].map (·.2.2), [1, 2], rfl, rfl, .tail _ hD1, .head _, by simp [hrow1, hrow2], .tail _ (hup _ (up3 (up mP)))⟩
end
end Mine

/-! ## P16a -/
namespace Mine
/-- a display of written ints -/
noncomputable def intsOf : List Expr → Option (List Int)
  | [] => some []
  | .Constant (.int i) _ _ :: es => (intsOf es).map (i :: ·)
  | _ => none
section
variable {prog : Program} {w : World} {B : Heap → Prop} {mg mb : Str → Option Value} {fa : Nat → Addr} {d : Nat} {c : Cx} {σ : St}
theorem EvAs.ints : ∀ {es : List Expr} {is : List Int}, intsOf es = some is → EvAs prog w B d c σ es (is.map PV.int)
  | [], is, h => by
    unfold intsOf at h
    cases h
    exact EvAs.nil
  | e :: es, is, h => by
    unfold intsOf at h
    split at h
    · rename_i q; cases q
    · rename_i i k p es' q
      injection q with q1 q2
      subst q1; subst q2
      obtain ⟨js, hj, rfl⟩ := Option.map_eq_some_iff.mp h
      exact EvAs.cons EvE.int (EvAs.ints hj) (fun _ => rfl)
    · cases h
theorem EvM.listInts {es : List Expr} {is : List Int} {pos : Pos} {P : PV → Ledger → Prop} (h : intsOf es = some is) (hl : is.length ≤ 1000) (hP : ∀ a, P (.ref a) ((a, .lst (is.map .int)) :: σ.mem)) : EvM prog w B d c σ (.List es pos) P :=
  EvM.list (Pa := fun pvs m => pvs = is.map PV.int ∧ m = σ.mem) ((EvAs.ints h).ms ⟨rfl, rfl⟩) (fun pvs m q => by rw [q.1, List.length_map]; lia) fun pvs m a q => by rw [q.1, q.2]; exact hP a
theorem ExSs.letInts {x : Str} {p1 p2 pos : Pos} {es : List Expr} {is : List Int} {ts : List Stmt} {P : FL → St → Prop} (k : Nat) (C : c.Ok) (hrw : c.rw = true) (hk : c.names[k]? = some x) (hi : intsOf es = some is) (hl : is.length ≤ 1000)
    (h : ∀ a, ExSs prog w B d c ⟨σ.vars.set k (.ref a), (a, .lst (is.map .int)) :: σ.mem⟩ ts P) : ExSs prog w B d c σ (.Assign [.Name x p1] (.List es p2) pos :: ts) P :=
  ExSs.letM (P1 := fun pv m => ∃ a, pv = .ref a ∧ m = (a, .lst (is.map .int)) :: σ.mem) k C hrw hk (EvM.listInts hi hl fun a => ⟨a, rfl, rfl⟩) rfl fun pv m ⟨a, q1, q2⟩ => by rw [q1, q2]; exact h a
theorem own_step {env : Env} {v : List PV} {m : Ledger} {p1 p2 pos : Pos} {es : List Expr} {ts : List Stmt} {P : FL → St → Prop} (C : Cx.Ok ⟨env, lawNames, true⟩) (hi : intsOf es = some ownL)
    (h : ∀ a, ExSs prog w B d ⟨env, lawNames, true⟩ ⟨v.set 1 (.ref a), (a, .lst (ownL.map .int)) :: m⟩ ts P) : ExSs prog w B d ⟨env, lawNames, true⟩ ⟨v, m⟩ (.Assign [.Name (Str.ofString "own") p1] (.List es p2) pos :: ts) P :=
  ExSs.letInts (is := ownL) 1 C rfl rfl hi (by decide) h
end
end Mine

/-! ## P16 -/
namespace Mine
/-- what is asked of the reckoning for a script -/
structure LawOk (script : List Int) : Prop where
  math : ∀ r < 3, MathOk (pathF (cellsF script) r) (nameF (cellsF script))
  order : (popsF 3 (heap0 (rowsD (cellsF script) (nameF (cellsF script)) 3))).map (·.2.2) = orderF (nameF (cellsF script)).length ((List.range 3).map (dueD (cellsF script) (nameF (cellsF script)))) ((List.range 3).map (verD (cellsF script)))

noncomputable def r1F (cells : List Int) (name : Sg) (r : Nat) : List R3 := (rowsD cells name r).take 1
noncomputable def r2F (cells : List Int) (name : Sg) (r : Nat) : List R3 := (rowsD cells name r).drop 1
theorem rows_step (cells : List Int) (name : Sg) (r : Nat) : (if r = 0 then r1F cells name r ++ [rowD cells name r] else r1F cells name r) = r1F cells name (r + 1) ∧ (if r = 0 then r2F cells name r else r2F cells name r ++ [rowD cells name r]) = r2F cells name (r + 1) := by
  have h : rowsD cells name (r + 1) = rowsD cells name r ++ [rowD cells name r] := by unfold rowsD; rw [List.range_succ, List.map_append]; rfl
  have hl : (rowsD cells name r).length = r := by unfold rowsD; simp
  unfold r1F r2F
  rw [h]
  by_cases h0 : r = 0
  · subst h0; exact ⟨rfl, rfl⟩
  · rw [if_neg h0, if_neg h0, List.take_append_of_le_length (by lia), List.drop_append_of_le_length (by lia)]
    exact ⟨rfl, rfl⟩

theorem shuffle {α : Type} (A3 g0 q2 q1 q3 q4 A1 A2 : List α) : List.Perm (A3 ++ g0 ++ (q2 ++ q1 ++ q3 ++ q4 ++ A1 ++ A2)) (q4 ++ q3 ++ (A2 ++ (A1 ++ (g0 ++ (q1 ++ A3 ++ q2))))) := by
  haveI : DecidableEq α := fun a b => Classical.propDecidable (a = b)
  rw [List.perm_iff_count]
  intro a
  simp only [List.count_append]
  lia

section
variable {prog : Program} {w : World} {B : Heap → Prop} {mg mb : Str → Option Value} {fa : Nat → Addr} {d : Nat} {c : Cx} {σ : St} {K : Frag} {Cl fI : Addr}

/-- a list that stands in the base -/
noncomputable def InB (B : Heap → Prop) (sa : Addr) (xs : List PV) : Prop := ∀ h0 h, B h0 → Sub h0 h → ∃ vs : List Value, h.IsList sa vs.toArray ∧ VRs h xs vs
theorem EvE.idxB {value slice : Expr} {pos : Pos} {a : Addr} {xs : List PV} {i : Int} {pv : PV} (ha : EvE prog w B d c σ value (.ref a)) (hm : InB B a xs) (hi : EvE prog w B d c σ slice (.int i)) (h0 : 0 ≤ i) (hlt : i < 4611686018427387904)
    (hx : xs[i.toNat]? = some pv) (hs : ∀ o i, subscripted slice false o i = operate [o, i] (getItem o i) := by intro _ _; with_unfolding_all rfl) : EvE prog w B d c σ (.Subscript value slice pos) pv :=
  fun g A s Q E b ok R h => Subscript_ (ha g A s _ E b ok R fun v1 h1 t1 s1 r1 => hi g A _ _ E b ok (R.sub s1) fun v2 h2 t2 s2 r2 => by
    obtain rfl : v1 = .ref a := r1
    obtain ⟨t, rfl⟩ := r2
    obtain ⟨vs, hl, hv⟩ := hm g _ b ((R.sub s1).sub s2).keep
    obtain ⟨v, e, r⟩ := hv.get hx
    exact tail_any (Heap.IsList.typeIs (s := { s with heap := h2, toks := t2 }) hl) slot_list_getitem.lookup (wpAny_getItem_list hl h0 (by lia) (by simpa using e) (h v h2 t2 (s1.trans s2) r)) (hs _ _))
theorem EvE.lenB {np pos : Pos} {e : Expr} {a : Addr} {xs : List PV} (Z : Base B mg mb fa) (C : c.Ok) (hk : c.env.kindOf (Str.ofString "len") = some .globalImplicit) (he : EvE prog w B d c σ e (.ref a)) (hm : InB B a xs) (hl : xs.length ≤ 16777216)
    (hs : ∀ env, starEach [e] env = (false, eval e env) :: starEach [] env := by intro _; rfl) : EvE prog w B d c σ (.Call (.Name (Str.ofString "len") np) [e] [] pos) (.int xs.length) :=
  have hp : ∀ pos env, (backTo pos (starEach [e] env)).any (·.1) = false := by intro pos env; rw [hs]; rfl
  have hf : EvE prog w B d c σ (.Name (Str.ofString "len") np) (.val (.builtin "len")) := EvE.bl Z C (by decide +kernel) boot_len hk
  fun h0 A s Q E b ok R k => wpAny_Call_ofName (hf h0 A s _ E b ok R fun v h1 t1 s1 r1 => by
    obtain rfl : v = .builtin "len" := r1
    refine (Callee.blt "len").call Z.toBs b (hp _ _) (evalArgsM (hp _ _) (EvAs.one he hs h0 A _ pos _ E b ok (R.sub s1) fun vs h2 t2 s2 vrs => ⟨((R.sub s1).sub s2).keep, ?_⟩))
    revert vs; refine VRs.v ?_
    · skip
      obtain ⟨vs, hv, r⟩ := hm h0 _ b ((R.sub s1).sub s2).keep
      have hlen := r.length
      refine Calls.call_len_list hv (by simp; lia) ?_
      simp only [List.size_toArray, hlen]
      exact k _ _ _ (s1.trans s2) ⟨_, rfl⟩)

structure LawRuns (prog : Program) (w : World) (B : Heap → Prop) (env : Env) (sa P : Addr) (ps : Array Value) : Prop where
  run : ∀ ts, ts = lawBody → ExSs prog w B 6 ⟨env, lawNames, true⟩ ⟨[.ref sa] ++ List.replicate 20 .undef, [(P, .raw (tabObj ps))]⟩ ts (fun fl σ' => fl = .ret (.bool true) ∧ ∃ ps', TabOk 110 39 ps' ∧ (P, MO.raw (tabObj ps')) ∈ σ'.mem)

theorem law_body (Z : Base B mg mb fa) {T : Addr} {f : Int → Option Value} (Y : TabB prog w B mg T f) {cc P twin : Addr} (L : LamB B mg fa cc P twin) (TE : EntB B mg K Cl fI) (env : Env) (he : EnvC B (dfn 26) env) (script : List Int) (hs : script.length ≤ 1000) (hO : LawOk script) (sa : Addr) (hS : InB B sa (script.map .int)) (ps : Array Value) (ht : TabOk 110 39 ps) :
    LawRuns prog w B env sa P ps := by
  refine ⟨fun ts hts => ?_⟩
  rw [hts]
  clear hts ts
  have hpl : cellDfn (dfn 26) [Str.ofString "script"] lawNames = true := by decide +kernel
  have C := he.ok hpl
  have kl : env.kindOf (Str.ofString "len") = some .globalImplicit := kind_ofC he (by decide +kernel)
  have kr : env.kindOf (Str.ofString "range") = some .globalImplicit := kind_ofC he (by decide +kernel)
  -- own
  refine own_step ?_ ?_ ?_
  · exact C
  · kernel_rfl
  intro oa
  -- cells
  have K1 := CompOk.of (σ := ⟨[.ref sa, .ref oa] ++ List.replicate 19 .undef, [(oa, .lst (ownL.map PV.int)), (P, .raw (tabObj ps))]⟩) (frees := [Str.ofString "own", Str.ofString "script"]) (fvs := [.ref oa, .ref sa]) (x := Str.ofString "k") (scope := { kind := .function, names := [(Str.ofString ".0", .local), (Str.ofString "k", .local), (Str.ofString "len", .globalImplicit), (Str.ofString "own", .free), (Str.ofString "script", .free)], isGenerator := false, isCoroutine := false, more := [] }) he C (by decide +kernel) (FreeAt.get ⟨⟨1, rfl, rfl⟩, ⟨0, rfl, rfl⟩, trivial⟩)
  refine ExSs.letComp (m0 := [(oa, .lst (ownL.map PV.int)), (P, .raw (tabObj ps))]) (extra := []) (n := 24) _ _ 3 C rfl rfl Z.toBs K1 (swaps_local (by show env.blockKind = _; unfold Env.blockKind; rw [he.scope]; rfl) (kind_ofC he (by decide +kernel)) (by rfl) (by decide +kernel))
    (IterR.range1 (n := 24) Z C kr (EvE.int.eq rfl) (by decide)) (by decide) (fun i pvs m => pvs = ((cellsF script).take i).map PV.int ∧ m = [(oa, .lst (ownL.map PV.int)), (P, .raw (tabObj ps))]) ⟨rfl, rfl⟩ ?_ ?_
  · rintro i Lo _ _ hi ⟨rfl, rfl⟩
    have C' := K1.ok Lo
    have hown : ownL.length = 24 := rfl
    have e1 : (ownL.map PV.int)[(i : Int).toNat]? = some (.int (ownL.getD i 0)) := by
      rw [Int.toNat_natCast, List.getElem?_map, List.getD_eq_getElem?_getD, List.getElem?_eq_getElem (by lia)]; rfl
    refine ⟨true, EvF.nil, fun q => (by cases q), fun _ => ?_⟩
    refine EvE.m (EvE.bin (pb := .int (if i < script.length then script.getD i 0 else 0)) (EvE.idx (EvE.var 1 C' rfl rfl) (.head _) (EvE.var 0 C' rfl rfl) (by lia) (by lia) e1) ((EvE.ite (b := decide ((i : Int) < (script.length : Nat))) (p := .int (script.getD i 0)) (q := .int 0) (EvB.cmp (EvE.var 0 C' rfl rfl) ((EvE.lenB Z C' (kind_comp (by decide +kernel)) (EvE.var 2 C' rfl rfl) hS (by simp; lia)).eq (by simp)) CmpR.lt) (fun q => ?_) (fun _ => EvE.int)).eq ?_) BinR.add) ⟨?_, rfl⟩
    · have q' : i < script.length := by simpa using q
      have e2 : (script.map PV.int)[(i : Int).toNat]? = some (.int (script.getD i 0)) := by
        rw [Int.toNat_natCast, List.getElem?_map, List.getD_eq_getElem?_getD, List.getElem?_eq_getElem q']; rfl
      exact EvE.idxB (EvE.var 2 C' rfl rfl) hS (EvE.var 0 C' rfl rfl) (by lia) (by lia) e2
    · by_cases q : i < script.length
      · rw [if_pos q, if_pos (by simpa using q)]
      · rw [if_neg q, if_neg (by simpa using q)]
    · have hlt : i < (cellsF script).length := by unfold cellsF; simp; lia
      rw [List.take_add_one, List.getElem?_eq_getElem hlt, Option.toList_some, List.map_append]
      congr 1
      unfold cellsF
      simp
  rintro _ _ ca ⟨rfl, rfl⟩
  have hcl : (cellsF script).length = 24 := by unfold cellsF; simp
  rw [List.take_of_length_le (by lia)]
  have hmath := hO.math
  have horder := hO.order
  generalize hcells : cellsF script = cells at hcl hmath horder ⊢
  -- name
  refine ExSs.letM (P1 := fun pv m => ∃ g, pv = .str (nameF cells) ∧ m = g ++ [(ca, .lst (cells.map PV.int)), (oa, .lst (ownL.map PV.int)), (P, .raw (tabObj ps))]) 4 C rfl rfl
    (EvM.signs (xs := (cells.drop 15).take 7) (f := signN) Z.toBs he C (by decide +kernel) ((EvX.slice (l := some 15) (u := some 22) (EvE.var 3 C rfl rfl) (.head _) (EvP.s EvE.int) (EvP.s EvE.int) (by simp; lia)).eq (fdrop (cells := cells) (i := 15) (j := 22))) signN_len (by simp; lia) (fun L x m C' => ?_) (fun D => ⟨[(D, _)], rfl, rfl⟩)) rfl ?_
  · have hx0 : 0 ≤ x / 2 % 9 := Int.emod_nonneg _ (by decide)
    refine (EvE.sliceC (EvE.strL nameT) (l := some (x / 2 % 9)) (u := some (x / 2 % 9 + 1)) (EvP.s (EvE.bin (EvE.bin (EvE.var 0 C' rfl rfl) EvE.int (BinR.fdiv (by decide) (by decide))) EvE.int (BinR.mod (by decide)))) (EvP.s (EvE.bin (EvE.bin (EvE.bin (EvE.var 0 C' rfl rfl) EvE.int (BinR.fdiv (by decide) (by decide))) EvE.int (BinR.mod (by decide))) EvE.int BinR.add)) (by decide)).eq ?_
    rw [pySl_nat nameT (x / 2 % 9).toNat ((x / 2 % 9).toNat + 1) _ _ (by lia) (by lia), Nat.add_sub_cancel_left]
    rfl
  rintro _ _ ⟨g0, rfl, rfl⟩
  have hnl := nameF_len cells
  -- the two records
  refine ExSs.letK 5 C rfl rfl (EvM.newEntry Z TE (by decide) C (kind_ofC he (by decide +kernel)) fun x1 d1 u1 r1 es1 n1 h1 => ?_)
  refine ExSs.letK 6 C rfl rfl (EvM.newEntry Z TE (by decide) C (kind_ofC he (by decide +kernel)) fun x2 d2 u2 r2 es2 n2 h2 => ?_)
  refine ExSs.append (pv := .str cFig) (EvE.attr TE (EvE.var 5 C rfl rfl) (.tail _ (.tail _ (.tail _ (.tail _ (.head _))))) (.tail _ (.tail _ (.tail _ (.tail _ (.tail _ (.head _)))))) h1 (v := .ref u1) rfl (by decide +kernel) rfl) (EvE.strL cFig) (.tail (.tail (.tail (.tail (.tail (.tail .head)))))) (by simp) ?_
  refine ExSs.append (pv := .str cFig) (EvE.attr TE (EvE.var 6 C rfl rfl) (.head _) (.tail _ (.head _)) h2 (v := .ref u2) rfl (by decide +kernel) rfl) (EvE.strL cFig) (.tail (.tail .head)) (by simp) ?_
  refine ExSs.letNil 7 C rfl rfl fun fA => ?_
  refine ExSs.letNil 8 C rfl rfl fun vA => ?_
  -- the ledger in its order
  refine ExSs.perm (m' := [(oa, .lst (ownL.map PV.int))] ++ g0 ++ core Cl P ca fA vA x1 d1 u1 r1 x2 d2 u2 r2 es1 n1 es2 n2 cells [] [] (r1F cells (nameF cells) 0) (r2F cells (nameF cells) 0) ps) ?_ ?_
  · exact shuffle [(oa, .lst (ownL.map PV.int))] g0 [(P, MO.raw (tabObj ps))] [(ca, .lst (cells.map .int))] [(fA, .lst [])] [(vA, .lst [])] (entM Cl x1 d1 u1 r1 es1 n1 [.str cFig] []) (entM Cl x2 d2 u2 r2 es2 n2 [.str cFig] [])
  -- the loop
  refine ExSs.forCore (n := 3) Z.toBs (IterR.range1 (n := 3) Z C kr (EvE.int.eq rfl) (by decide))
    (fun i σ' => ∀ Q' : St → Prop, (∀ (p9 p10 p11 p12 p13 p14 p15 p16 p17 : PV) (ps : Array Value) (g : Ledger), TabOk 110 39 ps → Q' ⟨[.ref sa, .ref oa, .undef, .ref ca, .str (nameF cells), .ref x1, .ref x2, .ref fA, .ref vA, p9, p10, p11, p12, p13, p14, p15, p16, p17, .undef, .undef, .undef],
      g ++ core Cl P ca fA vA x1 d1 u1 r1 x2 d2 u2 r2 es1 n1 es2 n2 cells ((List.range i).map (dueD cells (nameF cells))) ((List.range i).map (verD cells)) (r1F cells (nameF cells) i) (r2F cells (nameF cells) i) ps⟩) → Q' σ') (fun _ k => k _ _ _ _ _ _ _ _ _ ps _ ht) ?_ ?_
  · intro i σ' hi
    revert σ'
    refine chE ?_
    intro p9 p10 p11 p12 p13 p14 p15 p16 p17 ps g ht
    refine ⟨_, AsgR.name 9 C rfl rfl, ExSs.genP fun R hR => ?_⟩
    refine law_turn Z Y L TE env he C cells hcl i hi (hmath i hi) h1 h2 _ _ (by simp; lia) (by simp; lia) _ _ (by unfold r1F rowsD; simp; lia) (by unfold r2F rowsD; simp; lia) ps ht g p10 p11 p12 p13 p14 p15 p16 p17 _ ?_
    intro g' ps' q10 q11 q12 q13 q14 q15 q16 q17 ht'
    refine hR .next _ fun Q' k => ?_
    rw [(rows_step cells (nameF cells) i).1, (rows_step cells (nameF cells) i).2]
    have := k (.int i) q10 q11 q12 q13 q14 q15 q16 q17 ps' g' ht'
    rw [List.range_succ, List.map_append, List.map_append] at this
    exact this
  · refine chE ?_
    intro p9 p10 p11 p12 p13 p14 p15 p16 p17 ps g ht
    refine ExSs.mono (law_tail Z TE env he C cells (nameF cells) hnl h1 h2 ((List.range 3).map (dueD cells (nameF cells))) ((List.range 3).map (verD cells)) (by simp) (by simp) (rowD cells (nameF cells) 0) (rowD cells (nameF cells) 1) (rowD cells (nameF cells) 2) rfl rfl rfl ps g p9 p10 p11 p12 p13 p14 p15 p16 p17 horder) ?_
    rintro fl σ' ⟨q1, q2⟩
    subst q1
    exact ⟨rfl, ps, ht, q2⟩
end
end Mine

/-! ## F3 -/
namespace Mine
noncomputable abbrev gh (c P : Addr) (hp : Heap) : Heap := ghostOf hp [(c, P)]
noncomputable abbrev looseL : List Str := looseW viewP looseN

noncomputable def vfind (n : Nat) : DefRec := ((recsOf viewP).find? fun e => e.name == (dfn n).name).getD ⟨Str.empty, ⟨[], [], none, [], [], none, []⟩, [], { kind := .function, names := [], isGenerator := false, isCoroutine := false, more := [] }, default⟩
structure VOk (n : Nat) : Prop where
  found : ((recsOf viewP).find? fun e => e.name == (dfn n).name).isSome = true
  same : ((vfind n).name, (vfind n).params, (vfind n).body, (vfind n).scope) = ((dfn n).name, (dfn n).params, (dfn n).body, (dfn n).scope)
theorem VOk.rec' {n : Nat} (h : VOk n) : ∃ d ∈ recsOf viewP, d.name = (dfn n).name ∧ d.params = (dfn n).params ∧ d.body = (dfn n).body ∧ d.scope = (dfn n).scope := by
  obtain ⟨d, hd'⟩ := Option.isSome_iff_exists.mp h.found
  have e : vfind n = d := by unfold vfind; rw [hd']; rfl
  have h2 := h.same
  rw [e] at h2
  simp only [Prod.mk.injEq] at h2
  exact ⟨d, List.mem_of_find?_eq_some hd', h2⟩
theorem vok : ∀ n ∈ defIdx, VOk n := by
  intro n hn
  simp only [defIdx, List.mem_cons, List.not_mem_nil, or_false] at hn
  rcases hn with rfl | rfl | rfl | rfl | rfl | rfl | rfl | rfl | rfl | rfl | rfl | rfl | rfl | rfl | rfl
  all_goals exact ⟨by kernel_rfl, by kernel_rfl⟩

theorem codeRec_ghost {hp : Heap} {c P : Addr} (hT : TabsAt [(c, P)] hp) {cd : Value} {q : Str} (h : hp.CodeRec cd q) : (gh c P hp).CodeRec cd q := by
  obtain ⟨c', o, vs, t, h1, h2, h3, h4⟩ := h
  refine ⟨c', o, vs, t, h1, ghost_get hT h2 (fun e => ?_), h3, h4⟩
  subst e
  injection h3 with h3
  subst h3
  simp at h4

noncomputable def faM (mg : Str → Option Value) (n : Nat) : Addr := match mg (dfn n).name with | some (.ref a) => a | _ => 0

section
variable {hp : Heap} {c P : Addr} {w : World} {mean : ExcName → Option Value} {mg mb : Str → Option Value}

theorem fn_entry (T : Top viewP looseL mean mg mb hp) (hT : TabsAt [(c, P)] hp) (n : Nat) (hn : n ∈ defIdx) :
    mg (dfn n).name = some (.ref (faM mg n)) ∧ ∃ o pm cd doc, o.data = .func (Calls.docDef (dfn n).name (dfn n).params (dfn n).body (dfn n).scope pm cd doc) ∧ hp.get? (faM mg n) = some o ∧ (gh c P hp).get? (faM mg n) = some o ∧ (gh c P hp).CodeRec cd (dfn n).name := by
  obtain ⟨d, hd', e1, e2, e3, e4⟩ := (vok n hn).rec'
  obtain ⟨a, o, pm, code, doc, h1, h2, h3, h4⟩ := T.fn d hd'
  rw [e1] at h1
  have hf : faM mg n = a := by unfold faM; rw [h1]
  rw [hf]
  refine ⟨h1, o, pm, code, doc, ?_, h2, ghost_get hT h2 (fun e => by rw [e] at h3; cases h3), codeRec_ghost hT (e1 ▸ h4)⟩
  rw [h3, e1, e2, e3, e4]

theorem base_entry (T : Top viewP looseL mean mg mb hp) (hT : TabsAt [(c, P)] hp) : Base (fun h => Sub (gh c P hp) h) mg mb (faM mg) where
  mono := fun h h' a b => a.trans b
  g := fun h b => (ghost_ns hT T.g).keeps b
  b := fun h b => (ghost_ns hT T.b).keeps b
  lim := fun h b => (ghost_top hT T).nolimit.keeps b
  defs := fun n hn => by
    obtain ⟨h1, o, pm, cd, doc, h2, h3, h4, h5⟩ := fn_entry T hT n hn
    exact ⟨h1, o, pm, cd, doc, h2, fun h b => ⟨b _ _ h4, h5.keeps b⟩⟩
  nog := fun x hx => by
    have q : (bltNames.all fun x => !(startupNames.contains x) && !(looseL.contains x) && !(((recsOf viewP).map (·.name)).contains x) && !(((litsOf viewP).map (·.1)).contains x) && !(((clssOf viewP looseL).map (·.name)).contains x)) = true := by decide +kernel
    have q2 := List.all_eq_true.mp q x hx
    simp only [Bool.and_eq_true, Bool.not_eq_true', List.contains_eq_mem, decide_eq_false_iff_not] at q2
    exact T.free x q2.1.1.1.1 q2.1.1.1.2 q2.1.1.2 q2.1.2 q2.2
  blt := fun x hx => by
    have q : (bltNames.all fun x => !(x == ("__name__" : Str))) = true := by decide +kernel
    have q2 := List.all_eq_true.mp q x hx
    exact T.builtins x (by simpa using q2)

noncomputable def tabO (P : Params) : Obj := ((fragK P).lookup 82).getD default
noncomputable def tabEs (P : Params) : Array DictEntry := match (tabO P).data with | .dict es _ => es | _ => #[]
noncomputable def tabN (P : Params) : Nat := match (tabO P).data with | .dict _ n => n | _ => 0
theorem keysOf_ints {prog : Program} {w : World} {es : Array DictEntry} (h : es.toList.all (fun e => match e.key with | .int i _ => e.hash == hashInt i | _ => false) = true) : PySem.KeysOf (intKind prog w) es := by
  intro e he
  have := List.all_eq_true.mp h e (Array.mem_toList_iff.mpr he)
  split at this
  · rename_i i t hk
    refine ⟨i, ?_, beq_iff_eq.mp this⟩
    rw [hk]
    show Value.isInt i (.int i t) = true
    simp [Value.isInt]
  · cases this

theorem tab_entry {prog : Program} (X : (fragK w.params).In hp) (T : Top viewP looseL mean mg mb hp) (hT : TabsAt [(c, P)] hp) (X' : (fragK w.params).In (gh c P hp)) :
    TabB prog w (fun h => Sub (gh c P hp) h) mg 82 (findBy (intKind prog w).is (tabEs w.params)) where
  name := mg_of X T.g (by kernel_rfl)
  sys := by decide +kernel
  map := fun h b => ⟨tabO w.params, tabEs w.params, tabN w.params, b _ _ (X' 82 (tabO w.params) (by kernel_rfl)), ⟨by kernel_rfl, by kernel_rfl, by kernel_rfl⟩, by kernel_rfl, keysOf_ints (by kernel_rfl), fun k => rfl⟩
  says := fun c hc => by
    unfold okC at hc
    rcases hc with rfl | rfl | rfl | rfl
    · exact .inl ⟨by kernel_rfl, rfl⟩
    · exact .inl ⟨by kernel_rfl, rfl⟩
    · exact .inr ⟨[92, 46], 439, by kernel_rfl, rfl, rfl⟩
    · exact .inr ⟨[92, 63], 391, by kernel_rfl, rfl, rfl⟩

theorem lam_entry (X : (fragK w.params).In hp) (T : Top viewP looseL mean mg mb hp) (hT : TabsAt [(c, P)] hp) (X' : (fragK w.params).In (gh c P hp)) (MX : Flt.MathXP viewP mg hp) (hcode : ∀ o fd, hp.get? (faM mg 13) = some o → o.data = .func fd → fd.code = .ref c) :
    ∃ twin, LamB (fun h => Sub (gh c P hp) h) mg (faM mg) c P twin := by
  obtain ⟨r, hr, e1, e2, e3, e4⟩ : ∃ r ∈ Flt.patsOf viewP, r.name = Str.ofString "_twin_re_1" ∧ r.groups = 1 ∧ r.kind = 0 ∧ r.code = twinCode := by
    refine ⟨((Flt.patsOf viewP).head?).getD ⟨Str.empty, [], 0, 0⟩, ?_, ?_⟩
    · have : ((Flt.patsOf viewP).head?).isSome = true := by kernel_rfl
      obtain ⟨r, hr⟩ := Option.isSome_iff_exists.mp this
      rw [hr, Option.getD_some]
      exact List.mem_of_head? hr
    · exact ⟨by kernel_rfl, by kernel_rfl, by kernel_rfl, by kernel_rfl⟩
  obtain ⟨twin, hm, hp'⟩ := MX.pats r hr
  refine ⟨twin, ?_, ?_, ?_, ?_, ?_⟩
  · obtain ⟨h1, o, pm, cd, doc, h2, h3, h4, h5⟩ := fn_entry T hT 13 (by decide)
    have hc' : cd = .ref c := hcode o _ h3 h2
    subst hc'
    exact ⟨o, pm, doc, h2, fun h b => ⟨b _ _ h4, h5.keeps b⟩⟩
  · intro h b
    have := ghost_code hT
    exact this.1.keeps b
  · intro h b
    obtain ⟨bm, ob, a1, a2, a3, a4, a5, a6⟩ := (ghost_top hT T).bmain
    exact ⟨bm, ob, a1, a2, b _ _ a3, a4, a5, a6⟩
  · rw [← e1]; exact hm
  · intro h b
    obtain ⟨fs, TT, ws, n, g1, g2, g3, g4, g5, g6⟩ := hp'
    rw [e2] at g3; rw [e3] at g4; rw [e4] at g6
    exact ⟨fs, TT, ws, n, b _ _ (ghost_get hT g1 (fun e => by cases e)), g2, g3, g4, b _ _ (ghost_get hT g5 (fun e => by cases e)), g6⟩

noncomputable def iniO (P : Params) : Obj := ((fragK P).lookup 52).getD default
noncomputable def iniF (P : Params) : FuncData := match (iniO P).data with | .func fd => fd | _ => default
noncomputable def iniC (P : Params) : Addr := match (iniF P).code with | .ref c => c | _ => 0
noncomputable def iniCO (P : Params) : Obj := ((fragK P).lookup (iniC P)).getD default
noncomputable def iniVs (P : Params) : Array Value := match (iniCO P).data with | .fields vs => vs | _ => #[]
noncomputable def iniT (P : Params) : Tok := match ((iniVs P)[1]? : Option Value) with | some (.str _ t) => t | _ => default

theorem ent_entry (X : (fragK w.params).In hp) (T : Top viewP looseL mean mg mb hp) (hT : TabsAt [(c, P)] hp) (X' : (fragK w.params).In (gh c P hp)) :
    EntB (fun h => Sub (gh c P hp) h) mg (fragK w.params) 76 52 where
  kin := fun h b a o e => b _ _ (X' a o e)
  name := mg_of X T.g (by kernel_rfl)
  makes := by kernel_rfl
  init := by kernel_rfl
  fnT := by kernel_rfl
  hasD := by kernel_rfl
  get := by kernel_rfl
  set := by kernel_rfl
  over := by kernel_rfl
  no := fun x hx => by
    simp only [attrN, List.map_cons, List.map_nil, List.mem_cons, List.not_mem_nil, or_false] at hx
    rcases hx with rfl | rfl | rfl | rfl
    all_goals kernel_rfl
  ini := by
    refine ⟨iniO w.params, iniF w.params, by kernel_rfl, fun h b => ⟨b _ _ (X' 52 (iniO w.params) (by kernel_rfl)), iniC w.params, iniCO w.params, iniVs w.params, iniT w.params, by kernel_rfl, b _ _ (X' _ (iniCO w.params) (by kernel_rfl)), by kernel_rfl, by kernel_rfl⟩, by kernel_rfl, by kernel_rfl, by kernel_rfl, by kernel_rfl, by kernel_rfl, by kernel_rfl, fun v => by kernel_rfl⟩

theorem CellsAre.get {cm : Str → Option Value} : ∀ {cs : List (Str × Addr)} {cells : List (Addr × Obj)}, CellsAre cm cs cells → ∀ {x : Str} {a : Addr}, cs.lookup x = some a → ∃ o, (a, o) ∈ cells ∧ o.data = .cell (cm x) := by
  intro cs cells h
  induction h with
  | nil => intro x a e; cases e
  | @cons n c o cs cells hd' _ ih =>
    intro x a e
    rw [List.lookup_cons] at e
    cases hb : x == n with
    | true =>
      rw [hb] at e
      cases e
      rw [beq_iff_eq.mp hb]
      exact ⟨o, .head _, hd'⟩
    | false =>
      rw [hb] at e
      obtain ⟨o', h1, h2⟩ := ih e
      exact ⟨o', .tail _ h1, h2⟩

theorem vrs_ints {h : Heap} : ∀ {vs : List Value} {ns : List Int}, IntsAre vs ns → VRs h (ns.map .int) vs := by
  intro vs ns x
  induction x with
  | nil => exact trivial
  | cons n t _ ih => exact ⟨⟨t, rfl⟩, ih⟩

theorem ExSs.run {prog : Program} {B : Heap → Prop} {d : Nat} {c : Cx} {σ : St} {ts : List Stmt} {P : FL → St → Prop} {h0 : Heap} {A : Around} {s : Shared} {Q : Flow → Shared → Prop} {E : Value → Shared → Prop} (h : ExSs prog w B d c σ ts P) (b : B h0) (ok : OkA d A) (R : Rel prog w c h0 σ s.heap)
    (k : ∀ fl σ' f h' tk, P fl σ' → Rel prog w c h0 σ' h' → FR h' fl f → Q f { s with heap := h', toks := tk }) : wpAny (model prog w) A (execs ts c.env) Q E s := h h0 A s Q E b ok R k
end
end Mine

/-! ## F3b -/
namespace Mine
section
variable {hp : Heap} {c P : Addr} {w : World} {mean : ExcName → Option Value} {mg mb : Str → Option Value}

theorem law_enter {prog : Program} (X : (fragK w.params).In hp) (T : Top viewP looseL mean mg mb hp) (MX : Flt.MathXP viewP mg hp) (hcode : ∀ o fd, hp.get? (faM mg 13) = some o → o.data = .func fd → fd.code = .ref c) (hT : TabsAt [(c, P)] hp) (X' : (fragK w.params).In (gh c P hp))
    (script : List Int) (hl : script.length ≤ 1000) (hO : LawOk script) {sa : Addr} {vals : List Value} (lifted : (gh c P hp).IsList sa vals.toArray) (hI : IntsAre vals script) {lbody : List Stmt} {lscope : Scope} {lname : Str} (eb : lbody = lawBody) (es : lscope = (dfn 26).scope) (en : lname = (dfn 26).name) {L fa : Addr} {cd : Value} (hcd : hp.CodeRec cd lname)
    {h₁ : Heap} {m cm : Str → Option Value} {cells : List (Addr × Obj)} (F : Fr (gh c P hp) L h₁ m) (X0 : CellsAre cm (cellsFrom (L + 1) lscope.names []) cells) (hcm : cm (Str.ofString "script") = some (.ref sa)) (N : News (gh c P hp) L h₁ (cells ++ tabNews [(c, P)]))
    {A : Around} (ok : OkA 6 A) {s : Shared} (hs : s.heap = h₁) {Q : Flow → Shared → Prop} {E : Value → Shared → Prop}
    (k : ∀ h' tk ps', Sub (gh c P hp) h' → h'.get? P = some (tabObj ps') → Q (.ret (.bool true)) { s with heap := h', toks := tk }) : wpAny (model prog w) A (execs lbody (envOfC lname lscope L fa cd)) Q E s := by
  obtain ⟨twin, LB⟩ := lam_entry X T hT X' MX hcode
  rw [es] at X0 ⊢
  rw [en] at hcd ⊢
  have hEnv : EnvC (fun h => Sub (gh c P hp) h) (dfn 26) (envOfC (dfn 26).name (dfn 26).scope L fa cd) := ⟨fun h b => (codeRec_ghost hT hcd).keeps b, rfl, rfl, rfl, rfl⟩
  have hS : InB (fun h => Sub (gh c P hp) h) sa (script.map .int) := fun h0 h b sub => ⟨vals, by
    obtain ⟨o, e, r⟩ := lifted
    exact ⟨o, sub _ _ (b _ _ e), r⟩, vrs_ints hI⟩
  have hNP : (gh c P hp).get? P = none := (N (P, tabObj #[]) (List.mem_append_right _ (.head _))).2.2
  have hP : h₁.get? P = some (tabObj #[]) := (N (P, tabObj #[]) (List.mem_append_right _ (.head _))).1
  have hcell : ∀ x a, (envOfC (dfn 26).name (dfn 26).scope L fa cd).cells.lookup x = some a → h₁.IsCell a (cm x) ∧ a ≠ P ∧ (gh c P hp).get? a = none := fun x a e => by
    obtain ⟨o, ho, hd'⟩ := CellsAre.get X0 e
    have n := N _ (List.mem_append_left _ ho)
    refine ⟨⟨o, n.1, hd'⟩, fun q => ?_, n.2.2⟩
    subst q
    have n1 := n.1
    rw [hP] at n1
    cases n1
    cases hd'
  have hL : (gh c P hp).get? L = none := by
    cases q : (gh c P hp).get? L with
    | none => rfl
    | some o => exact absurd (Nat.lt_of_lt_of_le (Heap.lt_size q) F.above) (Nat.lt_irrefl _)
  have hLP : L ≠ P := fun q => (N (P, tabObj #[]) (List.mem_append_right _ (.head _))).2.1 q.symm
  have hk : (envOfC (dfn 26).name (dfn 26).scope L fa cd).kindOf (Str.ofString "script") = some .cell := kind_ofC hEnv (by decide +kernel)
  have R : Rel prog w ⟨envOfC (dfn 26).name (dfn 26).scope L fa cd, lawNames, true⟩ (gh c P hp) ⟨[.ref sa] ++ List.replicate 20 .undef, [(P, .raw (tabObj #[]))]⟩ h₁ := by
    refine ⟨F.keep, fun kk pv e => ?_, ⟨fun p hp' => ?_, by simp⟩, ⟨m, F.ns⟩, ?_, hL, fun x a e => ⟨⟨_, (hcell x a e).1⟩, ?_⟩, fun _ x a e => (hcell x a e).2.2⟩
    · cases kk with
      | zero =>
        cases e
        obtain ⟨a, ha⟩ := hEnv.cell (x := Str.ofString "script") (by decide +kernel)
        exact .inr ⟨Str.ofString "script", .ref sa, rfl, .inr ⟨.inl hk, a, ha, hcm ▸ (hcell _ _ ha).1⟩, rfl⟩
      | succ kk =>
        have e' : (List.replicate 20 PV.undef)[kk]? = some pv := e
        exact .inl (List.eq_of_mem_replicate (List.mem_of_getElem? e'))
    · rw [List.mem_singleton.mp hp']
      refine ⟨⟨hP, ?_⟩, hNP⟩
      rintro (⟨q, -⟩ | ⟨q, -⟩) <;> cases q
    · show L ∉ [P]
      simpa using hLP
    · show a ∉ [P]
      simpa using (hcell x a e).2.1
  have Z := base_entry T hT
  have Y := tab_entry (prog := prog) X T hT X'
  have TE := ent_entry X T hT X'
  have R2 : Rel prog w ⟨envOfC (dfn 26).name (dfn 26).scope L fa cd, lawNames, true⟩ (gh c P hp) ⟨[.ref sa] ++ List.replicate 20 .undef, [(P, .raw (tabObj #[]))]⟩ s.heap := hs ▸ R
  have LR := law_body (prog := prog) Z Y LB TE _ hEnv script hl hO sa hS #[] (.inl rfl)
  refine ExSs.run (B := fun h => Sub (gh c P hp) h) (c := ⟨envOfC (dfn 26).name (dfn 26).scope L fa cd, lawNames, true⟩) (h0 := gh c P hp) (d := 6) (σ := ⟨[.ref sa] ++ List.replicate 20 .undef, [(P, .raw (tabObj #[]))]⟩) (P := fun fl σ' => fl = .ret (.bool true) ∧ ∃ ps', TabOk 110 39 ps' ∧ (P, MO.raw (tabObj ps')) ∈ σ'.mem) ?_ ?_ ok R2 ?_
  · exact LR.run lbody eb
  · exact Sub.rfl
  intro fl σ' f h' tk p R' fr
  obtain ⟨p1, ps', _, hm⟩ := p
  subst p1
  cases f with
  | ret v =>
    have hv : v = .bool true := fr
    subst hv
    exact k h' tk ps' R'.keep (R'.mem.at_ _ hm).1.1
  | _ => exact fr.elim
end
end Mine

/-! ## F4 -/
namespace Mine
set_option maxHeartbeats 2000000
theorem tab13 {hp : Heap} {mean : ExcName → Option Value} {mg mb : Str → Option Value} (T : Top viewP looseL mean mg mb hp) :
    ∃ c P, TabsAt [(c, P)] hp ∧ ∀ o fd, hp.get? (faM mg 13) = some o → o.data = .func fd → fd.code = .ref c := by
  obtain ⟨d, hd', e1, -, -, -⟩ := (vok 13 (by decide)).rec'
  obtain ⟨a, o, fd, c, P, h1, h2, h3, h4, h5, h6⟩ := T.tab d hd'
  rw [e1] at h1
  have hf : faM mg 13 = a := by unfold faM; rw [h1]
  refine ⟨c, P, List.forall_mem_cons.mpr ⟨⟨CodeHd.of h5 h6, h6.2⟩, fun _ h => nomatch h⟩, fun o' fd' ho hd => ?_⟩
  rw [hf, h2] at ho
  cases ho
  rw [h3] at hd
  cases hd
  exact h4

theorem row_of (hMath : ∀ script : List Int, LawOk script) : PySem.Challenge.rw_in0169_01.Holds := by
  refine holds_law said fun _ => ?_
  refine holds_open (q := viewP) (loose := looseN) (Xt := XtP) (XP := XL viewP []) (Yf := Hook.obs hookL) (Ya := Hook.val hookL) (YP := Hook.says hookL) (N := 4634) head_left (Hook.of hookL) (Hook.keeps hookL) (fun s e => xl_of s (Bool.and_eq_true_iff.mp e).1) XL.keeps (by rfl) (by rfl) (by rfl) (fun s e => recFacts_of (Bool.and_eq_true_iff.mp e).2) (by rfl) (by first | assumption | decide +kernel) (by decide +kernel) ⟨rfl, rfl, rfl, rfl, rfl, by decide +kernel⟩ ?hw ?hc
  case hw => w_witness2
  case hc =>
    intro w s₀ s₁ mg mb G Y fa o pm cd doc dV kV ho hd hcd hD hmg hg args vals as hpre hlay hrd hwl hlo
    have KX := kIn_of Y
    have MX := (Ground.X G).1
    refine Ground.open G ?_
    intro T B D TE TW
    obtain ⟨c, P, hT9, hcode⟩ := tab13 T
    clear hmg
    wrow_args hpre hlay hrd hwl hlo
    rename_i script hs hlay0 hL1 hr1 hl2 w11 w10 sa vals w7 hL ra w1 r0 hI hr hc1 hc2
    refine enter_call ?_
    refine kn_post hT9 (fun _ _ => rfl) ?_
    have he := Dflts.none hD rfl
    subst he
    have he2 := Dflts.noKw hD
    subst he2
    refine call_cellsN (by decide) ho (fd_plain hd) (Top.nolimit T) hcd rfl (kinds_of (by kinds_ok)) (by decide) fun h₁ tk₁ cells F N0 X0 => ?_
    have X' := ghost_K hT9 KX (by kernel_rfl)
    have N' := ghost_news hT9 F N0
    have F' := ghost_fr hT9 F
    refine law_enter (w := w) (hp := s₁.heap) (mg := mg) (mb := mb) KX T MX hcode hT9 X' script ?_ (hMath script) (ghost_list hT9 hL) hI ?_ ?_ ?_ hcd F' X0 ?_ N' ?_ rfl ?_
    · omega
    · kernel_rfl
    · kernel_rfl
    · kernel_rfl
    · rfl
    · exact ⟨rfl, Nat.le_of_ble_eq_true rfl, Nat.le_of_ble_eq_true rfl⟩
    · intro h' tk ps' hsub h120
      refine ⟨⟨.inl ⟨.bool true, .bool true, [], rfl, ?_, .bool true, ?_, ?_⟩, hsub, rfl, hg⟩, ⟨ps', h120⟩, trivial⟩
      · intro cls; rfl
      · kernel_rfl
      · intro _; exact ⟨List.nodup_nil, fun a ha => by cases ha⟩
end Mine

/-! ## M1 -/
namespace Mine
/-! a heap in a list -/
structure LOrd {α : Type} (lt : α → α → Bool) : Prop where
  asy : ∀ a b, lt a b = true → lt b a = false
  tr : ∀ a b c, lt b a = false → lt c b = false → lt c a = false
noncomputable def Kid (i j : Nat) : Prop := j = 2 * i + 1 ∨ j = 2 * i + 2
noncomputable def IsHeap {α : Type} (lt : α → α → Bool) (xs : List α) : Prop := ∀ i j a b, Kid i j → xs[i]? = some a → xs[j]? = some b → lt b a = false
structure HeapBut {α : Type} (lt : α → α → Bool) (p : Nat) (xs : List α) : Prop where
  a : ∀ i j a b, Kid i j → j ≠ p → i ≠ p → xs[i]? = some a → xs[j]? = some b → lt b a = false
  b : ∀ i j a b, Kid i p → Kid p j → xs[i]? = some a → xs[j]? = some b → lt b a = false

section
variable {α : Type} {lt : α → α → Bool}

theorem get_set_ne {xs : List α} {i j : Nat} {x : α} (h : i ≠ j) : (xs.set i x)[j]? = xs[j]? := List.getElem?_set_ne h
theorem get_set_self {xs : List α} {i : Nat} {x a : α} (h : (xs.set i x)[i]? = some a) : a = x := by
  rw [List.getElem?_set_self'] at h
  cases q : xs[i]? with
  | none => rw [q] at h; cases h
  | some b => rw [q] at h; simpa using h.symm

theorem sd_heap (O : LOrd lt) (x : α) (xs : List α) (pos : Nat) (hp : pos < xs.length) (hb : HeapBut lt pos xs) (hk : ∀ j b, Kid pos j → xs[j]? = some b → lt b x = false) : IsHeap lt (sdLoop lt 0 x xs pos) := by
  fun_induction sdLoop lt 0 x xs pos with
  | case1 xs pos h1 p hpar h2 ih =>
    have hq : Kid ((pos - 1) / 2) pos := by unfold Kid; lia
    have hqp : (pos - 1) / 2 ≠ pos := by lia
    refine ih (by simp; lia) ⟨fun i j a b hij hj hi ea eb => ?_, fun i j a b hi hj ea eb => ?_⟩ fun j b hj eb => ?_
    · by_cases hjp : j = pos
      · subst hjp; exact absurd (show i = (j - 1) / 2 by unfold Kid at hij; lia) hi
      · rw [get_set_ne (Ne.symm hjp)] at eb
        by_cases hip : i = pos
        · subst hip
          have := get_set_self ea
          subst this
          exact hb.b _ j a b hq hij hpar eb
        · rw [get_set_ne (Ne.symm hip)] at ea
          exact hb.a i j a b hij hjp hip ea eb
    · have hip : i ≠ pos := by unfold Kid at hi hj hq; lia
      rw [get_set_ne (Ne.symm hip)] at ea
      have h0 : lt p a = false := hb.a i _ a p hi (by lia) hip ea hpar
      by_cases hjp : j = pos
      · subst hjp
        have := get_set_self eb
        subst this; exact h0
      · rw [get_set_ne (Ne.symm hjp)] at eb
        exact O.tr _ _ _ h0 (hb.a _ j p b hj hjp hqp hpar eb)
    · by_cases hjp : j = pos
      · subst hjp
        have := get_set_self eb
        subst this; exact O.asy _ _ h2
      · rw [get_set_ne (Ne.symm hjp)] at eb
        exact O.tr _ _ _ (O.asy _ _ h2) (hb.a _ j p b hj hjp hqp hpar eb)
  | case2 xs pos h1 p hpar h2 =>
    have h2' : lt x p = false := by simpa using h2
    intro i j a b hij ea eb
    by_cases hjp : j = pos
    · subst hjp
      have := get_set_self eb
      subst this
      have hi : i = (j - 1) / 2 := by unfold Kid at hij; lia
      subst hi
      rw [get_set_ne (by lia), hpar] at ea
      cases ea; exact h2'
    · rw [get_set_ne (Ne.symm hjp)] at eb
      by_cases hip : i = pos
      · subst hip
        have := get_set_self ea
        subst this; exact hk j b hij eb
      · rw [get_set_ne (Ne.symm hip)] at ea
        exact hb.a i j a b hij hjp hip ea eb
  | case3 xs pos h1 h2 =>
    exfalso
    rw [List.getElem?_eq_none_iff] at h2; lia
  | case4 xs pos h1 =>
    have h0 : pos = 0 := by lia
    subst h0
    intro i j a b hij ea eb
    have hj0 : j ≠ 0 := by unfold Kid at hij; lia
    rw [get_set_ne (Ne.symm hj0)] at eb
    by_cases hip : i = 0
    · subst hip
      have := get_set_self ea
      subst this; exact hk j b hij eb
    · rw [get_set_ne (Ne.symm hip)] at ea
      exact hb.a i j a b hij hj0 hip ea eb

theorem su_heap (O : LOrd lt) (xs : List α) (pos : Nat) (hp : pos < xs.length) (hb : HeapBut lt pos xs) :
    HeapBut lt (suLoop lt xs pos).2 (suLoop lt xs pos).1 ∧ ¬ 2 * (suLoop lt xs pos).2 + 1 < (suLoop lt xs pos).1.length := by
  fun_induction suLoop lt xs pos with
  | case1 xs pos h ih =>
    have hs := suPick_lt lt xs pos h
    have hkid : Kid pos (suPick lt xs pos) := by
      unfold suPick Kid
      split
      · split <;> lia
      · lia
    have hget : xs[suPick lt xs pos]? = some (xs[suPick lt xs pos]'hs.2) := List.getElem?_eq_getElem hs.2
    -- the pick is the least of the two
    have hmin : ∀ j b, Kid pos j → xs[j]? = some b → lt b (xs[suPick lt xs pos]'hs.2) = false := by
      intro j b hj eb
      have hcase : j = suPick lt xs pos ∨ j ≠ suPick lt xs pos := by lia
      rcases hcase with q | q
      · subst q
        rw [hget] at eb; cases eb
        cases hx : lt (xs[suPick lt xs pos]'hs.2) (xs[suPick lt xs pos]'hs.2) with
        | false => rfl
        | true => have := O.asy _ _ hx; rw [hx] at this; cases this
      · revert q hget
        generalize hv : xs[suPick lt xs pos]'hs.2 = v
        unfold suPick
        intro hget q
        have e1 : xs[2 * pos + 1]? = some (xs[2 * pos + 1]'h) := List.getElem?_eq_getElem h
        rw [e1] at hget q
        cases e2 : xs[2 * pos + 2]? with
        | none =>
          rw [e2] at hget q
          dsimp only at q
          rcases hj with rfl | rfl
          · exact absurd rfl q
          · rw [e2] at eb; cases eb
        | some r =>
          rw [e2] at hget q
          dsimp only at hget q
          cases hl : lt (xs[2 * pos + 1]'h) r with
          | true =>
            rw [hl] at hget q
            simp only [Bool.not_true, Bool.false_eq_true, if_false] at hget q
            rcases hj with rfl | rfl
            · exact absurd rfl q
            · rw [e2] at eb; rw [e1] at hget
              cases eb; cases hget
              exact O.asy _ _ hl
          | false =>
            rw [hl] at hget q
            simp only [Bool.not_false, if_true] at hget q
            rcases hj with rfl | rfl
            · rw [e1] at eb; rw [e2] at hget
              cases eb; cases hget
              exact hl
            · exact absurd rfl q
    refine ih (by simp; lia) ⟨fun i j a b hij hj hi ea eb => ?_, fun i j a b hi hj ea eb => ?_⟩
    · by_cases hip : i = pos
      · subst hip
        have := get_set_self ea
        subst this
        have hjp : j ≠ i := by unfold Kid at hij; lia
        rw [get_set_ne (Ne.symm hjp)] at eb
        exact hmin j b hij eb
      · rw [get_set_ne (Ne.symm hip)] at ea
        by_cases hjp : j = pos
        · subst hjp
          have := get_set_self eb
          subst this
          exact hb.b i _ a _ hij hkid ea hget
        · rw [get_set_ne (Ne.symm hjp)] at eb
          exact hb.a i j a b hij hjp hip ea eb
    · have hi' : i = pos := by unfold Kid at hi hkid; lia
      subst hi'
      have := get_set_self ea
      subst this
      have hjp : j ≠ i := by unfold Kid at hj; lia
      rw [get_set_ne (Ne.symm hjp)] at eb
      exact hb.a _ j _ b hj hjp (by lia) hget eb
  | case2 xs pos h => exact ⟨hb, h⟩

theorem HeapBut.set {p : Nat} {xs : List α} (h : HeapBut lt p xs) (x : α) : HeapBut lt p (xs.set p x) := by
  refine ⟨fun i j a b hij hj hi ea eb => ?_, fun i j a b hi hj ea eb => ?_⟩
  · rw [get_set_ne (Ne.symm hi)] at ea
    rw [get_set_ne (Ne.symm hj)] at eb
    exact h.a i j a b hij hj hi ea eb
  · have h1 : p ≠ i := by unfold Kid at hi; lia
    have h2 : p ≠ j := by unfold Kid at hj; lia
    rw [get_set_ne h1] at ea
    rw [get_set_ne h2] at eb
    exact h.b i j a b hi hj ea eb

theorem siftup_heap (O : LOrd lt) (xs : List α) (x : α) (hp : 0 < xs.length) (hb : HeapBut lt 0 xs) : IsHeap lt (siftupF lt xs 0 x) := by
  obtain ⟨h1, h2⟩ := su_heap O xs 0 hp hb
  have hlt := (suLoop_spec lt xs 0).2 hp
  have hlen := (suLoop_spec lt xs 0).1
  unfold siftupF
  refine sd_heap O x _ _ (by rw [List.length_set]; lia) (h1.set x) fun j b hj eb => ?_
  exfalso
  have hj2 : (suLoop lt xs 0).1.length ≤ j := by unfold Kid at hj; lia
  rw [List.getElem?_eq_none (by rw [List.length_set]; exact hj2)] at eb
  cases eb

theorem set_perm' : ∀ {l : List α} {i : Nat} (h : i < l.length) (x : α), List.Perm (l.set i x) (x :: l.eraseIdx i)
  | [], i, h, x => by simp at h
  | a :: l, 0, _, x => List.Perm.refl _
  | a :: l, i + 1, h, x => by
    rw [List.set_cons_succ, List.eraseIdx_cons_succ]
    exact ((set_perm' (by simpa using h) x).cons a).trans (List.Perm.swap _ _ _)
theorem get_perm' : ∀ {l : List α} {i : Nat} {a : α}, l[i]? = some a → List.Perm (a :: l.eraseIdx i) l
  | [], i, a, h => by simp at h
  | b :: l, 0, a, h => by
    simp only [List.getElem?_cons_zero, Option.some.injEq] at h
    subst h; exact List.Perm.refl _
  | b :: l, i + 1, a, h => by
    rw [List.eraseIdx_cons_succ]
    exact (List.Perm.swap _ _ _).trans ((get_perm' (by simpa using h)).cons b)
theorem swap_perm {xs : List α} {pos q : Nat} {p x : α} (hq : xs[q]? = some p) (hp : pos < xs.length) (hne : q ≠ pos) : List.Perm ((xs.set pos p).set q x) (xs.set pos x) := by
  have hql : q < xs.length := (List.getElem?_eq_some_iff.mp hq).1
  have h1 : List.Perm ((xs.set pos p).set q x) (x :: (xs.set pos p).eraseIdx q) := set_perm' (by simpa using hql) x
  have h2 : List.Perm (p :: (xs.set pos p).eraseIdx q) (xs.set pos p) := get_perm' (by rw [get_set_ne (Ne.symm hne)]; exact hq)
  have h3 : List.Perm (xs.set pos p) (p :: xs.eraseIdx pos) := set_perm' hp p
  have h4 : List.Perm ((xs.set pos p).eraseIdx q) (xs.eraseIdx pos) := (h2.trans h3).cons_inv
  exact h1.trans ((h4.cons x).trans (set_perm' hp x).symm)

theorem sd_perm (start : Nat) (x : α) (xs : List α) (pos : Nat) (hp : pos < xs.length) : List.Perm (sdLoop lt start x xs pos) (xs.set pos x) := by
  fun_induction sdLoop lt start x xs pos with
  | case1 xs pos h1 p hpar h2 ih => exact (ih (by simp; lia)).trans (swap_perm hpar hp (by lia))
  | case2 xs pos h1 p hpar h2 => exact List.Perm.refl _
  | case3 xs pos h1 h2 => exact List.Perm.refl _
  | case4 xs pos h1 => exact List.Perm.refl _
theorem su_perm (x : α) (xs : List α) (pos : Nat) (hp : pos < xs.length) : List.Perm ((suLoop lt xs pos).1.set (suLoop lt xs pos).2 x) (xs.set pos x) := by
  fun_induction suLoop lt xs pos with
  | case1 xs pos h ih =>
    have hs := suPick_lt lt xs pos h
    exact (ih (by simpa using hs.2)).trans (swap_perm (List.getElem?_eq_getElem hs.2) hp (by lia))
  | case2 xs pos h => exact List.Perm.refl _
theorem siftup_perm (x : α) (xs : List α) (pos : Nat) (hp : pos < xs.length) : List.Perm (siftupF lt xs pos x) (xs.set pos x) := by
  have h := suLoop_spec lt xs pos
  unfold siftupF
  refine (sd_perm _ _ _ _ (by rw [List.length_set, h.1]; exact h.2 hp)).trans ?_
  rw [List.set_set]
  exact su_perm x xs pos hp

theorem push_perm (xs : List α) (x : α) : List.Perm (pushF lt xs x) (x :: xs) := by
  unfold pushF
  refine (sd_perm _ _ _ _ (by simp)).trans ?_
  have : (xs ++ [x]).set xs.length x = xs ++ [x] := by simp
  rw [this]
  exact List.perm_append_comm
theorem push_heap (O : LOrd lt) (xs : List α) (x : α) (h : IsHeap lt xs) : IsHeap lt (pushF lt xs x) := by
  unfold pushF
  have near : ∀ i a, i ≠ xs.length → (xs ++ [x])[i]? = some a → xs[i]? = some a := by
    intro i a hi e
    have hlt := (List.getElem?_eq_some_iff.mp e).1
    simp only [List.length_append, List.length_singleton] at hlt
    rwa [List.getElem?_append_left (by lia)] at e
  have far : ∀ j b, Kid xs.length j → ¬ (xs ++ [x])[j]? = some b := by
    intro j b hj e
    have hlt := (List.getElem?_eq_some_iff.mp e).1
    simp only [List.length_append, List.length_singleton] at hlt
    unfold Kid at hj; lia
  exact sd_heap O x _ _ (by simp) ⟨fun i j a b hij hj hi ea eb => h i j a b hij (near i a hi ea) (near j b hj eb), fun i j a b hi hj ea eb => absurd eb (far j b hj)⟩ fun j b hj eb => absurd eb (far j b hj)

theorem heap_min (O : LOrd lt) {xs : List α} (h : IsHeap lt xs) {a : α} (ha : xs[0]? = some a) : ∀ (j : Nat) (b : α), xs[j]? = some b → lt b a = false := by
  intro j
  induction j using Nat.strongRecOn with
  | ind j ih =>
    intro b eb
    by_cases h0 : j = 0
    · subst h0
      rw [ha] at eb; cases eb
      cases hx : lt a a with
      | false => rfl
      | true => have := O.asy _ _ hx; rw [hx] at this; cases this
    · have hlt := (List.getElem?_eq_some_iff.mp eb).1
      have hq : (j - 1) / 2 < xs.length := by lia
      have e := List.getElem?_eq_getElem hq
      exact O.tr _ _ _ (ih _ (by lia) _ e) (h _ j _ b (by unfold Kid; lia) e eb)

/-- a pop: the least, and what is left -/
theorem pop_spec (O : LOrd lt) (ys : List α) (l : α) (h : IsHeap lt (ys ++ [l])) :
    IsHeap lt (popF lt ys l).2 ∧ List.Perm ((popF lt ys l).1 :: (popF lt ys l).2) (ys ++ [l]) ∧ ∀ b ∈ (popF lt ys l).2, lt b (popF lt ys l).1 = false := by
  cases ys with
  | nil => exact ⟨fun i j a b _ ea _ => by simp [popF] at ea, List.Perm.refl _, fun b hb => by simp [popF] at hb⟩
  | cons y ys =>
    have hperm : List.Perm (siftupF lt (l :: ys) 0 l) (l :: ys) := siftup_perm l (l :: ys) 0 (by simp)
    refine ⟨?_, ?_, ?_⟩
    · show IsHeap lt (siftupF lt (l :: ys) 0 l)
      refine siftup_heap O _ _ (by simp) ⟨fun i j a b hij hj hi ea eb => ?_, fun i j a b hi => by unfold Kid at hi; lia⟩
      have up : ∀ i a, i ≠ 0 → (l :: ys)[i]? = some a → (y :: ys ++ [l])[i]? = some a := by
        intro i a hi e
        obtain ⟨k, rfl⟩ : ∃ k, i = k + 1 := ⟨i - 1, by lia⟩
        rw [List.getElem?_cons_succ] at e
        show (y :: (ys ++ [l]))[k + 1]? = some a
        rw [List.getElem?_cons_succ, List.getElem?_append_left (List.getElem?_eq_some_iff.mp e).1]
        exact e
      exact h i j a b hij (up i a hi ea) (up j b hj eb)
    · show List.Perm (y :: siftupF lt (l :: ys) 0 l) (y :: (ys ++ [l]))
      exact (hperm.trans (List.perm_append_comm (l₁ := [l]) (l₂ := ys))).cons y
    · intro b hb
      have hb' : b ∈ y :: ys ++ [l] := by
        have : b ∈ l :: ys := hperm.subset hb
        rcases List.mem_cons.mp this with rfl | q <;> simp [*]
      obtain ⟨j, hj⟩ := List.getElem?_of_mem hb'
      exact heap_min O h rfl j b hj
end
end Mine

/-! ## M2 -/
namespace Mine
theorem ltN_ord : LOrd ltN := ⟨fun a b h => by unfold ltN at *; simp at *; lia, fun a b c h1 h2 => by unfold ltN at *; simp at *; lia⟩
theorem seenT_iff (l : List Nat) (x : Nat) : seenT l x = true ↔ x ∈ l := by
  induction l with
  | nil => simp [seenT]
  | cons a l ih =>
    unfold seenT
    rw [Bool.or_eq_true, ih, decide_eq_true_eq, List.mem_cons]
    constructor
    · rintro (h | h)
      · exact .inr h
      · exact .inl (by lia)
    · rintro (h | h)
      · exact .inr (by lia)
      · exact .inl h

/-- a state of the run: pp has been let off, w was the last -/
structure RunI (pp ways seen : List Nat) : Prop where
  heap : IsHeap ltN ways
  nd : ways.Nodup
  see : ∀ x, x ∈ seen ↔ x ∈ pp ∨ x ∈ ways
  up : ∀ p ∈ pp, ∀ x ∈ ways, p < x
  inc : pp.Pairwise (· < ·)

theorem new_step {pp : List Nat} {st : List Nat × List Nat} (h : RunI pp st.1 st.2) (s : Nat) (hs : ∀ p ∈ pp, p < s) :
    RunI pp (wNew st s).1 (wNew st s).2 ∧ s ∈ (wNew st s).2 ∧ (∀ x ∈ st.2, x ∈ (wNew st s).2) ∧ ∀ x ∈ (wNew st s).1, x ∈ st.1 ∨ x = s := by
  unfold wNew
  by_cases q : seenT st.2 s = true
  · rw [if_pos q]
    exact ⟨h, (seenT_iff _ _).mp q, fun x hx => hx, fun x hx => .inl hx⟩
  · rw [if_neg q]
    have hn : s ∉ st.2 := fun e => q ((seenT_iff _ _).mpr e)
    have hp := push_perm (lt := ltN) st.1 s
    refine ⟨⟨push_heap ltN_ord _ _ h.heap, hp.nodup_iff.mpr (List.nodup_cons.mpr ⟨fun e => hn ((h.see s).mpr (.inr e)), h.nd⟩), fun x => ?_, fun p hpp x hx => ?_, h.inc⟩, .head _, fun x hx => .tail _ hx, fun x hx => ?_⟩
    · rw [List.mem_cons, h.see x, hp.mem_iff, List.mem_cons]
      constructor
      · rintro (e | e | e)
        · exact .inr (.inl e)
        · exact .inl e
        · exact .inr (.inr e)
      · rintro (e | e | e)
        · exact .inr (.inl e)
        · exact .inl e
        · exact .inr (.inr e)
    · rcases List.mem_cons.mp (hp.mem_iff.mp hx) with rfl | e
      · exact hs p hpp
      · exact h.up p hpp x e
    · rcases List.mem_cons.mp (hp.mem_iff.mp hx) with rfl | e
      · exact .inr rfl
      · exact .inl e
theorem new_steps {pp : List Nat} : ∀ (ss : List Nat) (st : List Nat × List Nat), RunI pp st.1 st.2 → (∀ s ∈ ss, ∀ p ∈ pp, p < s) →
    RunI pp (ss.foldl wNew st).1 (ss.foldl wNew st).2 ∧ (∀ s ∈ ss, s ∈ (ss.foldl wNew st).2) ∧ (∀ x ∈ st.2, x ∈ (ss.foldl wNew st).2) ∧ ∀ x ∈ (ss.foldl wNew st).1, x ∈ st.1 ∨ x ∈ ss
  | [], st, h, _ => ⟨h, fun s hs => (by cases hs), fun x hx => hx, fun x hx => .inl hx⟩
  | s :: ss, st, h, hs => by
    obtain ⟨h1, h2, h3, h4⟩ := new_step h s (hs s (.head _))
    obtain ⟨i1, i2, i3, i4⟩ := new_steps ss (wNew st s) h1 fun s' hs' => hs s' (.tail _ hs')
    refine ⟨i1, fun x hx => ?_, fun x hx => i3 x (h3 x hx), fun x hx => ?_⟩
    · rcases List.mem_cons.mp hx with rfl | hx
      · exact i3 _ h2
      · exact i2 x hx
    · rcases i4 x hx with e | e
      · rcases h4 x e with e | rfl
        · exact .inl e
        · exact .inr (.head _)
      · exact .inr (.tail _ e)

theorem inc_len : ∀ (l : List Nat) (a M : Nat), (∀ x ∈ l, a ≤ x ∧ x < M) → l.Pairwise (· < ·) → a ≤ M → l.length + a ≤ M
  | [], a, M, _, _, h => by simpa using h
  | x :: l, a, M, hb, hp, h => by
    obtain ⟨h1, h2⟩ := List.pairwise_cons.mp hp
    have hx := hb x (.head _)
    have := inc_len l (x + 1) M (fun y hy => ⟨h1 y hy, (hb y (.tail _ hy)).2⟩) h2 (by lia)
    simp only [List.length_cons]; lia

theorem wSteps_gt (ps : List Sg) (name : Sg) (w : Nat) : ∀ s ∈ wSteps ps name w, w < s := by
  intro s hs
  unfold wSteps at hs
  split at hs
  · cases hs
  · dsimp only at hs
    split at hs
    · split at hs
      · simp at hs; lia
      · simp at hs; lia
    · split at hs
      · simp at hs; lia
      · split at hs
        · simp at hs; lia
        · cases hs

/-- the run lets off, in rising order and each once, a closed set of reached states -/
theorem run_ok (ps : List Sg) (name : Sg) (M : Nat) (G : Nat → Prop) (hG : ∀ x, G x → x < M) (hGs : ∀ x, G x → ∀ s ∈ wSteps ps name x, G s) :
    ∀ (n : Nat) (pp ways seen ends : List Nat), RunI pp ways seen → (∀ x ∈ seen, G x) → (∀ p ∈ pp, ∀ s ∈ wSteps ps name p, s ∈ seen) → 0 ∈ seen → ends = pp.flatMap (wEnds ps) → M ≤ n + pp.length →
      ∃ pf : List Nat, endsRun ps name n ways seen ends = some (pf.flatMap (wEnds ps)) ∧ pf.Pairwise (· < ·) ∧ 0 ∈ pf ∧ (∀ p ∈ pf, ∀ s ∈ wSteps ps name p, s ∈ pf) ∧ ∀ x ∈ pf, G x := by
  intro n
  induction n with
  | zero =>
    intro pp ways seen ends h hg hc h0 he hM
    have hw : ways = [] := by
      cases ways with
      | nil => rfl
      | cons w ws =>
        exfalso
        have hw : w < M := hG w (hg w ((h.see w).mpr (.inr (.head _))))
        have hl : (pp ++ [w]).length + 0 ≤ M := inc_len (pp ++ [w]) 0 M (fun x hx => ⟨Nat.zero_le _, by
          rcases List.mem_append.mp hx with hx | hx
          · exact hG x (hg x ((h.see x).mpr (.inl hx)))
          · rw [List.mem_singleton.mp hx]; exact hw⟩) (List.pairwise_append.mpr ⟨h.inc, by simp, fun a ha b hb => by rw [List.mem_singleton.mp hb]; exact h.up a ha w (.head _)⟩) (Nat.zero_le _)
        simp at hl; lia
    subst hw
    refine ⟨pp, ?_, h.inc, ?_, fun p hp s hs => ?_, fun x hx => hg x ((h.see x).mpr (.inl hx))⟩
    · rw [endsRun, if_pos rfl, he]
    · rcases (h.see 0).mp h0 with e | e
      · exact e
      · cases e
    · rcases (h.see s).mp (hc p hp s hs) with e | e
      · exact e
      · cases e
  | succ n ih =>
    intro pp ways seen ends h hg hc h0 he hM
    by_cases hw : ways = []
    · subst hw
      refine ⟨pp, ?_, h.inc, ?_, fun p hp s hs => ?_, fun x hx => hg x ((h.see x).mpr (.inl hx))⟩
      · rw [endsRun, if_pos rfl, he]
      · rcases (h.see 0).mp h0 with e | e
        · exact e
        · cases e
      · rcases (h.see s).mp (hc p hp s hs) with e | e
        · exact e
        · cases e
    · rw [endsRun, if_neg hw]
      have hsplit : ways = ways.dropLast ++ [ways.getLastD 0] := by
        rcases List.eq_nil_or_concat ways with q | ⟨l, x, rfl⟩
        · exact absurd q hw
        · simp
      have hpop := pop_spec ltN_ord ways.dropLast (ways.getLastD 0) (by rw [← hsplit]; exact h.heap)
      rw [← hsplit] at hpop
      change IsHeap ltN (popL ways).2 ∧ List.Perm ((popL ways).1 :: (popL ways).2) ways ∧ ∀ b ∈ (popL ways).2, ltN b (popL ways).1 = false at hpop
      generalize hp1 : (popL ways).1 = w at hpop ⊢
      generalize hp2 : (popL ways).2 = ws at hpop ⊢
      obtain ⟨q1, q2, q3⟩ := hpop
      have hnd := List.nodup_cons.mp (q2.nodup_iff.mpr h.nd)
      have hgt : ∀ x ∈ ws, w < x := fun x hx => by
        have a := q3 x hx
        unfold ltN at a
        have b : x ≠ w := fun e => hnd.1 (e ▸ hx)
        simp at a; lia
      have hww : w ∈ ways := q2.mem_iff.mp (.head _)
      have hI : RunI (pp ++ [w]) ws seen := by
        refine ⟨q1, hnd.2, fun x => ?_, fun p hp x hx => ?_, List.pairwise_append.mpr ⟨h.inc, by simp, fun a ha b hb => by rw [List.mem_singleton.mp hb]; exact h.up a ha w hww⟩⟩
        · rw [h.see x, ← q2.mem_iff, List.mem_cons, List.mem_append, List.mem_singleton]
          constructor
          · rintro (e | e | e)
            · exact .inl (.inl e)
            · exact .inl (.inr e)
            · exact .inr e
          · rintro ((e | e) | e)
            · exact .inl e
            · exact .inr (.inl e)
            · exact .inr (.inr e)
        · rcases List.mem_append.mp hp with hp | hp
          · exact h.up p hp x (q2.mem_iff.mp (.tail _ hx))
          · rw [List.mem_singleton.mp hp]; exact hgt x hx
      have hst : ∀ s ∈ wSteps ps name w, ∀ p ∈ pp ++ [w], p < s := fun s hs p hp => by
        have a := wSteps_gt ps name w s hs
        rcases List.mem_append.mp hp with hp | hp
        · have := h.up p hp w hww; lia
        · rw [List.mem_singleton.mp hp]; exact a
      obtain ⟨r1, r2, r3, r4⟩ := new_steps (wSteps ps name w) (ws, seen) hI hst
      have hgw : G w := hg w ((h.see w).mpr (.inr hww))
      refine ih (pp ++ [w]) _ _ _ r1 (fun x hx => ?_) (fun p hp s hs => ?_) (r3 0 h0) (by rw [he, List.flatMap_append]; simp) (by simp; lia)
      · rcases (r1.see x).mp hx with e | e
        · exact hg x ((hI.see x).mpr (.inl e))
        · rcases r4 x e with e | e
          · exact hg x ((hI.see x).mpr (.inr e))
          · exact hGs w hgw x e
      · rcases List.mem_append.mp hp with hp | hp
        · exact r3 s (hc p hp s hs)
        · rw [List.mem_singleton.mp hp] at hs
          exact r2 s hs

theorem sorted_ext : ∀ {l1 l2 : List Nat}, l1.Pairwise (· < ·) → l2.Pairwise (· < ·) → (∀ x, x ∈ l1 ↔ x ∈ l2) → l1 = l2
  | [], [], _, _, _ => rfl
  | [], b :: l2, _, _, h => by have := (h b).mpr (.head _); cases this
  | a :: l1, [], _, _, h => by have := (h a).mp (.head _); cases this
  | a :: l1, b :: l2, h1, h2, h => by
    obtain ⟨p1, p2⟩ := List.pairwise_cons.mp h1
    obtain ⟨q1, q2⟩ := List.pairwise_cons.mp h2
    have hab : a = b := by
      rcases List.mem_cons.mp ((h a).mp (.head _)) with e | e
      · exact e
      · rcases List.mem_cons.mp ((h b).mpr (.head _)) with e' | e'
        · exact e'.symm
        · have := q1 a e; have := p1 b e'; lia
    subst hab
    congr 1
    refine sorted_ext p2 q2 fun x => ⟨fun hx => ?_, fun hx => ?_⟩
    · rcases List.mem_cons.mp ((h x).mp (.tail _ hx)) with e | e
      · have := p1 x hx; lia
      · exact e
    · rcases List.mem_cons.mp ((h x).mpr (.tail _ hx)) with e | e
      · have := q1 x hx; lia
      · exact e
end Mine

/-! ## M3 -/
namespace Mine
/-! what a pattern reaches: sets of places -/
inductive Tk where
  | sg (c : Nat)
  | hd
  | sh
  | fr
noncomputable def Tk.txt (e : Nat → Sg) : Tk → Sg
  | .sg c => e c
  | .hd => [40, 63, 62, 46, 42, 63]
  | .sh => [41]
  | .fr => [46, 42]
noncomputable def Tk.pc : Tk → Sg
  | .sg c => [c]
  | .hd => cHeld
  | .sh => cShut
  | .fr => cFar
noncomputable def itT (c : Nat) : Sg := if c = 63 then [91, 63, 93] else escC c
structure GoodE (e : Nat → Sg) : Prop where
  pc : ∀ c, okC c → ∀ rest, piecesF (e c ++ rest) = [c] :: piecesF rest
  hd : ∀ c, okC c → ∃ x r, e c = x :: r ∧ x ≠ 63
theorem pc_97 (c : Nat) (hc : c = 97 ∨ c = 98) (rest : Sg) : piecesF (c :: rest) = [c] :: piecesF rest := by
  rw [piecesF]
  rcases hc with rfl | rfl <;> simp
theorem pc_92 (c : Nat) (rest : Sg) : piecesF (92 :: c :: rest) = [c] :: piecesF rest := by
  rw [piecesF]; simp
theorem pc_91 (c d : Nat) (rest : Sg) : piecesF (91 :: c :: d :: rest) = [c] :: piecesF rest := by
  rw [piecesF]; simp
theorem goodE_esc : GoodE escC where
  pc := fun c hc rest => by
    unfold okC at hc
    unfold escC
    rcases hc with rfl | rfl | rfl | rfl
    · exact pc_97 97 (.inl rfl) rest
    · exact pc_97 98 (.inr rfl) rest
    · exact pc_92 46 rest
    · exact pc_92 63 rest
  hd := fun c hc => by
    unfold okC at hc
    unfold escC
    rcases hc with rfl | rfl | rfl | rfl
    · exact ⟨97, [], rfl, by decide⟩
    · exact ⟨98, [], rfl, by decide⟩
    · exact ⟨92, [46], rfl, by decide⟩
    · exact ⟨92, [63], rfl, by decide⟩
theorem goodE_it : GoodE itT where
  pc := fun c hc rest => by
    unfold itT
    by_cases h : c = 63
    · rw [if_pos h, h]; exact pc_91 63 93 rest
    · rw [if_neg h]; exact goodE_esc.pc c hc rest
  hd := fun c hc => by
    unfold itT
    by_cases h : c = 63
    · rw [if_pos h]; exact ⟨91, [63, 93], rfl, by decide⟩
    · rw [if_neg h]; exact goodE_esc.hd c hc

noncomputable abbrev Tks (ts : List Tk) : Prop := ∀ c, Tk.sg c ∈ ts → okC c
theorem txt_head {e : Nat → Sg} (G : GoodE e) : ∀ (ts : List Tk), Tks ts → ∀ r, ts.flatMap (Tk.txt e) ≠ 63 :: r
  | [], _, r, h => by cases h
  | t :: ts, ok, r, h => by
    rw [List.flatMap_cons] at h
    cases t with
    | sg c =>
      obtain ⟨x, r', e1, e2⟩ := G.hd c (ok c (.head _))
      have h' : e c ++ ts.flatMap (Tk.txt e) = 63 :: r := h
      rw [e1] at h'
      injection h' with h1 h2
      exact e2 h1
    | hd => injection h with h1 h2; cases h1
    | sh => injection h with h1 h2; cases h1
    | fr => injection h with h1 h2; cases h1
theorem pieces_toks {e : Nat → Sg} (G : GoodE e) : ∀ (ts : List Tk), Tks ts → piecesF (ts.flatMap (Tk.txt e)) = ts.map Tk.pc
  | [], _ => by simp [piecesF]
  | t :: ts, ok => by
    have ih := pieces_toks G ts fun c hc => ok c (.tail _ hc)
    rw [List.flatMap_cons, List.map_cons, ← ih]
    have hh := txt_head G ts fun c hc => ok c (.tail _ hc)
    generalize ts.flatMap (Tk.txt e) = rest at hh ⊢
    cases t with
    | sg c => exact G.pc c (ok c (.head _)) rest
    | hd =>
      show piecesF (40 :: 63 :: 62 :: 46 :: 42 :: 63 :: rest) = _
      rw [piecesF]; simp; rfl
    | sh =>
      show piecesF (41 :: rest) = _
      rw [piecesF]; simp; rfl
    | fr =>
      show piecesF (46 :: 42 :: rest) = _
      rw [piecesF]
      cases rest with
      | nil => simp; rfl
      | cons x r =>
        have hx : x ≠ 63 := fun e => hh r (by rw [e])
        simp [hx]; rfl

noncomputable def upS (name : Sg) (X : Nat → Prop) : Nat → Prop := fun k => k ≤ name.length ∧ ∃ a, a ≤ k ∧ X a
noncomputable def shS (name : Sg) (c : Nat) (X : Nat → Prop) : Nat → Prop := fun k => ∃ a, k = a + 1 ∧ X a ∧ (name.drop a).take 1 = [c]
noncomputable def eff1 (name : Sg) (X : Nat → Prop) : Tk → Nat → Prop
  | .sg c => shS name c X
  | .sh => X
  | .hd => upS name X
  | .fr => upS name X
noncomputable def eff (name : Sg) (ts : List Tk) (X : Nat → Prop) : Nat → Prop := ts.foldl (eff1 name) X
noncomputable def effI1 (name : Sg) (X : Nat → Prop) : Option Nat → Nat → Prop
  | none => upS name X
  | some c => shS name c X
noncomputable def effI (name : Sg) (l : List (Option Nat)) (X : Nat → Prop) : Nat → Prop := l.foldl (effI1 name) X
noncomputable def itN (c : Nat) : Option Nat := if c = 42 then none else some c
noncomputable def effS (name : Sg) (sh : Sg) (X : Nat → Prop) : Nat → Prop := sh.foldl (fun X c => effI1 name X (itN c)) X
theorem up_up (name : Sg) (X : Nat → Prop) : upS name (upS name X) = upS name X := by
  funext k; unfold upS; apply propext
  constructor
  · rintro ⟨h, a, ha, _, b, hb, hx⟩; exact ⟨h, b, by lia, hx⟩
  · rintro ⟨h, a, ha, hx⟩; exact ⟨h, k, Nat.le_refl _, h, a, ha, hx⟩

noncomputable def stepC (acc : List (Option Nat)) (c : Nat) : List (Option Nat) := if c = 42 ∧ acc.getLast? = some none then acc else acc ++ [itN c]
noncomputable def trC (sh : Sg) : List (Option Nat) := sh.foldl stepC []
noncomputable abbrev mapT (l : List (Option Nat)) : List (Option Sg) := l.map (Option.map itT)
theorem last_map (l : List (Option Nat)) : ((mapT l).getLast? = some none) ↔ l.getLast? = some none := by
  rw [List.getLast?_map]
  cases l.getLast? with
  | none => simp
  | some o => cases o <;> simp
theorem stepC_map (acc : List (Option Nat)) (c : Nat) : stepI (mapT acc) c = mapT (stepC acc c) := by
  unfold stepI stepC
  by_cases h : c = 42 ∧ acc.getLast? = some none
  · rw [if_pos h, if_pos ⟨h.1, (last_map acc).mpr h.2⟩]
  · rw [if_neg h, if_neg (fun q => h ⟨q.1, (last_map acc).mp q.2⟩)]
    show mapT acc ++ [itC c] = List.map _ (acc ++ [itN c])
    rw [List.map_append]
    congr 1
    unfold itC itN itT
    by_cases h1 : c = 42
    · rw [if_pos h1, if_pos h1]; rfl
    · rw [if_neg h1, if_neg h1]
      by_cases h2 : c = 63
      · rw [if_pos h2]; simp [h2]
      · rw [if_neg h2]; simp [h2]
theorem trC_map (sh : Sg) : ∀ acc, sh.foldl stepI (mapT acc) = mapT (sh.foldl stepC acc) := by
  induction sh with
  | nil => intro acc; rfl
  | cons c r ih => intro acc; rw [List.foldl_cons, List.foldl_cons, stepC_map, ih]
theorem trC_eff (name : Sg) (X : Nat → Prop) (sh : Sg) : ∀ acc, effI name (sh.foldl stepC acc) X = effS name sh (effI name acc X) := by
  induction sh with
  | nil => intro acc; rfl
  | cons c r ih =>
    intro acc
    rw [List.foldl_cons, ih]
    show effS name r _ = effS name r _
    congr 1
    unfold stepC
    by_cases h : c = 42 ∧ acc.getLast? = some none
    · rw [if_pos h]
      rcases List.eq_nil_or_concat acc with rfl | ⟨l, o, rfl⟩
      · cases h.2
      · rw [List.concat_eq_append] at h ⊢
        have ho : o = none := by simpa using h.2
        subst ho
        have hi : itN c = none := by unfold itN; rw [if_pos h.1]
        show effI name (l ++ [none]) X = effI1 name (effI name (l ++ [none]) X) (itN c)
        rw [hi]
        unfold effI
        rw [List.foldl_append]
        exact (up_up name _).symm
    · rw [if_neg h]
      unfold effI
      rw [List.foldl_append]; rfl
theorem trC_len (sh : Sg) : ∀ acc, (sh.foldl stepC acc).length ≤ acc.length + sh.length := by
  induction sh with
  | nil => intro acc; simp
  | cons c r ih =>
    intro acc
    rw [List.foldl_cons]
    have := ih (stepC acc c)
    have h2 : (stepC acc c).length ≤ acc.length + 1 := by unfold stepC; split <;> simp
    simp only [List.length_cons]; lia
theorem trC_ok (sh : Sg) : ∀ acc, (∀ c, some c ∈ acc → okC c) → (∀ c ∈ sh, shC c) → ∀ c, some c ∈ sh.foldl stepC acc → okC c := by
  induction sh with
  | nil => intro acc h _; exact h
  | cons c r ih =>
    intro acc h hs
    rw [List.foldl_cons]
    refine ih _ (fun x hx => ?_) fun x hx => hs x (.tail _ hx)
    unfold stepC at hx
    split at hx
    · exact h x hx
    · rcases List.mem_append.mp hx with hx | hx
      · exact h x hx
      · have hx := List.mem_singleton.mp hx
        unfold itN at hx
        split at hx
        · cases hx
        · rename_i h42
          cases hx
          rcases hs _ (.head _) with q | q
          · exact q
          · exact absurd q h42

/-- the signs of a run without stars -/
theorem some_run (name : Sg) : ∀ (s : List (Option Nat)), (∀ o ∈ s, o.isSome = true) → (textsOf (mapT s)).flatten = ((s.filterMap id).map Tk.sg).flatMap (Tk.txt itT) ∧ (∀ X, eff name ((s.filterMap id).map Tk.sg) X = effI name s X) ∧ ((s.filterMap id).map Tk.sg).length = s.length
  | [], _ => ⟨rfl, fun _ => rfl, rfl⟩
  | none :: s, h => by have := h none (.head _); cases this
  | some c :: s, h => by
    obtain ⟨i1, i2, i3⟩ := some_run name s fun o ho => h o (.tail _ ho)
    refine ⟨?_, fun X => ?_, ?_⟩
    · show itT c ++ (textsOf (mapT s)).flatten = itT c ++ ((s.filterMap id).map Tk.sg).flatMap (Tk.txt itT)
      rw [i1]
    · exact i2 (shS name c X)
    · show ((s.filterMap id).map Tk.sg).length + 1 = s.length + 1
      rw [i3]
theorem tw_map (l : List (Option Nat)) : (mapT l).takeWhile (·.isSome) = mapT (l.takeWhile (·.isSome)) ∧ (mapT l).dropWhile (·.isSome) = mapT (l.dropWhile (·.isSome)) := by
  induction l with
  | nil => exact ⟨rfl, rfl⟩
  | cons o l ih =>
    cases o with
    | none => exact ⟨rfl, rfl⟩
    | some c =>
      constructor
      · show some (itT c) :: (mapT l).takeWhile (·.isSome) = some (itT c) :: mapT (l.takeWhile (·.isSome))
        rw [ih.1]
      · show (mapT l).dropWhile (·.isSome) = mapT (l.dropWhile (·.isSome))
        exact ih.2
theorem tw_some (l : List (Option Nat)) : ∀ o ∈ l.takeWhile (·.isSome), o.isSome = true := by
  induction l with
  | nil => intro o h; cases h
  | cons x l ih =>
    intro o h
    cases x with
    | none => cases h
    | some c =>
      have h' : o ∈ some c :: l.takeWhile (·.isSome) := h
      rcases List.mem_cons.mp h' with rfl | h'
      · rfl
      · exact ih o h'
theorem dw_head (l : List (Option Nat)) : l.dropWhile (·.isSome) = [] ∨ ∃ r, l.dropWhile (·.isSome) = none :: r := by
  induction l with
  | nil => exact .inl rfl
  | cons x l ih =>
    cases x with
    | none => exact .inr ⟨l, rfl⟩
    | some c => exact ih

theorem toks_tail (name : Sg) : ∀ (n : Nat) (l : List (Option Nat)), l.length ≤ n → (∀ c, some c ∈ l → okC c) → (l = [] ∨ ∃ r, l = none :: r) →
    ∃ ts : List Tk, (joinTail (mapT l)).flatten = ts.flatMap (Tk.txt itT) ∧ Tks ts ∧ (∀ X, eff name ts X = effI name l X) ∧ ts.length ≤ 2 * l.length := by
  intro n
  induction n with
  | zero =>
    intro l hl _ _
    obtain rfl : l = [] := List.length_eq_zero_iff.mp (by lia)
    exact ⟨[], by simp [joinTail], (fun c h => by cases h), fun _ => rfl, by simp⟩
  | succ n ih =>
    intro l hl ok hh
    rcases hh with rfl | ⟨r, rfl⟩
    · exact ⟨[], by simp [joinTail], (fun c h => by cases h), fun _ => rfl, by simp⟩
    cases r with
    | nil => exact ⟨[.fr], by simp [joinTail, Tk.txt], (fun c h => by simp at h), fun _ => rfl, by simp⟩
    | cons y r =>
      have hok : ∀ c, some c ∈ y :: r → okC c := fun c hc => ok c (.tail _ hc)
      obtain ⟨t1, t2⟩ := tw_map (y :: r)
      have hsplit : (y :: r).takeWhile (·.isSome) ++ (y :: r).dropWhile (·.isSome) = y :: r := List.takeWhile_append_dropWhile
      obtain ⟨s1, s2, s3⟩ := some_run name ((y :: r).takeWhile (·.isSome)) (tw_some (y :: r))
      have hd := dw_head (y :: r)
      have hje : joinTail (mapT (none :: y :: r)) = if (mapT (y :: r)).dropWhile (·.isSome) = [] then [[46, 42], (textsOf ((mapT (y :: r)).takeWhile (·.isSome))).flatten]
          else holdF (textsOf ((mapT (y :: r)).takeWhile (·.isSome))).flatten :: joinTail ((mapT (y :: r)).dropWhile (·.isSome)) := by
        show joinTail (none :: y.map itT :: mapT r) = _
        rw [joinTail]; rfl
      have hlen : ((y :: r).takeWhile (·.isSome)).length + ((y :: r).dropWhile (·.isSome)).length = (y :: r).length := by rw [← List.length_append, hsplit]
      have heff : ∀ X, effI name (none :: y :: r) X = effI name ((y :: r).dropWhile (·.isSome)) (effI name ((y :: r).takeWhile (·.isSome)) (upS name X)) := fun X => by
        rw [← hsplit]
        show List.foldl _ _ _ = _
        rw [List.foldl_cons, List.foldl_append]
        rw [hsplit]
        rfl
      have hokd : ∀ c, some c ∈ (y :: r).dropWhile (·.isSome) → okC c := fun c hc => hok c (by rw [← hsplit]; exact List.mem_append_right _ hc)
      have hoks : Tks ((((y :: r).takeWhile (·.isSome)).filterMap id).map Tk.sg) := fun c hc => by
        obtain ⟨c', h1, h2⟩ := List.mem_map.mp hc
        cases h2
        obtain ⟨o, h3, h4⟩ := List.mem_filterMap.mp h1
        have h4' : o = some c := h4
        subst h4'
        exact hok c (by rw [← hsplit]; exact List.mem_append_left _ h3)
      rw [hje, t1, t2]
      generalize (y :: r).takeWhile (·.isSome) = s at *
      generalize (y :: r).dropWhile (·.isSome) = t at *
      rcases hd with rfl | ⟨t', rfl⟩
      · rw [if_pos (show mapT [] = [] from rfl)]
        refine ⟨.fr :: (s.filterMap id).map Tk.sg, ?_, ?_, fun X => ?_, ?_⟩
        · rw [List.flatMap_cons, ← s1]; simp [Tk.txt]
        · intro c hc
          rcases List.mem_cons.mp hc with hc | hc
          · cases hc
          · exact hoks c hc
        · rw [heff X]
          show eff name ((s.filterMap id).map Tk.sg) (upS name X) = _
          rw [s2]; rfl
        · simp only [List.length_cons] at hlen ⊢; rw [s3]; simp at hlen; lia
      · rw [if_neg (by simp)]
        obtain ⟨ts', i1, i2, i3, i4⟩ := ih (none :: t') (by simp only [List.length_cons] at hl hlen ⊢; lia) hokd (.inr ⟨t', rfl⟩)
        refine ⟨.hd :: ((s.filterMap id).map Tk.sg ++ .sh :: ts'), ?_, ?_, fun X => ?_, ?_⟩
        · rw [List.flatten_cons, i1, List.flatMap_cons, List.flatMap_append, ← s1, List.flatMap_cons]
          unfold holdF
          simp [Tk.txt]
        · intro c hc
          rcases List.mem_cons.mp hc with hc | hc
          · cases hc
          · rcases List.mem_append.mp hc with hc | hc
            · exact hoks c hc
            · rcases List.mem_cons.mp hc with hc | hc
              · cases hc
              · exact i2 c hc
        · rw [heff X]
          show List.foldl _ (upS name X) _ = _
          rw [List.foldl_append]
          have e1 : List.foldl (eff1 name) (upS name X) ((s.filterMap id).map Tk.sg) = effI name s (upS name X) := s2 _
          rw [e1]
          exact i3 _
        · simp only [List.length_cons, List.length_append] at hlen i4 ⊢; rw [s3]; lia

theorem toks_shell (name sh : Sg) (hs : ∀ c ∈ sh, shC c) :
    ∃ ts : List Tk, piecesF (joinAll (trF sh)).flatten = ts.map Tk.pc ∧ Tks ts ∧ (∀ X, eff name ts X = effS name sh X) ∧ ts.length ≤ 2 * sh.length := by
  have h1 : trF sh = mapT (trC sh) := trC_map sh []
  have h2 : ∀ X, effI name (trC sh) X = effS name sh X := fun X => trC_eff name X sh []
  have h3 : (trC sh).length ≤ sh.length := by have := trC_len sh []; simpa [trC] using this
  have h4 : ∀ c, some c ∈ trC sh → okC c := trC_ok sh [] (fun c h => by cases h) hs
  rw [h1]
  generalize trC sh = l at *
  obtain ⟨t1, t2⟩ := tw_map l
  have hsplit : l.takeWhile (·.isSome) ++ l.dropWhile (·.isSome) = l := List.takeWhile_append_dropWhile
  obtain ⟨s1, s2, s3⟩ := some_run name (l.takeWhile (·.isSome)) (tw_some l)
  obtain ⟨ts', i1, i2, i3, i4⟩ := toks_tail name _ (l.dropWhile (·.isSome)) (Nat.le_refl _) (fun c hc => h4 c (by rw [← hsplit]; exact List.mem_append_right _ hc)) (dw_head l)
  have hlen : (l.takeWhile (·.isSome)).length + (l.dropWhile (·.isSome)).length = l.length := by rw [← List.length_append, hsplit]
  have hoks : Tks (((l.takeWhile (·.isSome)).filterMap id).map Tk.sg ++ ts') := fun c hc => by
    rcases List.mem_append.mp hc with hc | hc
    · obtain ⟨c', h1, h2⟩ := List.mem_map.mp hc
      cases h2
      obtain ⟨o, h3, h5⟩ := List.mem_filterMap.mp h1
      have h5' : o = some c := h5
      subst h5'
      exact h4 c (by rw [← hsplit]; exact List.mem_append_left _ h3)
    · exact i2 c hc
  refine ⟨((l.takeWhile (·.isSome)).filterMap id).map Tk.sg ++ ts', ?_, hoks, fun X => ?_, ?_⟩
  · rw [← pieces_toks goodE_it _ hoks]
    congr 1
    unfold joinAll
    rw [t1, t2, List.flatten_append, s1, i1, List.flatMap_append]
  · rw [← h2 X]
    unfold eff
    rw [List.foldl_append]
    have e1 : List.foldl (eff1 name) X (((l.takeWhile (·.isSome)).filterMap id).map Tk.sg) = effI name (l.takeWhile (·.isSome)) X := s2 X
    rw [e1]
    have e2 := i3 (effI name (l.takeWhile (·.isSome)) X)
    unfold eff at e2
    rw [e2]
    unfold effI
    rw [← List.foldl_append, hsplit]
  · rw [List.length_append, s3]; lia
end Mine

/-! ## M4 -/
namespace Mine
/-! the table holds what the shell reaches -/
noncomputable abbrev I0 : Nat → Prop := fun k => k = 0
structure Reps (name : Sg) (r : List Bool) (X : Nat → Prop) : Prop where
  len : r.length = name.length + 1
  get : ∀ k, r.getD k false = true ↔ X k
theorem Reps.le {name : Sg} {r : List Bool} {X : Nat → Prop} (h : Reps name r X) (k : Nat) (x : X k) : k ≤ name.length := by
  have := (h.get k).mpr x
  rw [List.getD_eq_getElem?_getD] at this
  cases e : r[k]? with
  | none => rw [e] at this; cases this
  | some b => have := (List.getElem?_eq_some_iff.mp e).1; have := h.len; lia
theorem reps_init (name : Sg) : Reps name (initR name.length) I0 := by
  refine ⟨by simp [initR], fun k => ?_⟩
  unfold initR
  cases k with
  | zero => simp
  | succ k =>
    simp only [List.getD_cons_succ]
    constructor
    · intro h
      rw [List.getD_eq_getElem?_getD] at h
      cases e : (List.replicate name.length false)[k]? with
      | none => rw [e] at h; cases h
      | some b =>
        have := List.eq_of_mem_replicate (List.mem_of_getElem? e)
        rw [e, this] at h; cases h
    · intro h; cases h
theorem mem_take_get {r : List Bool} {k : Nat} : true ∈ r.take k ↔ ∃ a, a < k ∧ r.getD a false = true := by
  constructor
  · intro h
    obtain ⟨a, ha⟩ := List.getElem?_of_mem h
    rw [List.getElem?_take] at ha
    split at ha
    · rename_i hlt
      exact ⟨a, hlt, by rw [List.getD_eq_getElem?_getD, ha]; rfl⟩
    · cases ha
  · rintro ⟨a, ha, h⟩
    rw [List.getD_eq_getElem?_getD] at h
    cases e : r[a]? with
    | none => rw [e] at h; cases h
    | some b =>
      rw [e] at h
      have hb : b = true := h
      subst hb
      refine List.mem_of_getElem? (i := a) ?_
      rw [List.getElem?_take, if_pos ha, e]
theorem reps_step (name : Sg) {r : List Bool} {X : Nat → Prop} (h : Reps name r X) (c : Nat) : Reps name (stepR name r c) (effI1 name X (itN c)) := by
  refine ⟨stepR_len name r c, fun k => ?_⟩
  unfold stepR itN
  by_cases hc : c = 42
  · rw [if_pos hc, if_pos hc]
    show _ ↔ upS name X k
    unfold starR upS
    rw [List.getD_eq_getElem?_getD, List.getElem?_map]
    by_cases hk : k < name.length + 1
    · rw [List.getElem?_range hk]
      simp only [Option.map_some, Option.getD_some, decide_eq_true_eq, mem_take_get]
      constructor
      · rintro ⟨a, ha, hx⟩; exact ⟨by lia, a, by lia, (h.get a).mp hx⟩
      · rintro ⟨_, a, ha, hx⟩; exact ⟨a, by lia, (h.get a).mpr hx⟩
    · rw [List.getElem?_eq_none (by simp; lia)]
      simp; lia
  · rw [if_neg hc, if_neg hc]
    show _ ↔ shS name c X k
    unfold signR shS
    cases k with
    | zero =>
      constructor
      · intro q; cases q
      · rintro ⟨a, q, _⟩; lia
    | succ k =>
      rw [List.getD_cons_succ, List.getD_eq_getElem?_getD, List.getElem?_map]
      by_cases hk : k < name.length
      · rw [List.getElem?_range hk]
        have e1 : (name.drop k).take 1 = [name.getD k 0] := by
          rw [List.drop_eq_getElem_cons hk, List.getD_eq_getElem?_getD, List.getElem?_eq_getElem hk]; rfl
        simp only [Option.map_some, Option.getD_some, Bool.and_eq_true, beq_iff_eq]
        constructor
        · rintro ⟨q1, q2⟩; exact ⟨k, rfl, (h.get k).mp q1, by rw [e1, q2]⟩
        · rintro ⟨a, q, q1, q2⟩
          have : a = k := by lia
          subst this
          exact ⟨(h.get a).mpr q1, by rw [← e1, q2]⟩
      · rw [List.getElem?_eq_none (by simp; lia)]
        constructor
        · intro q; cases q
        · rintro ⟨a, q, q1, q2⟩
          have : a = k := by lia
          subst this
          rw [List.drop_eq_nil_of_le (by lia)] at q2; cases q2
theorem reps_fold (name : Sg) (sh : Sg) : ∀ (r : List Bool) (X : Nat → Prop), Reps name r X → Reps name (sh.foldl (stepR name) r) (effS name sh X) := by
  induction sh with
  | nil => intro r X h; exact h
  | cons c t ih => intro r X h; exact ih _ _ (reps_step name h c)
theorem table_iff (name sh : Sg) (k : Nat) : k ∈ tableF sh name ↔ effS name sh I0 k := by
  have h := reps_fold name sh _ _ (reps_init name)
  unfold tableF
  rw [List.mem_filter, List.mem_range, h.get k]
  constructor
  · exact fun q => q.2
  · exact fun q => ⟨by have := h.le k q; lia, q⟩
theorem table_sorted (name sh : Sg) : (tableF sh name).Pairwise (· < ·) := List.Pairwise.filter _ List.pairwise_lt_range
theorem effS_le (name sh : Sg) (k : Nat) (h : effS name sh I0 k) : k ≤ name.length := (reps_fold name sh _ _ (reps_init name)).le k h

/-! the run's states -/
theorem eff1_le (name : Sg) (t : Tk) {X : Nat → Prop} (hX : ∀ k, X k → k ≤ name.length) : ∀ k, eff1 name X t k → k ≤ name.length := by
  intro k h
  cases t with
  | sg c =>
    obtain ⟨a, rfl, _, h2⟩ := h
    by_cases q : a < name.length
    · lia
    · rw [List.drop_eq_nil_of_le (by lia)] at h2; cases h2
  | hd => exact h.1
  | fr => exact h.1
  | sh => exact hX k h
theorem eff_le (name : Sg) : ∀ (ts : List Tk) {X : Nat → Prop}, (∀ k, X k → k ≤ name.length) → ∀ k, eff name ts X k → k ≤ name.length
  | [], X, hX, k, h => hX k h
  | t :: ts, X, hX, k, h => eff_le name ts (eff1_le name t hX) k h
theorem eff_take (name : Sg) (ts : List Tk) (X : Nat → Prop) (k : Nat) (hk : k < ts.length) : eff name (ts.take (k + 1)) X = eff1 name (eff name (ts.take k) X) (ts[k]) := by
  rw [List.take_add_one, List.getElem?_eq_getElem hk, Option.toList_some]
  unfold eff
  rw [List.foldl_append]; rfl

theorem okC_pc {c : Nat} (h : okC c) : ([c] == cHeld || [c] == cFar) = false ∧ ([c] == cShut) = false := by
  unfold okC at h
  rcases h with rfl | rfl | rfl | rfl <;> exact ⟨by decide, by decide⟩

/-- where a state leads -/
theorem steps_tok (name : Sg) (ts : List Tk) (ok : Tks ts) (hlt : ts.length ≤ 63) (a k : Nat) (hk : k ≤ ts.length) :
    wSteps (ts.map Tk.pc) name (a * 64 + k) = if h : k < ts.length then
      (match ts[k] with
        | .hd => if a < name.length then [a * 64 + k + 1, a * 64 + k + 64] else [a * 64 + k + 1]
        | .fr => if a < name.length then [a * 64 + k + 1, a * 64 + k + 64] else [a * 64 + k + 1]
        | .sh => [a * 64 + k + 1]
        | .sg c => if (name.drop a).take 1 = [c] then [a * 64 + k + 65] else []) else [] := by
  have e1 : (a * 64 + k) % 64 = k := by lia
  have e2 : (a * 64 + k) / 64 = a := by lia
  unfold wSteps
  rw [e1, e2, List.length_map]
  by_cases h : k < ts.length
  · rw [if_neg (by lia), dif_pos h]
    have hg : (ts.map Tk.pc).getD k [] = (ts[k]).pc := by
      rw [List.getD_eq_getElem?_getD, List.getElem?_map, List.getElem?_eq_getElem h]; rfl
    dsimp only
    rw [hg]
    have hmem : ts[k] ∈ ts := List.getElem_mem h
    cases ht : ts[k] with
    | hd => simp [Tk.pc]
    | fr => simp [Tk.pc]
    | sh =>
      show (if (cShut == cHeld || cShut == cFar) = true then _ else if (cShut == cShut) = true then _ else _) = _
      rw [if_neg (by decide), if_pos (by decide)]
    | sg c =>
      have hc := okC_pc (ok c (ht ▸ hmem))
      show (if ([c] == cHeld || [c] == cFar) = true then _ else if ([c] == cShut) = true then _ else _) = _
      rw [if_neg (by rw [hc.1]; decide), if_neg (by rw [hc.2]; decide)]
      simp
      rfl
  · rw [if_pos (by lia), dif_neg h]

theorem ends_tok (name : Sg) (ts : List Tk) (ok : Tks ts) (hlt : ts.length ≤ 63) (R : List Nat) (hR : R.Pairwise (· < ·)) (hRi : ∀ k, k ∈ R ↔ eff name ts I0 k) (N : Nat) (hN : 64 * (name.length + 1) ≤ N) :
    endsRun (ts.map Tk.pc) name N [0] [0] [] = some R := by
  have le : ∀ k x, eff name (ts.take k) I0 x → x ≤ name.length := fun k x h => eff_le name _ (fun k (q : k = 0) => by lia) x h
  let G : Nat → Prop := fun x => x % 64 ≤ ts.length ∧ eff name (ts.take (x % 64)) I0 (x / 64)
  have hG : ∀ x, G x → x < 64 * (name.length + 1) := fun x h => by have := le _ _ h.2; lia
  have mk : ∀ a k, k ≤ ts.length → eff name (ts.take k) I0 a → G (a * 64 + k) := fun a k hk h => by
    have e1 : (a * 64 + k) % 64 = k := by lia
    have e2 : (a * 64 + k) / 64 = a := by lia
    show _ ∧ _
    rw [e1, e2]; exact ⟨hk, h⟩
  have up_of : ∀ a k (h : k < ts.length), eff name (ts.take k) I0 a → (ts[k] = .hd ∨ ts[k] = .fr) → ∀ b, a ≤ b → b ≤ name.length → eff name (ts.take (k + 1)) I0 b := fun a k h x hp b h1 h2 => by
    rw [eff_take name ts I0 k h]
    rcases hp with e | e <;> (rw [e]; exact ⟨h2, a, h1, x⟩)
  -- a star's places stay: the state before it, farther on, is reached too; so the states there are those of the star
  let G2 : Nat → Prop := fun x => G x ∨ ∃ h : x % 64 < ts.length, (ts[x % 64] = .hd ∨ ts[x % 64] = .fr) ∧ x / 64 ≤ name.length ∧ ∃ a, a ≤ x / 64 ∧ eff name (ts.take (x % 64)) I0 a
  have hG2 : ∀ x, G2 x → x < 64 * (name.length + 1) := fun x h => by
    rcases h with h | ⟨h1, _, h2, _⟩
    · exact hG x h
    · lia
  have hG2s : ∀ x, G2 x → ∀ s ∈ wSteps (ts.map Tk.pc) name x, G2 s := by
    intro x hx s hs
    obtain ⟨a, k, hk, rfl⟩ : ∃ a k, k ≤ ts.length ∧ x = a * 64 + k := by
      refine ⟨x / 64, x % 64, ?_, by lia⟩
      rcases hx with h | ⟨h, _⟩
      · exact h.1
      · lia
    have e1 : (a * 64 + k) % 64 = k := by lia
    have e2 : (a * 64 + k) / 64 = a := by lia
    rw [steps_tok name ts ok hlt a k hk] at hs
    by_cases h : k < ts.length
    · rw [dif_pos h] at hs
      -- the least place below
      have low : ∃ a0, a0 ≤ a ∧ eff name (ts.take k) I0 a0 ∧ (a0 = a ∨ ts[k] = .hd ∨ ts[k] = .fr) := by
        rcases hx with q | ⟨_, q1, q2, a0, q3, q4⟩
        · have q2 := q.2
          rw [e1, e2] at q2
          exact ⟨a, Nat.le_refl _, q2, .inl rfl⟩
        · rw [e2] at q3
          have q1' : ts[k] = .hd ∨ ts[k] = .fr := by
            have : ts[(a * 64 + k) % 64]? = ts[k]? := by rw [e1]
            rw [List.getElem?_eq_getElem (by lia), List.getElem?_eq_getElem h] at this
            cases this' : ts[k] with
            | hd => exact .inl rfl
            | fr => exact .inr rfl
            | sg c => rw [this'] at this; injection this with this; rw [this] at q1; rcases q1 with q | q <;> cases q
            | sh => rw [this'] at this; injection this with this; rw [this] at q1; rcases q1 with q | q <;> cases q
          exact ⟨a0, q3, by simpa only [e1] using q4, .inr q1'⟩
      have hale : a ≤ name.length := by have := hG2 _ hx; lia
      obtain ⟨a0, l1, l2, l3⟩ := low
      have star : (ts[k] = .hd ∨ ts[k] = .fr) → s ∈ (if a < name.length then [a * 64 + k + 1, a * 64 + k + 64] else [a * 64 + k + 1]) → G2 s := by
        intro hp hs
        have c1 : s = a * 64 + k + 1 → G2 s := by
          rintro rfl
          have := mk a (k + 1) (by lia) (up_of a0 k h l2 hp a l1 hale)
          exact .inl (by rw [Nat.add_assoc]; exact this)
        have c2 : a < name.length → s = a * 64 + k + 64 → G2 s := by
          rintro hlt rfl
          have f1 : (a * 64 + k + 64) % 64 = k := by lia
          have f2 : (a * 64 + k + 64) / 64 = a + 1 := by lia
          refine .inr ?_
          rw [f2]
          refine ⟨by lia, ?_, hlt, a0, by lia, by rw [f1]; exact l2⟩
          have : ts[(a * 64 + k + 64) % 64]? = ts[k]? := by rw [f1]
          rw [List.getElem?_eq_getElem (by lia), List.getElem?_eq_getElem h] at this
          injection this with this
          rw [this]; exact hp
        split at hs
        · rename_i hlt
          rcases List.mem_cons.mp hs with q | q
          · exact c1 q
          · exact c2 hlt (List.mem_singleton.mp q)
        · exact c1 (List.mem_singleton.mp hs)
      cases ht : ts[k] with
      | hd => rw [ht] at hs; exact star (.inl ht) hs
      | fr => rw [ht] at hs; exact star (.inr ht) hs
      | sh =>
        rw [ht] at hs
        have hs := List.mem_singleton.mp hs
        have ha : a0 = a := by rcases l3 with q | q | q <;> first | exact q | (rw [ht] at q; cases q)
        subst ha; subst hs
        have hn : eff name (ts.take (k + 1)) I0 a0 := by rw [eff_take name ts I0 k h, ht]; exact l2
        exact .inl (by rw [Nat.add_assoc]; exact mk a0 (k + 1) (by lia) hn)
      | sg c =>
        rw [ht] at hs
        have ha : a0 = a := by rcases l3 with q | q | q <;> first | exact q | (rw [ht] at q; cases q)
        subst ha
        have hs' : s ∈ (if (name.drop a0).take 1 = [c] then [a0 * 64 + k + 65] else []) := hs
        split at hs'
        · rename_i hm
          have hs := List.mem_singleton.mp hs'
          subst hs
          have hn : eff name (ts.take (k + 1)) I0 (a0 + 1) := by rw [eff_take name ts I0 k h, ht]; exact ⟨a0, rfl, l2, hm⟩
          have := mk (a0 + 1) (k + 1) (by lia) hn
          exact .inl (by have e : (a0 + 1) * 64 + (k + 1) = a0 * 64 + k + 65 := by lia
                         rw [← e]; exact this)
        · cases hs'
    · rw [dif_neg h] at hs; cases hs
  have hheap : IsHeap ltN [0] := fun i j a b hij ha hb => by
    exfalso
    have := (List.getElem?_eq_some_iff.mp hb).1
    unfold Kid at hij
    simp at this; lia
  have hstart : RunI [] [0] [0] := ⟨hheap, (by simp), (fun x => by simp), (fun p hp => by cases hp), List.Pairwise.nil⟩
  have h00 : G2 0 := .inl ⟨Nat.zero_le _, rfl⟩
  obtain ⟨pf, r1, r2, r3, r4, r5⟩ := run_ok (ts.map Tk.pc) name (64 * (name.length + 1)) G2 hG2 hG2s N [] [0] [0] [] hstart (fun x hx => by rw [List.mem_singleton.mp hx]; exact h00) (fun p hp => (by cases hp)) (.head _) rfl (by simpa using hN)
  rw [r1]
  congr 1
  -- all that is reached is let off
  have reach : ∀ k, k ≤ ts.length → ∀ a, eff name (ts.take k) I0 a → a * 64 + k ∈ pf := by
    intro k
    induction k with
    | zero =>
      intro _ a ha
      have : a = 0 := ha
      subst this; exact r3
    | succ k ih =>
      intro hk a ha
      have h : k < ts.length := by lia
      have ih := ih (by lia)
      rw [eff_take name ts I0 k h] at ha
      have step : ∀ b s, b * 64 + k ∈ pf → s ∈ wSteps (ts.map Tk.pc) name (b * 64 + k) → s ∈ pf := fun b s hb hs => r4 _ hb s hs
      have star : (ts[k] = .hd ∨ ts[k] = .fr) → upS name (eff name (ts.take k) I0) a → a * 64 + (k + 1) ∈ pf := by
        rintro hp ⟨hle, b, hb, hx⟩
        have hst : ∀ c, wSteps (ts.map Tk.pc) name (c * 64 + k) = if c < name.length then [c * 64 + k + 1, c * 64 + k + 64] else [c * 64 + k + 1] := fun c => by
          rw [steps_tok name ts ok hlt c k (by lia), dif_pos h]
          rcases hp with e | e <;> rw [e]
        have climb : ∀ n, b + n ≤ name.length → (b + n) * 64 + k ∈ pf := by
          intro n
          induction n with
          | zero => intro _; exact ih b hx
          | succ n ihn =>
            intro hn
            have := step (b + n) ((b + n) * 64 + k + 64) (ihn (by lia)) (by rw [hst, if_pos (by lia)]; exact .tail _ (.head _))
            have e : (b + (n + 1)) * 64 + k = (b + n) * 64 + k + 64 := by lia
            rw [e]; exact this
        have hak := climb (a - b) (by lia)
        have e : b + (a - b) = a := by lia
        rw [e] at hak
        have := step a (a * 64 + k + 1) hak (by rw [hst]; split <;> exact .head _)
        rw [← Nat.add_assoc]; exact this
      cases ht : ts[k] with
      | hd => rw [ht] at ha; exact star (.inl ht) ha
      | fr => rw [ht] at ha; exact star (.inr ht) ha
      | sh =>
        rw [ht] at ha
        have := step a (a * 64 + k + 1) (ih a ha) (by rw [steps_tok name ts ok hlt a k (by lia), dif_pos h, ht]; exact .head _)
        rw [← Nat.add_assoc]; exact this
      | sg c =>
        rw [ht] at ha
        obtain ⟨b, rfl, hx, hm⟩ := ha
        have := step b (b * 64 + k + 65) (ih b hx) (by rw [steps_tok name ts ok hlt b k (by lia), dif_pos h, ht]; show _ ∈ (if _ then _ else _); rw [if_pos hm]; exact .head _)
        have e : (b + 1) * 64 + (k + 1) = b * 64 + k + 65 := by lia
        rw [e]; exact this
  refine sorted_ext ?_ hR fun x => ?_
  · -- sorted
    have : ∀ (l : List Nat), l.Pairwise (· < ·) → (l.flatMap (wEnds (ts.map Tk.pc))).Pairwise (· < ·) ∧ ∀ x ∈ l.flatMap (wEnds (ts.map Tk.pc)), x * 64 + ts.length ∈ l := by
      intro l
      induction l with
      | nil => intro _; exact ⟨List.Pairwise.nil, fun x hx => (by cases hx)⟩
      | cons y l ihl =>
        intro hp
        obtain ⟨p1, p2⟩ := List.pairwise_cons.mp hp
        obtain ⟨j1, j2⟩ := ihl p2
        rw [List.flatMap_cons]
        have hw : ∀ z ∈ wEnds (ts.map Tk.pc) y, z * 64 + ts.length = y := fun z hz => by
          unfold wEnds at hz
          rw [List.length_map] at hz
          split at hz
          · rw [List.mem_singleton.mp hz]; lia
          · cases hz
        refine ⟨List.pairwise_append.mpr ⟨?_, j1, fun a ha b hb => ?_⟩, fun x hx => ?_⟩
        · unfold wEnds; split <;> simp
        · have := hw a ha; have := p1 _ (j2 b hb); lia
        · rcases List.mem_append.mp hx with hx | hx
          · rw [hw x hx]; exact .head _
          · exact .tail _ (j2 x hx)
    exact (this pf r2).1
  · rw [hRi x, List.mem_flatMap]
    constructor
    · rintro ⟨y, hy, hx⟩
      unfold wEnds at hx
      rw [List.length_map] at hx
      split at hx
      · rename_i hm
        have hx := List.mem_singleton.mp hx
        subst hx
        rcases r5 y hy with q | ⟨q, _⟩
        · have q2 := q.2
          rw [hm, List.take_length] at q2
          exact q2
        · lia
      · cases hx
    · intro hx
      have := reach ts.length (Nat.le_refl _) x (by rw [List.take_length]; exact hx)
      refine ⟨_, this, ?_⟩
      unfold wEnds
      rw [List.length_map, if_pos (by lia)]
      rw [show (x * 64 + ts.length) / 64 = x by lia]
      exact .head _
end Mine

/-! ## M5 -/
namespace Mine
/-! the walk: the parts between the stars -/
noncomputable abbrev sgs (A : Sg) : List Tk := A.map Tk.sg
noncomputable def tlT : List Sg → List Tk
  | [] => []
  | [A] => .fr :: sgs A
  | A :: B :: r => .hd :: (sgs A ++ .sh :: tlT (B :: r))
noncomputable def runsT : List Sg → List (Sg × Sg)
  | [] => []
  | [A] => [(cFar, A)]
  | A :: B :: r => (cHeld, A) :: (cPlain, []) :: runsT (B :: r)
noncomputable def effParts (name : Sg) : List Sg → (Nat → Prop) → Nat → Prop
  | [], X => X
  | A :: r, X => effParts name r (eff name (sgs A) (upS name X))

theorem sgs_txt (A : Sg) : (sgs A).flatMap (Tk.txt escC) = A.flatMap escC := by
  induction A with
  | nil => rfl
  | cons c A ih => show escC c ++ (sgs A).flatMap (Tk.txt escC) = escC c ++ A.flatMap escC; rw [ih]
theorem part_tail : ∀ (l : List Sg) (n j : Nat), 1 ≤ j → j + l.length = n → ((l.map (·.flatMap escC)).mapIdx (fun i => partAt n (i + j))).flatten = (tlT l).flatMap (Tk.txt escC)
  | [], n, j, _, _ => rfl
  | [A], n, j, h1, h2 => by
    have h2' : 0 + j + 1 = n := by simp at h2; lia
    show (partAt n (0 + j) (A.flatMap escC) :: []).flatten = [46, 42] ++ (sgs A).flatMap (Tk.txt escC)
    unfold partAt
    rw [if_pos h2', sgs_txt]; simp
  | A :: B :: r, n, j, h1, h2 => by
    simp only [List.length_cons] at h2
    have ih := part_tail (B :: r) n (j + 1) (by lia) (by simp only [List.length_cons]; lia)
    rw [List.map_cons, List.mapIdx_cons, List.flatten_cons]
    have e : (fun i => partAt n (i + 1 + j)) = fun i => partAt n (i + (j + 1)) := by funext i; congr 1; lia
    rw [e, ih]
    have e2 : partAt n (0 + j) (A.flatMap escC) = holdF (A.flatMap escC) := by
      unfold partAt
      rw [if_neg (by lia), if_neg (by lia)]
    rw [e2]
    show _ = [40, 63, 62, 46, 42, 63] ++ (sgs A ++ .sh :: tlT (B :: r)).flatMap (Tk.txt escC)
    rw [List.flatMap_append, sgs_txt, List.flatMap_cons]
    unfold holdF
    simp [Tk.txt]
noncomputable def pathT' (path : Sg) : List Tk := match splitF 42 path with
  | [] => []
  | [h] => tlT [h]
  | h :: t => sgs h ++ tlT t
theorem tpF_toks (path : Sg) : tpF path = (pathT' path).flatMap (Tk.txt escC) := by
  unfold tpF pathT'
  match h : splitF 42 path with
  | [] => rfl
  | [a] =>
    show (partAt 1 0 (a.flatMap escC) :: []).flatten = [46, 42] ++ (sgs a).flatMap (Tk.txt escC)
    unfold partAt
    rw [if_pos rfl, sgs_txt]; simp
  | a :: b :: t =>
    dsimp only
    rw [List.map_cons, List.mapIdx_cons, List.flatten_cons, part_tail (b :: t) _ 1 (by lia) (by simp only [List.length_cons]; lia), List.flatMap_append, sgs_txt]
    congr 1
theorem tlT_ok : ∀ (l : List Sg), (∀ p ∈ l, ∀ c ∈ p, okC c) → Tks (tlT l)
  | [], _, c, hc => by cases hc
  | [A], h, c, hc => by
    rcases List.mem_cons.mp hc with q | q
    · cases q
    · obtain ⟨c', h1, h2⟩ := List.mem_map.mp q
      cases h2
      exact h A (.head _) c h1
  | A :: B :: r, h, c, hc => by
    rcases List.mem_cons.mp hc with q | q
    · cases q
    · rcases List.mem_append.mp q with q | q
      · obtain ⟨c', h1, h2⟩ := List.mem_map.mp q
        cases h2
        exact h A (.head _) c h1
      · rcases List.mem_cons.mp q with q | q
        · cases q
        · exact tlT_ok (B :: r) (fun p hp => h p (.tail _ hp)) c q
theorem tlT_len : ∀ (l : List Sg), (tlT l).length ≤ 2 * l.length + l.flatten.length
  | [] => by simp [tlT]
  | [A] => by simp [tlT, sgs]; lia
  | A :: B :: r => by
    have ih := tlT_len (B :: r)
    show (Tk.hd :: (sgs A ++ .sh :: tlT (B :: r))).length ≤ _
    rw [List.flatten_cons, List.length_append]
    simp only [List.length_cons, List.length_append, sgs, List.length_map] at ih ⊢
    lia
theorem parts_ok {path : Sg} (hs : ∀ c ∈ path, shC c) : ∀ p ∈ splitF 42 path, ∀ c ∈ p, okC c := fun p hp c hc => by
  have := splitF_mem 42 path p hp c hc
  rcases hs c this.1 with q | q
  · exact q
  · exact absurd q this.2
theorem pathT_ok {path : Sg} (hs : ∀ c ∈ path, shC c) : Tks (pathT' path) := by
  have hp := parts_ok hs
  unfold pathT'
  match h : splitF 42 path with
  | [] => intro c hc; cases hc
  | [a] => exact tlT_ok [a] (h ▸ hp)
  | a :: b :: t =>
    intro c hc
    rw [h] at hp
    rcases List.mem_append.mp hc with q | q
    · obtain ⟨c', h1, h2⟩ := List.mem_map.mp q
      cases h2
      exact hp a (.head _) c h1
    · exact tlT_ok (b :: t) (fun p q => hp p (.tail _ q)) c q
theorem pathT_len (path : Sg) : (pathT' path).length ≤ 3 * path.length + 2 := by
  have h1 := splitF_len 42 path
  have h2 := splitF_sum 42 path
  unfold pathT'
  match h : splitF 42 path with
  | [] => simp
  | [a] =>
    rw [h] at h1 h2
    have := tlT_len [a]
    simp only [List.length_cons, List.length_nil] at h1 this
    dsimp only; lia
  | a :: b :: t =>
    rw [h] at h1 h2
    have := tlT_len (b :: t)
    rw [List.flatten_cons, List.length_append] at h2
    simp only [List.length_cons] at h1 this
    simp only [List.length_append, sgs, List.length_map]
    lia

/-! the runs -/
noncomputable def RF (st : List (Sg × Sg) × (Sg × Sg)) (ps : List Sg) : List (Sg × Sg) := (ps.foldl runsStep st).1 ++ [(ps.foldl runsStep st).2]
theorem RF_sgs : ∀ (A : Sg), (∀ c ∈ A, okC c) → ∀ (acc : List (Sg × Sg)) (k s : Sg) (ps : List Sg), RF (acc, (k, s)) ((sgs A).map Tk.pc ++ ps) = RF (acc, (k, s ++ A)) ps
  | [], _, acc, k, s, ps => by rw [List.append_nil]; rfl
  | c :: A, h, acc, k, s, ps => by
    have ih := RF_sgs A (fun x hx => h x (.tail _ hx)) acc k (s ++ [c]) ps
    have hc := okC_pc (h c (.head _))
    have e : runsStep (acc, (k, s)) [c] = (acc, (k, s ++ [c])) := by
      unfold runsStep
      rw [if_neg (by rw [hc.1]; decide), if_neg (by rw [hc.2]; decide)]
    show RF (runsStep (acc, (k, s)) [c]) ((sgs A).map Tk.pc ++ ps) = _
    rw [e, ih, List.append_assoc]; rfl
theorem RF_tail : ∀ (l : List Sg), l ≠ [] → (∀ p ∈ l, ∀ c ∈ p, okC c) → ∀ (acc : List (Sg × Sg)) (cur : Sg × Sg), RF (acc, cur) ((tlT l).map Tk.pc) = acc ++ [cur] ++ runsT l
  | [], h, _, _, _ => absurd rfl h
  | [A], _, h, acc, cur => by
    show RF (runsStep (acc, cur) cFar) ((sgs A).map Tk.pc) = _
    have e : runsStep (acc, cur) cFar = (acc ++ [cur], (cFar, [])) := by
      unfold runsStep; rw [if_pos (by decide)]
    have := RF_sgs A (h A (.head _)) (acc ++ [cur]) cFar [] []
    rw [List.append_nil] at this
    rw [e, this]; rfl
  | A :: B :: r, _, h, acc, cur => by
    show RF (runsStep (acc, cur) cHeld) ((sgs A ++ .sh :: tlT (B :: r)).map Tk.pc) = _
    have e : runsStep (acc, cur) cHeld = (acc ++ [cur], (cHeld, [])) := by
      unfold runsStep; rw [if_pos (by decide)]
    have e2 : runsStep (acc ++ [cur], (cHeld, A)) cShut = (acc ++ [cur] ++ [(cHeld, A)], (cPlain, [])) := by
      unfold runsStep; rw [if_neg (by decide), if_pos (by decide)]
    rw [e, List.map_append, RF_sgs A (h A (.head _)), List.nil_append]
    show RF (runsStep (acc ++ [cur], (cHeld, A)) cShut) ((tlT (B :: r)).map Tk.pc) = _
    rw [e2, RF_tail (B :: r) (by simp) (fun p hp => h p (.tail _ hp))]
    show _ = acc ++ [cur] ++ ((cHeld, A) :: (cPlain, []) :: runsT (B :: r))
    simp

/-! signs, as sets -/
theorem take_succ' (name : Sg) (a : Nat) (c : Nat) (A : Sg) : (name.drop a).take (A.length + 1) = c :: A ↔ (name.drop a).take 1 = [c] ∧ (name.drop (a + 1)).take A.length = A := by
  rw [← List.drop_drop]
  cases name.drop a with
  | nil => simp
  | cons x r => simp
theorem eff_sgs (name : Sg) : ∀ (A : Sg) (X : Nat → Prop) (k : Nat), eff name (sgs A) X k ↔ ∃ b, X b ∧ k = b + A.length ∧ (name.drop b).take A.length = A
  | [], X, k => by
    constructor
    · intro h; exact ⟨k, h, rfl, rfl⟩
    · rintro ⟨b, h, rfl, _⟩; exact h
  | c :: A, X, k => by
    have ih := eff_sgs name A (shS name c X) k
    show eff name (sgs A) (shS name c X) k ↔ _
    rw [ih]
    constructor
    · rintro ⟨_, ⟨a, rfl, h1, h2⟩, rfl, h3⟩
      exact ⟨a, h1, by simp only [List.length_cons]; lia, (take_succ' name a c A).mpr ⟨h2, h3⟩⟩
    · rintro ⟨a, h1, rfl, h2⟩
      obtain ⟨h3, h4⟩ := (take_succ' name a c A).mp h2
      exact ⟨a + 1, ⟨a, rfl, h1, h3⟩, by simp only [List.length_cons]; lia, h4⟩
theorem occ_iff (name A : Sg) (lo i : Nat) : i ∈ occF name A lo ↔ lo ≤ i ∧ i ≤ name.length ∧ (name.drop i).take A.length = A := by
  unfold occF atF
  rw [List.mem_filter, List.mem_range'_1]
  simp only [Bool.and_eq_true, decide_eq_true_eq, beq_iff_eq]
  constructor
  · rintro ⟨⟨h1, h2⟩, h3, h4⟩; exact ⟨h1, by lia, h4⟩
  · rintro ⟨h1, h2, h3⟩
    have := congrArg List.length h3
    simp only [List.length_take, List.length_drop] at this
    exact ⟨⟨h1, by lia⟩, by lia, h3⟩
theorem occ_sorted (name A : Sg) (lo : Nat) : (occF name A lo).Pairwise (· < ·) := List.Pairwise.filter _ List.pairwise_lt_range'
theorem head_least {l : List Nat} {i : Nat} (hs : l.Pairwise (· < ·)) (h : l.head? = some i) : i ∈ l ∧ ∀ j ∈ l, i ≤ j := by
  cases l with
  | nil => cases h
  | cons a l =>
    cases h
    refine ⟨.head _, fun j hj => ?_⟩
    rcases List.mem_cons.mp hj with rfl | hj
    · exact Nat.le_refl _
    · exact Nat.le_of_lt ((List.pairwise_cons.mp hs).1 j hj)
theorem last_most {l : List Nat} {i : Nat} (hs : l.Pairwise (· < ·)) (h : l.getLast? = some i) : i ∈ l ∧ ∀ j ∈ l, j ≤ i := by
  rcases List.eq_nil_or_concat l with rfl | ⟨l', o, rfl⟩
  · cases h
  · rw [List.concat_eq_append] at h hs ⊢
    have ho : o = i := by simpa using h
    subst ho
    refine ⟨by simp, fun j hj => ?_⟩
    rcases List.mem_append.mp hj with hj | hj
    · exact Nat.le_of_lt ((List.pairwise_append.mp hs).2.2 j hj o (.head _))
    · rw [List.mem_singleton.mp hj]; exact Nat.le_refl _

noncomputable def IsLast (Y : Nat → Prop) (r : Int) : Prop := (r = -1 ∧ ∀ x, ¬ Y x) ∨ ∃ m : Nat, r = m ∧ Y m ∧ ∀ x, Y x → x ≤ m
theorem IsLast.eq {Y : Nat → Prop} {r s : Int} (h1 : IsLast Y r) (h2 : IsLast Y s) : r = s := by
  rcases h1 with ⟨e1, n1⟩ | ⟨m1, e1, y1, l1⟩ <;> rcases h2 with ⟨e2, n2⟩ | ⟨m2, e2, y2, l2⟩
  · rw [e1, e2]
  · exact absurd y2 (n1 m2)
  · exact absurd y1 (n2 m1)
  · have := l1 m2 y2; have := l2 m1 y1; lia
theorem parts_empty (name : Sg) : ∀ (l : List Sg) (X : Nat → Prop), (∀ x, ¬ X x) → ∀ x, ¬ effParts name l X x
  | [], X, h, x => h x
  | A :: r, X, h, x => by
    refine parts_empty name r _ (fun k hk => ?_) x
    obtain ⟨b, ⟨_, a, _, hx⟩, _⟩ := (eff_sgs name A _ k).mp hk
    exact h a hx
theorem starSigns (name A : Sg) {X : Nat → Prop} {m : Nat} (hm : X m) (hl : ∀ x, X x → m ≤ x) (k : Nat) : eff name (sgs A) (upS name X) k ↔ ∃ b ∈ occF name A m, k = b + A.length := by
  rw [eff_sgs]
  constructor
  · rintro ⟨b, ⟨h1, a, h2, h3⟩, h4, h5⟩
    exact ⟨b, (occ_iff _ _ _ _).mpr ⟨by have := hl a h3; lia, h1, h5⟩, h4⟩
  · rintro ⟨b, hb, rfl⟩
    obtain ⟨h1, h2, h3⟩ := (occ_iff _ _ _ _).mp hb
    exact ⟨b, ⟨h2, m, h1, hm⟩, rfl, h3⟩

theorem walk_plain (name : Sg) (r : List (Sg × Sg)) (a : Nat) : walkF name ((cPlain, []) :: r) a = walkF name r a := by
  have e : placeF name cPlain [] a = (a : Int) := by
    unfold placeF
    rw [if_neg (by decide), if_neg (by decide)]
    simp
  rw [walkF, e, if_neg (by lia)]
  simp
theorem walk_tail (name : Sg) : ∀ (l : List Sg), l ≠ [] → ∀ (X : Nat → Prop) (a : Nat), X a → (∀ x, X x → a ≤ x) → IsLast (effParts name l X) (walkF name (runsT l) a)
  | [], h, _, _, _, _ => absurd rfl h
  | [A], _, X, a, ha, hl => by
    have hs := starSigns name A ha hl
    show IsLast (eff name (sgs A) (upS name X)) (walkF name [(cFar, A)] a)
    have e : placeF name cFar A a = optI (occF name A a).getLast? := by
      unfold placeF; rw [if_neg (by decide), if_pos (by decide)]
    rw [walkF, e]
    cases q : (occF name A a).getLast? with
    | none =>
      rw [if_pos (by decide)]
      refine .inl ⟨rfl, fun x hx => ?_⟩
      obtain ⟨b, hb, _⟩ := (hs x).mp hx
      rw [List.getLast?_eq_none_iff.mp q] at hb; cases hb
    | some i =>
      have h1 := last_most (occ_sorted name A a) q
      rw [if_neg (by show ¬ ((i : Int) < 0); lia)]
      refine .inr ⟨i + A.length, ?_, (hs _).mpr ⟨i, h1.1, rfl⟩, fun x hx => ?_⟩
      · show walkF name [] ((i : Int).toNat + A.length) = _
        rw [walkF, Int.toNat_natCast]
      · obtain ⟨b, hb, rfl⟩ := (hs x).mp hx
        have := h1.2 b hb; lia
  | A :: B :: r, _, X, a, ha, hl => by
    have hs := starSigns name A ha hl
    show IsLast (effParts name (B :: r) (eff name (sgs A) (upS name X))) (walkF name ((cHeld, A) :: (cPlain, []) :: runsT (B :: r)) a)
    have e : placeF name cHeld A a = optI (occF name A a).head? := by
      unfold placeF; rw [if_pos (by decide)]
    rw [walkF, e]
    cases q : (occF name A a).head? with
    | none =>
      rw [if_pos (by decide)]
      refine .inl ⟨rfl, parts_empty name _ _ fun x hx => ?_⟩
      obtain ⟨b, hb, _⟩ := (hs x).mp hx
      rw [List.head?_eq_none_iff.mp q] at hb; cases hb
    | some i =>
      have h1 := head_least (occ_sorted name A a) q
      rw [if_neg (by show ¬ ((i : Int) < 0); lia), walk_plain]
      show IsLast _ (walkF name (runsT (B :: r)) ((i : Int).toNat + A.length))
      rw [Int.toNat_natCast]
      exact walk_tail name (B :: r) (by simp) _ _ ((hs _).mpr ⟨i, h1.1, rfl⟩) fun x hx => by
        obtain ⟨b, hb, rfl⟩ := (hs x).mp hx
        have := h1.2 b hb; lia

/-! the shell's reach, by its parts -/
theorem effS_parts (name : Sg) : ∀ (path : Sg) (X : Nat → Prop) (h : Sg) (t : List Sg), splitF 42 path = h :: t → effS name path X = effParts name t (eff name (sgs h) X)
  | [], X, h, t, e => by
    rw [splitF] at e
    cases e; rfl
  | c :: path, X, h, t, e => by
    rw [splitF] at e
    by_cases hc : c = 42
    · rw [if_pos hc] at e
      cases e
      match q : splitF 42 path with
      | [] => exact absurd q (splitF_ne 42 path)
      | h' :: t' =>
        have ih := effS_parts name path (upS name X) h' t' q
        show effS name path (effI1 name X (itN c)) = _
        have e2 : itN c = none := by unfold itN; rw [if_pos hc]
        rw [e2]
        exact ih
    · rw [if_neg hc] at e
      match q : splitF 42 path with
      | [] => exact absurd q (splitF_ne 42 path)
      | h' :: t' =>
        rw [q] at e
        cases e
        have ih := effS_parts name path (shS name c X) h' t q
        show effS name path (effI1 name X (itN c)) = _
        have e2 : itN c = some c := by unfold itN; rw [if_neg hc]
        rw [e2]
        exact ih
theorem split_tail : ∀ (path : Sg) (h : Sg) (t : List Sg), splitF 42 path = h :: t → (t = [] ↔ 42 ∉ path)
  | [], h, t, e => by
    rw [splitF] at e
    cases e; simp
  | c :: path, h, t, e => by
    rw [splitF] at e
    by_cases hc : c = 42
    · rw [if_pos hc] at e
      cases e
      constructor
      · intro q; exact absurd q (splitF_ne 42 path)
      · intro q; exact absurd (hc ▸ List.mem_cons_self) q
    · rw [if_neg hc] at e
      match q : splitF 42 path with
      | [] => exact absurd q (splitF_ne 42 path)
      | h' :: t' =>
        rw [q] at e
        cases e
        have ih := split_tail path h' t q
        rw [ih]
        constructor
        · intro q1 q2
          rcases List.mem_cons.mp q2 with q3 | q3
          · exact hc q3.symm
          · exact q1 q3
        · intro q1 q2; exact q1 (.tail _ q2)

theorem lastI_is (name sh : Sg) : IsLast (effS name sh I0) (lastI (tableF sh name)) := by
  unfold lastI
  cases q : (tableF sh name).getLast? with
  | none =>
    refine .inl ⟨rfl, fun x hx => ?_⟩
    have := (table_iff name sh x).mpr hx
    rw [List.getLast?_eq_none_iff.mp q] at this; cases this
  | some k =>
    have h := last_most (table_sorted name sh) q
    exact .inr ⟨k, rfl, (table_iff name sh k).mp h.1, fun x hx => h.2 x ((table_iff name sh x).mpr hx)⟩

theorem walk_ok (name path : Sg) (hs : ∀ c ∈ path, shC c) : walkF name (runsF (piecesF (tpF path))) 0 = lastI (tableF (shellF path) name) := by
  have hp : piecesF (tpF path) = (pathT' path).map Tk.pc := by rw [tpF_toks]; exact pieces_toks goodE_esc _ (pathT_ok hs)
  rw [hp]
  refine IsLast.eq ?_ (lastI_is name (shellF path))
  show IsLast _ (walkF name (RF ([], (cPlain, [])) ((pathT' path).map Tk.pc)) 0)
  have hok := parts_ok hs
  match h : splitF 42 path with
  | [] => exact absurd h (splitF_ne 42 path)
  | [a] =>
    have h42 := (split_tail path a [] h).mp rfl
    have e1 : pathT' path = tlT [a] := by unfold pathT'; rw [h]
    rw [e1, RF_tail [a] (by simp) (h ▸ hok)]
    show IsLast _ (walkF name ((cPlain, []) :: runsT [a]) 0)
    rw [walk_plain]
    have e2 : effS name (shellF path) I0 = effParts name [a] I0 := by
      unfold shellF
      rw [if_neg h42]
      show effS name path (upS name I0) = _
      rw [effS_parts name path _ a [] h]; rfl
    rw [e2]
    exact walk_tail name [a] (by simp) I0 0 rfl fun x _ => Nat.zero_le _
  | a :: b :: t =>
    have h42 : 42 ∈ path := Classical.byContradiction fun q => by
      have := (split_tail path a (b :: t) h).mpr q
      cases this
    rw [h] at hok
    have e1 : pathT' path = sgs a ++ tlT (b :: t) := by unfold pathT'; rw [h]
    rw [e1, List.map_append, RF_sgs a (hok a (.head _)), List.nil_append, RF_tail (b :: t) (by simp) fun p q => hok p (.tail _ q)]
    show IsLast _ (walkF name ((cPlain, a) :: runsT (b :: t)) 0)
    have e2 : effS name (shellF path) I0 = effParts name (b :: t) (eff name (sgs a) I0) := by
      unfold shellF
      rw [if_pos h42, effS_parts name path _ a (b :: t) h]
    rw [e2]
    have e3 : placeF name cPlain a 0 = if (name.take a.length == a) then 0 else -1 := by
      unfold placeF
      rw [if_neg (by decide), if_neg (by decide)]; rfl
    have hX : ∀ k, eff name (sgs a) I0 k ↔ k = a.length ∧ name.take a.length = a := fun k => by
      rw [eff_sgs]
      constructor
      · rintro ⟨b, hb, rfl, hm⟩
        have : b = 0 := hb
        subst this
        exact ⟨by lia, hm⟩
      · rintro ⟨rfl, hm⟩; exact ⟨0, rfl, by lia, hm⟩
    by_cases hm : name.take a.length = a
    · have e4 : placeF name cPlain a 0 = 0 := by rw [e3, if_pos (by simpa using hm)]
      rw [walkF, e4, if_neg (by decide)]
      show IsLast _ (walkF name (runsT (b :: t)) (0 + a.length))
      rw [Nat.zero_add]
      exact walk_tail name (b :: t) (by simp) _ _ ((hX _).mpr ⟨rfl, hm⟩) fun x hx => by rw [((hX x).mp hx).1]; exact Nat.le_refl _
    · have e4 : placeF name cPlain a 0 = -1 := by rw [e3, if_neg (by simpa using hm)]
      rw [walkF, e4, if_pos (by decide)]
      exact .inl ⟨rfl, parts_empty name _ _ fun x hx => hm ((hX x).mp hx).2⟩

theorem math_ok (path name : Sg) (hs : ∀ c ∈ path, shC c) (hp : path.length ≤ 5) (hn : name.length ≤ 7) : MathOk path name := by
  have hsh : ∀ c ∈ shellF path, shC c := shellF_ok hs
  have hl := shellF_len path
  obtain ⟨ts, h1, h2, h3, h4⟩ := toks_shell name (shellF path) hsh
  have hpp : piecesF (tpF path) = (pathT' path).map Tk.pc := by rw [tpF_toks]; exact pieces_toks goodE_esc _ (pathT_ok hs)
  refine ⟨?_, ⟨64 * (name.length + 1), by lia, ?_⟩, ?_, ?_, walk_ok name path hs⟩
  · rw [h1, List.length_map]; lia
  · rw [h1]
    exact ends_tok name ts h2 (by lia) _ (table_sorted name _) (fun k => by rw [table_iff, h3]) _ (Nat.le_refl _)
  · rw [hpp]
    intro p hp'
    obtain ⟨t, _, rfl⟩ := List.mem_map.mp hp'
    cases t <;> first | decide | simp [Tk.pc]
  · rw [hpp, List.length_map]
    have := pathT_len path
    lia
end Mine

/-! ## M6 -/
namespace Mine
/-! the order -/
theorem lex3_iff (x y : R3) : lex3 x y = true ↔ x.1 < y.1 ∨ (x.1 = y.1 ∧ (x.2.1 < y.2.1 ∨ (x.2.1 = y.2.1 ∧ x.2.2 < y.2.2))) := by
  unfold lex3
  by_cases h1 : x.1 = y.1
  · rw [if_pos h1]
    by_cases h2 : x.2.1 = y.2.1
    · rw [if_pos h2, decide_eq_true_eq]; lia
    · rw [if_neg h2, decide_eq_true_eq]; lia
  · rw [if_neg h1, decide_eq_true_eq]; lia
theorem lex3_ff (x y : R3) : lex3 x y = false ↔ ¬ (x.1 < y.1 ∨ (x.1 = y.1 ∧ (x.2.1 < y.2.1 ∨ (x.2.1 = y.2.1 ∧ x.2.2 < y.2.2)))) := by
  rw [← lex3_iff]; simp
theorem lexT {a b c : Int} {P Q R : Prop} (h1 : ¬ (a < b ∨ (a = b ∧ P))) (h2 : ¬ (b < c ∨ (b = c ∧ Q))) (h : ¬ P → ¬ Q → ¬ R) : ¬ (a < c ∨ (a = c ∧ R)) := by
  have ba : b ≤ a := Int.not_lt.mp fun q => h1 (.inl q)
  have cb : c ≤ b := Int.not_lt.mp fun q => h2 (.inl q)
  rintro (q | ⟨rfl, r⟩)
  · exact absurd q (Int.not_lt.mpr (Int.le_trans cb ba))
  · have e : a = b := Int.le_antisymm cb ba
    exact h (fun p => h1 (.inr ⟨e, p⟩)) (fun p => h2 (.inr ⟨e.symm, p⟩)) r
theorem lexA {a b : Int} {P Q : Prop} (h : P → ¬ Q) (h1 : a < b ∨ (a = b ∧ P)) : ¬ (b < a ∨ (b = a ∧ Q)) := by
  rintro (q | ⟨rfl, r⟩) <;> rcases h1 with h1 | ⟨e, p⟩
  · exact absurd q (Int.not_lt.mpr (Int.le_of_lt h1))
  · exact absurd q (e ▸ Int.lt_irrefl _)
  · exact absurd h1 (Int.lt_irrefl _)
  · exact h p r
theorem lexC {a b : Int} {P Q : Prop} (h1 : ¬ (a < b ∨ (a = b ∧ P))) (h : a = b → ¬ P → Q) : b < a ∨ (b = a ∧ Q) := by
  rcases Int.lt_or_eq_of_le (Int.not_lt.mp fun q => h1 (.inl q)) with q | q
  · exact .inl q
  · exact .inr ⟨q, h q.symm fun p => h1 (.inr ⟨q.symm, p⟩)⟩
theorem lex3_ord : LOrd lex3 := ⟨fun a b h => (lex3_ff b a).mpr (lexA (lexA fun h => Int.not_lt.mpr (Int.le_of_lt h)) ((lex3_iff a b).mp h)),
  fun a b c h1 h2 => (lex3_ff c a).mpr (lexT ((lex3_ff c b).mp h2) ((lex3_ff b a).mp h1) fun p q => lexT p q fun p q => Int.not_lt.mpr (Int.le_trans (Int.not_lt.mp q) (Int.not_lt.mp p)))⟩
theorem lex3_tot (a b : R3) (h1 : lex3 a b = false) (h : a ≠ b) : lex3 b a = true :=
  (lex3_iff b a).mpr (lexC ((lex3_ff a b).mp h1) fun e1 p => lexC p fun e2 q => (Int.lt_or_eq_of_le (Int.not_lt.mp q)).resolve_right fun e3 => h (Prod.ext e1 (Prod.ext e2 e3.symm)))

theorem pops_ok (xs : List R3) (hx : IsHeap lex3 xs) : ∀ n, n ≤ xs.length → IsHeap lex3 (leftF n xs) ∧ (popsF n xs ++ leftF n xs).Perm xs ∧ (popsF n xs).Pairwise (fun a b => lex3 b a = false) ∧ ∀ a ∈ popsF n xs, ∀ b ∈ leftF n xs, lex3 b a = false := by
  intro n
  induction n with
  | zero => intro _; exact ⟨hx, List.Perm.refl _, List.Pairwise.nil, fun a ha => by cases ha⟩
  | succ n ih =>
    intro hn
    obtain ⟨i1, i2, i3, i4⟩ := ih (by lia)
    have hlen := leftF_len xs n
    have hsplit : leftF n xs = (leftF n xs).dropLast ++ [(leftF n xs).getLastD (0, 0, 0)] := by
      rcases List.eq_nil_or_concat (leftF n xs) with q | ⟨l, x, q⟩
      · rw [q] at hlen; simp at hlen; lia
      · rw [q]; simp
    have sp := pop_spec lex3_ord (leftF n xs).dropLast ((leftF n xs).getLastD (0, 0, 0)) (by rw [← hsplit]; exact i1)
    rw [← hsplit] at sp
    obtain ⟨s1, s2, s3⟩ := sp
    refine ⟨s1, ?_, ?_, ?_⟩
    · show (popsF n xs ++ [(pop3 (leftF n xs)).1] ++ (pop3 (leftF n xs)).2).Perm xs
      rw [List.append_assoc]
      exact (List.Perm.append_left _ s2).trans i2
    · refine List.pairwise_append.mpr ⟨i3, by simp, fun a ha b hb => ?_⟩
      rw [List.mem_singleton.mp hb]
      exact i4 a ha _ (s2.mem_iff.mp (.head _))
    · intro a ha b hb
      have hb' : b ∈ leftF n xs := s2.mem_iff.mp (.tail _ hb)
      rcases List.mem_append.mp ha with ha | ha
      · exact i4 a ha b hb'
      · rw [List.mem_singleton.mp ha]; exact s3 b hb
theorem heap3 (a b c : R3) : IsHeap lex3 (heap0 [a, b, c]) ∧ (heap0 [a, b, c]).Perm [a, b, c] := by
  have e : heap0 [a, b, c] = siftupF lex3 [a, b, c] 0 a := by
    have h : [a, b, c].length / 2 = 0 + 1 := by simp
    unfold heap0
    rw [h, heapifyF, heapifyF]; rfl
  rw [e]
  refine ⟨siftup_heap lex3_ord _ _ (by simp) ⟨fun i j x y hij hj hi ea eb => ?_, fun i j x y hi => by unfold Kid at hi; lia⟩, siftup_perm a [a, b, c] 0 (by simp)⟩
  exfalso
  have := (List.getElem?_eq_some_iff.mp eb).1
  unfold Kid at hij
  simp at this; lia

theorem strict_ext {α : Type} {lt : α → α → Prop} (as : ∀ a b, lt a b → ¬ lt b a) : ∀ {l1 l2 : List α}, l1.Pairwise lt → l2.Pairwise lt → (∀ x, x ∈ l1 ↔ x ∈ l2) → l1 = l2
  | [], [], _, _, _ => rfl
  | [], b :: l2, _, _, h => by have := (h b).mpr (.head _); cases this
  | a :: l1, [], _, _, h => by have := (h a).mp (.head _); cases this
  | a :: l1, b :: l2, h1, h2, h => by
    obtain ⟨p1, p2⟩ := List.pairwise_cons.mp h1
    obtain ⟨q1, q2⟩ := List.pairwise_cons.mp h2
    have hab : a = b := by
      rcases List.mem_cons.mp ((h a).mp (.head _)) with e | e
      · exact e
      · rcases List.mem_cons.mp ((h b).mpr (.head _)) with e' | e'
        · exact e'.symm
        · exact absurd (q1 a e) (as _ _ (p1 b e'))
    subst hab
    congr 1
    refine strict_ext as p2 q2 fun x => ⟨fun hx => ?_, fun hx => ?_⟩
    · rcases List.mem_cons.mp ((h x).mp (.tail _ hx)) with e | e
      · subst e; exact absurd (p1 x hx) (as _ _ (p1 x hx))
      · exact e
    · rcases List.mem_cons.mp ((h x).mpr (.tail _ hx)) with e | e
      · subst e; exact absurd (q1 x hx) (as _ _ (q1 x hx))
      · exact e

theorem lastI_range (name sh : Sg) : -1 ≤ lastI (tableF sh name) ∧ lastI (tableF sh name) ≤ name.length ∧ (lastI (tableF sh name) = name.length ↔ name.length ∈ tableF sh name) := by
  unfold lastI
  have hle : ∀ k ∈ tableF sh name, k ≤ name.length := fun k hk => effS_le name sh k ((table_iff name sh k).mp hk)
  cases q : (tableF sh name).getLast? with
  | none =>
    rw [List.getLast?_eq_none_iff.mp q]
    refine ⟨by simp, by first | (simp; done) | (simp; lia), by first | (simp; done) | (simp; lia)⟩
  | some k =>
    have h := last_most (table_sorted name sh) q
    have := hle k h.1
    refine ⟨by show (-1 : Int) ≤ (k : Int); lia, by show (k : Int) ≤ name.length; lia, ?_⟩
    show ((k : Int) = (name.length : Int)) ↔ _
    constructor
    · intro e; have : k = name.length := by lia
      rw [← this]; exact h.1
    · intro e; have := h.2 _ e; lia
theorem end_due (cells : List Int) (name : Sg) (r : Nat) : endD cells name r = dueD cells name r ∧ -1 ≤ dueD cells name r ∧ dueD cells name r ≤ name.length := by
  obtain ⟨h1, h2, h3⟩ := lastI_range name (shellF (pathF cells r))
  have h1' : -1 ≤ lastI (tabD cells name r) := h1
  have h2' : lastI (tabD cells name r) ≤ name.length := h2
  have h3' : lastI (tabD cells name r) = name.length ↔ name.length ∈ tabD cells name r := h3
  unfold endD dueD
  by_cases hb : bit (cells.getD 23 0) r = 1
  · rw [if_pos hb, if_pos hb]
    by_cases hm : name.length ∈ tabD cells name r
    · rw [if_pos hm, if_pos (h3'.mpr hm)]
      exact ⟨h3'.mpr hm, by lia, by lia⟩
    · rw [if_neg hm, if_neg (fun q => hm (h3'.mp q))]
      exact ⟨rfl, by lia, by lia⟩
  · rw [if_neg hb, if_neg hb]
    exact ⟨rfl, h1', h2'⟩
theorem ver_01 (cells : List Int) (r : Nat) : verD cells r = 1 ∨ verD cells r = 0 := by
  unfold verD bit
  generalize cells.getD 22 0 / 2 ^ ((r : Int)).toNat = x
  lia

theorem order_ok (cells : List Int) (name : Sg) :
    (popsF 3 (heap0 (rowsD cells name 3))).map (·.2.2) = orderF name.length ((List.range 3).map (dueD cells name)) ((List.range 3).map (verD cells)) := by
  have hrows : rowsD cells name 3 = [rowD cells name 0, rowD cells name 1, rowD cells name 2] := rfl
  obtain ⟨hh, hp⟩ := heap3 (rowD cells name 0) (rowD cells name 1) (rowD cells name 2)
  rw [hrows]
  generalize heap0 [rowD cells name 0, rowD cells name 1, rowD cells name 2] = H at hh hp
  have hlen : H.length = 3 := by rw [hp.length_eq]; rfl
  obtain ⟨p1, p2, p3, -⟩ := pops_ok H hh 3 (by lia)
  have hl0 : leftF 3 H = [] := List.length_eq_zero_iff.mp (by rw [leftF_len]; lia)
  rw [hl0, List.append_nil] at p2
  have hperm := p2.trans hp
  generalize popsF 3 H = L at p3 hperm
  let ρ : Int → R3 := fun x => rowD cells name x.toNat
  let lt : Int → Int → Prop := fun x y => lex3 (ρ x) (ρ y) = true
  have hmem : ∀ x, x ∈ L ↔ x = rowD cells name 0 ∨ x = rowD cells name 1 ∨ x = rowD cells name 2 := fun x => by rw [hperm.mem_iff]; simp
  have hρ : ∀ x ∈ L, ρ x.2.2 = x := fun x hx => by
    rcases (hmem x).mp hx with rfl | rfl | rfl <;> rfl
  have hnd : L.Nodup := by
    rw [hperm.nodup_iff]
    have ne : ∀ a b : Nat, a ≠ b → rowD cells name a ≠ rowD cells name b := fun a b h e => by
      have : ((rowD cells name a).2.2 : Int) = (rowD cells name b).2.2 := by rw [e]
      have : (a : Int) = (b : Int) := this
      lia
    simp only [List.nodup_cons, List.mem_cons, List.not_mem_nil, or_false, not_or, not_false_eq_true, List.nodup_nil, and_true]
    exact ⟨⟨ne 0 1 (by decide), ne 0 2 (by decide)⟩, ne 1 2 (by decide)⟩
  have getF : ∀ r, r < 3 → ((List.range 3).map (dueD cells name)).getD r 0 = dueD cells name r ∧ ((List.range 3).map (verD cells)).getD r 0 = verD cells r := fun r hr => by
    have : r = 0 ∨ r = 1 ∨ r = 2 := by lia
    rcases this with rfl | rfl | rfl <;> exact ⟨rfl, rfl⟩
  have hpick : ∀ (i : Nat) (v x : Int), x ∈ pickO name.length ((List.range 3).map (dueD cells name)) ((List.range 3).map (verD cells)) i v ↔ ∃ r : Nat, r < 3 ∧ x = r ∧ dueD cells name r = (name.length : Int) - i ∧ verD cells r = v := fun i v x => by
    unfold pickO
    rw [List.mem_map]
    constructor
    · rintro ⟨r, h1, rfl⟩
      rw [List.mem_filter, List.mem_range] at h1
      obtain ⟨h1, h2⟩ := h1
      rw [(getF r h1).1, (getF r h1).2] at h2
      simp only [Bool.and_eq_true, beq_iff_eq] at h2
      exact ⟨r, h1, rfl, by lia, h2.2⟩
    · rintro ⟨r, h1, rfl, h2, h3⟩
      refine ⟨r, ?_, rfl⟩
      rw [List.mem_filter, List.mem_range]
      refine ⟨h1, ?_⟩
      rw [(getF r h1).1, (getF r h1).2]
      simp only [Bool.and_eq_true, beq_iff_eq]
      exact ⟨by lia, h3⟩
  have hround : ∀ (i : Nat) (x : Int), x ∈ roundO name.length ((List.range 3).map (dueD cells name)) ((List.range 3).map (verD cells)) i ↔ ∃ r : Nat, r < 3 ∧ x = r ∧ dueD cells name r = (name.length : Int) - i := fun i x => by
    unfold roundO
    simp only [List.flatMap_cons, List.flatMap_nil, List.append_nil, List.mem_append, hpick]
    constructor
    · rintro (⟨r, h1, h2, h3, _⟩ | ⟨r, h1, h2, h3, _⟩) <;> exact ⟨r, h1, h2, h3⟩
    · rintro ⟨r, h1, h2, h3⟩
      rcases ver_01 cells r with q | q
      · exact .inl ⟨r, h1, h2, h3, q⟩
      · exact .inr ⟨r, h1, h2, h3, q⟩
  have key : ∀ (r : Nat), (rowD cells name r).1 = -1 - dueD cells name r ∧ (rowD cells name r).2.1 = 1 - verD cells r ∧ (rowD cells name r).2.2 = r := fun r => by
    unfold rowD
    rw [(end_due cells name r).1]
    exact ⟨rfl, rfl, rfl⟩
  have ltk : ∀ r s : Nat, (-1 - dueD cells name r < -1 - dueD cells name s ∨ (dueD cells name r = dueD cells name s ∧ (1 - verD cells r < 1 - verD cells s ∨ (verD cells r = verD cells s ∧ r < s)))) → lt (r : Int) (s : Int) := fun r s h => by
    show lex3 (rowD cells name (r : Int).toNat) (rowD cells name (s : Int).toNat) = true
    rw [Int.toNat_natCast, Int.toNat_natCast, lex3_iff]
    obtain ⟨k1, k2, k3⟩ := key r
    obtain ⟨l1, l2, l3⟩ := key s
    rw [k1, k2, k3, l1, l2, l3]
    lia
  refine strict_ext (lt := lt) (fun a b h1 h2 => ?_) ?_ ?_ ?_
  · have := lex3_ord.asy _ _ h1
    rw [show lex3 (ρ b) (ρ a) = true from h2] at this
    cases this
  · rw [List.pairwise_map]
    refine ((p3.and hnd).imp_of_mem ?_)
    intro a b ha hb h
    show lex3 (ρ a.2.2) (ρ b.2.2) = true
    rw [hρ a ha, hρ b hb]
    exact lex3_tot b a h.1 (Ne.symm h.2)
  · unfold orderF
    rw [List.pairwise_flatMap]
    refine ⟨fun i _ => ?_, List.pairwise_lt_range.imp fun {i j} hij x hx y hy => ?_⟩
    · unfold roundO
      rw [List.pairwise_flatMap]
      refine ⟨fun v _ => ?_, ?_⟩
      · unfold pickO
        rw [List.pairwise_map]
        refine ((List.Pairwise.filter _ (List.pairwise_lt_range (n := 3))).imp_of_mem ?_)
        intro r s hr hs h
        rw [List.mem_filter, List.mem_range] at hr hs
        have h1 := hr.2
        have h2 := hs.2
        rw [(getF r hr.1).1, (getF r hr.1).2] at h1
        rw [(getF s hs.1).1, (getF s hs.1).2] at h2
        simp only [Bool.and_eq_true, beq_iff_eq] at h1 h2
        exact ltk r s (.inr ⟨by lia, .inr ⟨by lia, h⟩⟩)
      · refine List.pairwise_cons.mpr ⟨fun v hv x hx y hy => ?_, by simp⟩
        rw [List.mem_singleton.mp hv] at hy
        obtain ⟨r, _, rfl, h1, h2⟩ := (hpick i 1 x).mp hx
        obtain ⟨s, _, rfl, h3, h4⟩ := (hpick i 0 y).mp hy
        exact ltk r s (.inr ⟨by lia, .inl (by lia)⟩)
    · obtain ⟨r, _, rfl, h1⟩ := (hround i x).mp hx
      obtain ⟨s, _, rfl, h3⟩ := (hround j y).mp hy
      exact ltk r s (.inl (by lia))
  · intro x
    rw [List.mem_map]
    unfold orderF
    rw [List.mem_flatMap]
    constructor
    · rintro ⟨y, hy, rfl⟩
      obtain ⟨r, hr, rfl⟩ : ∃ r : Nat, r < 3 ∧ y = rowD cells name r := by
        rcases (hmem y).mp hy with q | q | q
        · exact ⟨0, by decide, q⟩
        · exact ⟨1, by decide, q⟩
        · exact ⟨2, by decide, q⟩
      obtain ⟨_, d1, d2⟩ := end_due cells name r
      refine ⟨((name.length : Int) - dueD cells name r).toNat, List.mem_range.mpr (by lia), (hround _ _).mpr ⟨r, hr, (key r).2.2, by lia⟩⟩
    · rintro ⟨i, _, hx⟩
      obtain ⟨r, hr, rfl, _⟩ := (hround i x).mp hx
      refine ⟨rowD cells name r, (hmem _).mpr ?_, (key r).2.2⟩
      have : r = 0 ∨ r = 1 ∨ r = 2 := by lia
      rcases this with rfl | rfl | rfl
      · exact .inl rfl
      · exact .inr (.inl rfl)
      · exact .inr (.inr rfl)

theorem law_ok (script : List Int) : LawOk script where
  math := fun r _ => math_ok _ _ (pathF_ok _ r) (pathF_len _ r) (nameF_len _)
  order := order_ok _ _
end Mine

/-! ## F5 -/
namespace Mine

end Mine

theorem PySem.Challenge.cw_in0169_01_holds : PySem.Challenge.rw_in0169_01.Holds := by
  exact Mine.row_of Mine.law_ok
