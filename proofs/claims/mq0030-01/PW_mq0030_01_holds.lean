import PyProof.Rows.All
import Wide.All
import OpenK.AllK
import Wide.FinOn
import PySem.Challenge.RW_mq0030_01

set_option Elab.async false
set_option maxRecDepth 100000
set_option maxHeartbeats 1000000
set_option linter.all false
namespace Mine
open PySem PySem.W PySem.Spec PySem.Calls PyProof.Rows

noncomputable section
/-- items of a list, by the recursors (the kernel reckons these faster) -/
noncomputable def hget {α : Type} (H : List α) (n : Nat) : Option α := @List.rec α (fun _ => Nat → Option α) (fun _ => none) (fun a _ ih n => @Nat.rec (fun _ => Option α) (some a) (fun m _ => ih m) n) H n
noncomputable def hset {α : Type} (H : List α) (n : Nat) (x : α) : List α := @List.rec α (fun _ => Nat → List α) (fun _ => []) (fun a l ih n => @Nat.rec (fun _ => List α) (x :: l) (fun m _ => a :: ih m) n) H n
noncomputable def hlen {α : Type} (H : List α) : Nat := @List.rec α (fun _ => Nat) Nat.zero (fun _ _ ih => Nat.succ ih) H
noncomputable def happ {α : Type} (H : List α) (x : α) : List α := @List.rec α (fun _ => List α) [x] (fun a _ ih => a :: ih) H
theorem hlen_eq {α : Type} : ∀ (H : List α), hlen H = H.length
  | [] => rfl
  | _ :: l => by show Nat.succ (hlen l) = _; rw [hlen_eq l]; rfl
theorem happ_eq {α : Type} : ∀ (H : List α) (x : α), happ H x = H ++ [x]
  | [], _ => rfl
  | a :: l, x => by show a :: happ l x = _; rw [happ_eq l x]; rfl
theorem hget_eq {α : Type} : ∀ (H : List α) (n : Nat), hget H n = H[n]?
  | [], _ => rfl
  | _ :: _, 0 => rfl
  | _ :: l, n + 1 => by show hget l n = _; rw [hget_eq l n]; rfl
theorem hset_eq {α : Type} : ∀ (H : List α) (n : Nat) (x : α), hset H n x = H.set n x
  | [], _, _ => rfl
  | _ :: _, 0, _ => rfl
  | a :: l, n + 1, x => by show a :: hset l n x = _; rw [hset_eq l n x]; rfl

/-! the mini values, objects, states -/
inductive MV where
  | none
  | bool (b : Bool)
  | int (i : Int)
  | ref (n : Nat)
  | out (a : Addr)

inductive MO where
  | list (vs : List MV)
  | tup (vs : List MV)
  | dict (kvs : List (Int × MV)) (ep : Option Nat)
  | set (ks : List Int)
  | inst (C : Nat) (d : Nat) (sl : List (Option MV))
  | attrs (kvs : List (Nat × MV))
  | listIt (l i : Nat)
  | freshIt (l : Nat)
  | tupIt (l i : Nat)
  | range (a b : Int)
  | rangeIt (x left : Int)
  | keyIt (d i n ep : Nat)
  | wrap (it : Nat)
  | junk

structure St where
  loc : List (Option MV)
  H : List MO

inductive Fl where
  | next | brk | cont
  | ret (v : MV)

noncomputable def VR (as : List Addr) : MV → Value → Prop
  | .none, v => v = .none
  | .bool b, v => v = .bool b
  | .int i, v => ∃ t, v = .int i t
  | .ref n, v => ∃ a, as[n]? = some a ∧ v = .ref a
  | .out a, v => v = .ref a

inductive All2 {α β : Type} (R : α → β → Prop) : List α → List β → Prop
  | nil : All2 R [] []
  | cons {a b l r} : R a b → All2 R l r → All2 R (a :: l) (b :: r)

/-- names of attributes by number -/
noncomputable def anm : Nat → Str
  | 0 => "_node2info"
  | 1 => "_ready_nodes"
  | 2 => "_npassedout"
  | 3 => "_nfinished"
  | _ => "?"

structure Gl where
  prog : Program
  w : World
  K : Frag
  p : Program
  loose : List Str
  mean : ExcName → Option Value
  mg : Str → Option Value
  mb : Str → Option Value
  S : Heap → Prop

noncomputable def KV (as : List Addr) (x : Int × MV) (y : Int × Value) : Prop := x.1 = y.1 ∧ VR as x.2 y.2
noncomputable def AV (as : List Addr) (x : Nat × MV) (y : DictEntry) : Prop := (∃ t, y.key = .str (anm x.1) t) ∧ VR as x.2 y.val
noncomputable def SV (as : List Addr) : Option MV → Option Value → Prop
  | none, none => True
  | some v, some w => VR as v w
  | _, _ => False

noncomputable def OR (G : Gl) (as : List Addr) : MO → Obj → Prop
  | .list vs, o => ∃ items n, o = listOf items n ∧ All2 (VR as) vs items.toList
  | .tup vs, o => ∃ items, o = { cls := .type "tuple", data := .seq items } ∧ All2 (VR as) vs items.toList
  | .dict kvs ep, o => ∃ es kvs' n, o.ExactDict ∧ o.data = .dict es n ∧ KeysOf (intKind G.prog G.w) es ∧ Pairs (intKind G.prog G.w) es.toList kvs' ∧ (kvs'.map (·.1)).Nodup ∧ All2 (KV as) kvs kvs' ∧ (∀ e, ep = some e → e = n)
  | .set ks, o => ∃ es ep t, o.ExactSet ∧ o.data = .set es ep t ∧ ElemsOf (intKind G.prog G.w) es.toList ∧ (∀ k, ks.contains k = true ↔ ∃ e ∈ es.toList, (intKind G.prog G.w).is k e.2 = true) ∧ es.size < scanBound ∧ t.fits es.size = true ∧ es.size = ks.length
  | .inst C d sl, o => ∃ dx slv, as[d]? = some dx ∧ o = { cls := .ref C, dict := some dx, data := .plain, slots := slv } ∧ All2 (SV as) sl slv.toList
  | .attrs kvs, o => ∃ es n, o = dictOf es n ∧ All2 (AV as) kvs es
  | .listIt l i, o => ∃ a, as[l]? = some a ∧ o.cls = .type "list_iterator" ∧ o.data = .fields #[.ref a, .int i 0]
  | .freshIt l, o => ∃ a, as[l]? = some a ∧ o = { cls := .type "list_iterator", data := .fields #[.ref a, .int 0 0] }
  | .tupIt l i, o => ∃ a, as[l]? = some a ∧ o.cls = .type "tuple_iterator" ∧ o.data = .fields #[.ref a, .int i 0]
  | .range a b, o => ∃ t u v, o = { cls := .type "range", data := .fields #[.int a t, .int b u, .int 1 v] }
  | .rangeIt x left, o => o = { cls := .type "range_iterator", data := .fields #[rawInt x, rawInt left, rawInt 1] }
  | .keyIt d i n ep, o => ∃ a, as[d]? = some a ∧ o.cls = .type "dict_keyiterator" ∧ o.data = .fields #[.ref a, .int i 0, .int n 0, .int ep 0]
  | .wrap it, o => ∃ a, as[it]? = some a ∧ o = { cls := .type "method-wrapper", data := .fields #[.builtin "list_iterator.__next__", .ref a] }
  | .junk, _ => True

theorem getElem?_pre {α : Type} {as as' : List α} (h : as <+: as') {i : Nat} {a : α} (e : as[i]? = some a) : as'[i]? = some a := by
  obtain ⟨r, rfl⟩ := h
  rw [List.getElem?_append_left (List.getElem?_eq_some_iff.mp e).1]; exact e
theorem VR.mono {as as' : List Addr} (h : as <+: as') : ∀ {v : MV} {V : Value}, VR as v V → VR as' v V
  | .none, _, e => e
  | .bool _, _, e => e
  | .int _, _, e => e
  | .ref _, _, ⟨a, e, r⟩ => ⟨a, getElem?_pre h e, r⟩
  | .out _, _, e => e
theorem All2.imp {α β : Type} {R S : α → β → Prop} (h : ∀ a b, R a b → S a b) : ∀ {l r}, All2 R l r → All2 S l r
  | _, _, .nil => .nil
  | _, _, .cons a b => .cons (h _ _ a) (b.imp h)
theorem All2.length {α β : Type} {R : α → β → Prop} : ∀ {l r}, All2 R l r → l.length = r.length
  | _, _, .nil => rfl
  | _, _, .cons _ b => by simp [b.length]
theorem All2.get {α β : Type} {R : α → β → Prop} : ∀ {l r}, All2 R l r → ∀ {i : Nat} {a}, l[i]? = some a → ∃ b, r[i]? = some b ∧ R a b
  | _, _, .nil, i, a, e => by simp at e
  | _, _, .cons (b := b) x y, 0, a, e => ⟨b, rfl, by simp at e; subst e; exact x⟩
  | _, _, .cons x y, i + 1, a, e => by simpa using y.get (by simpa using e)
theorem All2.append {α β : Type} {R : α → β → Prop} {l₂ r₂} (h : All2 R l₂ r₂) : ∀ {l r}, All2 R l r → All2 R (l ++ l₂) (r ++ r₂)
  | _, _, .nil => h
  | _, _, .cons x y => .cons x (All2.append h y)
theorem All2.set {α β : Type} {R : α → β → Prop} {a b} (h : R a b) : ∀ {l r}, All2 R l r → ∀ i, All2 R (l.set i a) (r.set i b)
  | _, _, .nil, _ => .nil
  | _, _, .cons x y, 0 => .cons h y
  | _, _, .cons x y, i + 1 => .cons x (y.set h i)
theorem SV.mono {as as' : List Addr} (h : as <+: as') : ∀ {v : Option MV} {V : Option Value}, SV as v V → SV as' v V
  | none, none, _ => trivial
  | some _, some _, e => VR.mono h e
  | none, some _, e => e.elim
  | some _, none, e => e.elim
theorem OR.mono {G : Gl} {as as' : List Addr} (h : as <+: as') {mo : MO} {o : Obj} (x : OR G as mo o) : OR G as' mo o := by
  cases mo with
  | list vs => obtain ⟨i, n, e, r⟩ := x; exact ⟨i, n, e, r.imp fun _ _ => VR.mono h⟩
  | tup vs => obtain ⟨i, e, r⟩ := x; exact ⟨i, e, r.imp fun _ _ => VR.mono h⟩
  | dict kvs ep => obtain ⟨es, kvs', n, a, b, c, d, e, r, u⟩ := x; exact ⟨es, kvs', n, a, b, c, d, e, r.imp fun _ _ z => ⟨z.1, z.2.mono h⟩, u⟩
  | set ks => exact x
  | inst C d sl => obtain ⟨dx, sl, a, b, r⟩ := x; exact ⟨dx, sl, getElem?_pre h a, b, r.imp fun _ _ => SV.mono h⟩
  | attrs kvs => obtain ⟨es, n, e, r⟩ := x; exact ⟨es, n, e, r.imp fun _ _ z => ⟨z.1, z.2.mono h⟩⟩
  | listIt l i => obtain ⟨a, y, r⟩ := x; exact ⟨a, getElem?_pre h y, r⟩
  | freshIt l => obtain ⟨a, y, r⟩ := x; exact ⟨a, getElem?_pre h y, r⟩
  | tupIt l i => obtain ⟨a, y, r⟩ := x; exact ⟨a, getElem?_pre h y, r⟩
  | range a b => exact x
  | rangeIt a b => exact x
  | keyIt d i n ep => obtain ⟨a, y, r⟩ := x; exact ⟨a, getElem?_pre h y, r⟩
  | wrap it => obtain ⟨a, y, r⟩ := x; exact ⟨a, getElem?_pre h y, r⟩
  | junk => trivial

/-! the frame -/
structure Fx where
  A₀ : Around
  A : Around
  base : Heap
  h₀ : Heap
  outer : List Env
  cn : Str
  cs : Scope
  L : Addr
  a : Addr
  cd : Value
  s₀ : Shared

abbrev Fx.env (Γ : Fx) : Env := envOf Γ.cn Γ.cs Γ.L Γ.a Γ.cd

structure FxOk (G : Gl) (D : Nat) (Γ : Fx) : Prop where
  B : Below Γ.A₀ Γ.base Γ.outer Γ.h₀
  X : G.K.In Γ.base
  T : Top G.p G.loose G.mean G.mg G.mb Γ.base
  fr : Γ.A.frames = some (Γ.env :: Γ.outer)
  kind : Γ.cs.kind = .function
  nd : (Γ.cs.names.map (·.1)).Nodup
  depth : Γ.A.depth ≤ D
  units : Γ.A.units ≤ 4 * D
  small : D ≤ 900
  scr : G.S Γ.base

noncomputable def isJunk : MO → Bool
  | .junk => true
  | _ => false

noncomputable def isDictO : MO → Bool
  | .dict _ _ => true
  | _ => false

/-- the mini heap: what is junk is not known at all -/
structure HRel (G : Gl) (h₀ : Heap) (L : Addr) (as : List Addr) (H : List MO) (h : Heap) : Prop where
  nod : ∀ (i j : Nat) (a : Addr) (mi mj : MO), as[i]? = some a → as[j]? = some a → H[i]? = some mi → H[j]? = some mj → isJunk mi = false → isJunk mj = false → i = j
  len : as.length = H.length
  ob : ∀ (i : Nat) (a : Addr) (mo : MO), as[i]? = some a → H[i]? = some mo → isJunk mo = false → ∃ o, h.get? a = some o ∧ OR G as mo o ∧ a ≠ L ∧ h₀.get? a = none ∧ (isDictO mo = true → sysModules < a)

noncomputable def LR (cs : Scope) (as : List Addr) (loc : List (Option MV)) (m : Str → Option Value) : Prop :=
  ∀ (k : Nat) (x : Str) (kd : NameKind) (v : MV), cs.names[k]? = some (x, kd) → loc[k]? = some (some v) → ∃ V, m x = some V ∧ VR as v V

noncomputable def frs (l : List Env) : List Addr := l.filterMap (·.frame)

/-- the heap below the frame: that of the frame's start, but for the slots of the outer frames -/
structure Ground (Γ : Fx) (h₀ : Heap) : Prop where
  sz : h₀.objs.size = Γ.h₀.objs.size
  no : ∀ b, Γ.h₀.get? b = none → h₀.get? b = none
  kp : ∀ b o, Γ.h₀.get? b = some o → b ∉ frs Γ.outer → h₀.get? b = some o
  sl : ∀ b o, Γ.h₀.get? b = some o → ∃ sl, h₀.get? b = some { o with slots := sl }

structure RelAt (G : Gl) (Γ : Fx) (h₀ : Heap) (as : List Addr) (st : St) (s : Shared) : Prop where
  gd : Ground Γ h₀
  gens : s.gens = Γ.s₀.gens
  drawn : s.drawn = Γ.s₀.drawn
  os : s.os = Γ.s₀.os
  low : sysModules < Γ.h₀.objs.size
  fr : ∃ m, Fr h₀ Γ.L s.heap m ∧ LR Γ.cs as st.loc m
  hp : HRel G h₀ Γ.L as st.H s.heap

noncomputable def Rel (G : Gl) (Γ : Fx) (as : List Addr) (st : St) (s : Shared) : Prop := ∃ h₀, RelAt G Γ h₀ as st s
section
variable {G : Gl} {Γ : Fx} {as : List Addr} {st : St} {s : Shared} {D : Nat}
noncomputable def Rel.h₀ (R : Rel G Γ as st s) : Heap := R.choose
theorem Rel.at (R : Rel G Γ as st s) : RelAt G Γ R.h₀ as st s := R.choose_spec
theorem Rel.gd (R : Rel G Γ as st s) : Ground Γ R.h₀ := R.at.gd
theorem Rel.gens (R : Rel G Γ as st s) : s.gens = Γ.s₀.gens := R.at.gens
theorem Rel.drawn (R : Rel G Γ as st s) : s.drawn = Γ.s₀.drawn := R.at.drawn
theorem Rel.os (R : Rel G Γ as st s) : s.os = Γ.s₀.os := R.at.os
theorem Rel.low (R : Rel G Γ as st s) : sysModules < Γ.h₀.objs.size := R.at.low
theorem Rel.fr (R : Rel G Γ as st s) : ∃ m, Fr R.h₀ Γ.L s.heap m ∧ LR Γ.cs as st.loc m := R.at.fr
theorem Rel.hp (R : Rel G Γ as st s) : HRel G R.h₀ Γ.L as st.H s.heap := R.at.hp
theorem Ground.base {h₀ : Heap} (g : Ground Γ h₀) (ok : FxOk G D Γ) : Γ.base.StaysIn h₀ := fun b o e => g.kp b o (ok.B.stays b o e) fun hm => by
  rw [(ok.B.frames.mem hm).1] at e; cases e
theorem Ground.B {h₀ : Heap} (g : Ground Γ h₀) (ok : FxOk G D Γ) : Below Γ.A₀ Γ.base Γ.outer h₀ :=
  ⟨ok.B.stack, g.base ok, ok.B.frames.of_keeps fun b o e _ => let ⟨_, x⟩ := g.sl b o e; ⟨_, x, rfl⟩⟩
theorem Rel.X (R : Rel G Γ as st s) (ok : FxOk G D Γ) : G.K.In R.h₀ := ok.X.keeps (R.gd.base ok)
theorem Rel.T (R : Rel G Γ as st s) (ok : FxOk G D Γ) : Top G.p G.loose G.mean G.mg G.mb R.h₀ := ok.T.keeps (R.gd.base ok)
theorem Rel.B (R : Rel G Γ as st s) (ok : FxOk G D Γ) : Below Γ.A₀ Γ.base Γ.outer R.h₀ := R.gd.B ok
end

theorem LR.mono {cs as as' loc m} (h : as <+: as') (r : LR cs as loc m) : LR cs as' loc m := fun k x kd v a b =>
  let ⟨V, c, d⟩ := r k x kd v a b; ⟨V, c, d.mono h⟩

section
variable {G : Gl} {h₀ h h' : Heap} {L : Addr} {as : List Addr} {H : List MO}

theorem HRel.keep (R : HRel G h₀ L as H h) (k : ∀ a, a ≠ L → ∀ o, h.get? a = some o → h'.get? a = some o) : HRel G h₀ L as H h' :=
  ⟨R.nod, R.len, fun i a mo e f g => let ⟨o, x, y, z, u⟩ := R.ob i a mo e f g; ⟨o, k a z o x, y, z, u⟩⟩

/-- a new object -/
theorem HRel.add (R : HRel G h₀ L as H h) {a : Addr} {o : Obj} {mo : MO} (hn : ∀ (i : Nat) (b : Addr) (mb : MO), as[i]? = some b → H[i]? = some mb → isJunk mb = false → b ≠ a) (k : ∀ b, b ≠ L → b ≠ a → ∀ o, h.get? b = some o → h'.get? b = some o)
    (ho : h'.get? a = some o) (hr : OR G (as ++ [a]) mo o) (hL : a ≠ L) (h0 : h₀.get? a = none) (hlo : isDictO mo = true → sysModules < a) : HRel G h₀ L (as ++ [a]) (H ++ [mo]) h' := by
  have split : ∀ (i : Nat) (b : Addr) (mb : MO), (as ++ [a])[i]? = some b → (H ++ [mo])[i]? = some mb → (as[i]? = some b ∧ H[i]? = some mb) ∨ (i = as.length ∧ b = a ∧ mb = mo) := by
    intro i b mb e f
    rcases Nat.lt_trichotomy i as.length with hi | hi | hi
    · rw [List.getElem?_append_left hi] at e
      rw [List.getElem?_append_left (R.len ▸ hi)] at f
      exact .inl ⟨e, f⟩
    · subst hi
      rw [List.getElem?_append_right (Nat.le_refl _)] at e
      rw [R.len, List.getElem?_append_right (Nat.le_refl _)] at f
      simp at e f
      exact .inr ⟨rfl, e.symm, f.symm⟩
    · rw [List.getElem?_eq_none (by simp; omega)] at e; cases e
  refine ⟨fun i j b mi mj e1 e2 f1 f2 g1 g2 => ?_, by simp [R.len], fun i b mb e f g => ?_⟩
  · rcases split i b mi e1 f1 with ⟨x1, y1⟩ | ⟨x1, y1, z1⟩ <;> rcases split j b mj e2 f2 with ⟨x2, y2⟩ | ⟨x2, y2, z2⟩
    · exact R.nod i j b mi mj x1 x2 y1 y2 g1 g2
    · exact absurd y2 (hn i b mi x1 y1 g1)
    · exact absurd y1 (hn j b mj x2 y2 g2)
    · rw [x1, x2]
  · rcases split i b mb e f with ⟨x1, y1⟩ | ⟨x1, rfl, rfl⟩
    · obtain ⟨ob, x, y, z, u⟩ := R.ob i b mb x1 y1 g
      exact ⟨ob, k b z (hn i b mb x1 y1 g) ob x, y.mono (List.prefix_append ..), z, u⟩
    · exact ⟨o, ho, hr, hL, h0, hlo⟩

theorem set_split {i j : Nat} {mo mb : MO} (hj : (H.set i mo)[j]? = some mb) : (j = i ∧ mb = mo ∧ i < H.length) ∨ (j ≠ i ∧ H[j]? = some mb) := by
  by_cases q : j = i
  · subst q
    have hl : j < H.length := by
      have := (List.getElem?_eq_some_iff.mp hj).1
      simpa using this
    rw [List.getElem?_set_self hl] at hj; cases hj
    exact .inl ⟨rfl, rfl, hl⟩
  · rw [List.getElem?_set_ne (Ne.symm q)] at hj
    exact .inr ⟨q, hj⟩

/-- one object changed -/
theorem HRel.set (R : HRel G h₀ L as H h) {i : Nat} {a : Addr} {o : Obj} {mo old : MO} (ha : as[i]? = some a) (hold : H[i]? = some old) (hj : isJunk old = false) (k : ∀ b, b ≠ a → ∀ o, h.get? b = some o → h'.get? b = some o)
    (ho : h'.get? a = some o) (hr : OR G as mo o) (hkd : isDictO mo = true → isDictO old = true) : HRel G h₀ L as (H.set i mo) h' := by
  obtain ⟨_, _, _, hL, h0, lo⟩ := R.ob i a old ha hold hj
  refine ⟨fun p q b mp mq e1 e2 f1 f2 g1 g2 => ?_, by simp [R.len], fun j b mb e f g => ?_⟩
  · rcases set_split f1 with ⟨rfl, rfl, _⟩ | ⟨n1, x1⟩ <;> rcases set_split f2 with ⟨rfl, rfl, _⟩ | ⟨n2, x2⟩
    · rfl
    · exact R.nod p q b old mq e1 e2 hold x2 hj g2
    · exact R.nod p q b mp old e1 e2 x1 hold g1 hj
    · exact R.nod p q b mp mq e1 e2 x1 x2 g1 g2
  · rcases set_split f with ⟨rfl, rfl, _⟩ | ⟨nj, x1⟩
    · rw [ha] at e; cases e
      exact ⟨o, ho, hr, hL, h0, fun z => lo (hkd z)⟩
    · obtain ⟨ob, x, y, z⟩ := R.ob j b mb e x1 g
      refine ⟨ob, k b (fun q => nj ?_) ob x, y, z⟩
      subst q
      exact R.nod j i b mb old e ha x1 hold g hj
/-- one object forgotten -/
theorem HRel.kill (R : HRel G h₀ L as H h) {i : Nat} {a : Addr} {old : MO} (ha : as[i]? = some a) (hold : H[i]? = some old) (hj : isJunk old = false) (k : ∀ b, b ≠ a → ∀ o, h.get? b = some o → h'.get? b = some o) : HRel G h₀ L as (H.set i .junk) h' := by
  refine ⟨fun p q b mp mq e1 e2 f1 f2 g1 g2 => ?_, by simp [R.len], fun j b mb e f g => ?_⟩
  · rcases set_split f1 with ⟨rfl, rfl, _⟩ | ⟨n1, x1⟩
    · cases g1
    · rcases set_split f2 with ⟨rfl, rfl, _⟩ | ⟨n2, x2⟩
      · cases g2
      · exact R.nod p q b mp mq e1 e2 x1 x2 g1 g2
  · rcases set_split f with ⟨rfl, rfl, _⟩ | ⟨nj, x1⟩
    · cases g
    · obtain ⟨ob, x, y, z⟩ := R.ob j b mb e x1 g
      refine ⟨ob, k b (fun q => nj ?_) ob x, y, z⟩
      subst q
      exact R.nod j i b mb old e ha x1 hold g hj
end
end
end Mine

set_option Elab.async false
set_option maxRecDepth 100000
set_option maxHeartbeats 1000000
set_option linter.all false
namespace Mine
open PySem PySem.W PySem.Spec PySem.Calls PyProof.Rows
noncomputable section

abbrev bot : Value → Shared → Prop := fun _ _ => False

/-- what is assumed of a frame: its depth, its scope, no exception at hand (where hn) -/
structure Cx (G : Gl) (D : Nat) (hn : Bool) (cs : Scope) (Γ : Fx) : Prop where
  ok : FxOk G D Γ
  sc : Γ.cs = cs
  hh : hn = true → Γ.A.handled = none

/-- a computation t gives the value v -/
abbrev Post (G : Gl) (Γ : Fx) (as : List Addr) (v : MV) (st' : St) (Q : Value → Shared → Prop) : Prop :=
  ∀ as' s' V, as <+: as' → Rel G Γ as' st' s' → VR as' v V → Q V s'

noncomputable def EvOk (G : Gl) (D : Nat) (hn : Bool) (cs : Scope) (e : Expr) (f : St → Option (MV × St)) : Prop :=
  ∀ Γ, Cx G D hn cs Γ → ∀ as st s v st' Q, Rel G Γ as st s → f st = some (v, st') → Post G Γ as v st' Q →
    wpAny (model G.prog G.w) Γ.A (eval e Γ.env) Q bot s

noncomputable def TrOk (G : Gl) (D : Nat) (hn : Bool) (cs : Scope) (e : Expr) (f : St → Option (Bool × St)) : Prop :=
  ∀ Γ, Cx G D hn cs Γ → ∀ as st s b st' Q, Rel G Γ as st s → f st = some (b, st') → (∀ as' s', as <+: as' → Rel G Γ as' st' s' → Q b s') →
    wpAny (model G.prog G.w) Γ.A (isTrue e Γ.env (eval e Γ.env)) Q bot s

noncomputable def FR (as : List Addr) : Fl → Flow → Prop
  | .next, f => f = .next
  | .brk, f => f = .brk
  | .cont, f => f = .cont
  | .ret v, f => ∃ V, f = .ret V ∧ VR as v V

noncomputable def SOk (G : Gl) (D : Nat) (hn : Bool) (cs : Scope) (e : Stmt) (f : St → Option (Fl × St)) : Prop :=
  ∀ Γ, Cx G D hn cs Γ → ∀ as st s v st' Q, Rel G Γ as st s → f st = some (v, st') → (∀ as' s' V, as <+: as' → Rel G Γ as' st' s' → FR as' v V → Q V s') →
    wpAny (model G.prog G.w) Γ.A (exec e Γ.env) Q bot s

noncomputable def BOk (G : Gl) (D : Nat) (hn : Bool) (cs : Scope) (e : List Stmt) (f : St → Option (Fl × St)) : Prop :=
  ∀ Γ, Cx G D hn cs Γ → ∀ as st s v st' Q, Rel G Γ as st s → f st = some (v, st') → (∀ as' s' V, as <+: as' → Rel G Γ as' st' s' → FR as' v V → Q V s') →
    wpAny (model G.prog G.w) Γ.A (execs e Γ.env) Q bot s

/-- arguments -/
noncomputable def AOk (G : Gl) (D : Nat) (hn : Bool) (cs : Scope) (es : List Expr) (f : St → Option (List MV × St)) : Prop :=
  ∀ Γ, Cx G D hn cs Γ → ∀ as st s vs st' pos Q, Rel G Γ as st s → f st = some (vs, st') → (∀ as' s' Vs, as <+: as' → Rel G Γ as' st' s' → All2 (VR as') vs Vs → Q Vs s') →
    wpAny (model G.prog G.w) Γ.A (spliced (backTo pos (starEach es Γ.env))) Q bot s

theorem FR.mono {as as' : List Addr} (h : as <+: as') : ∀ {v : Fl} {V : Flow}, FR as v V → FR as' v V
  | .next, _, e => e
  | .brk, _, e => e
  | .cont, _, e => e
  | .ret _, _, ⟨V, e, r⟩ => ⟨V, e, r.mono h⟩

section
variable {G : Gl} {D : Nat} {hn : Bool} {cs : Scope}

theorem bind_some {α β : Type} {x : Option α} {f : α → Option β} {b : β} (h : x.bind f = some b) : ∃ a, x = some a ∧ f a = some b := by
  cases x with
  | none => cases h
  | some a => exact ⟨a, rfl, h⟩

/-- the tokens do not matter -/
theorem Rel.toks {Γ : Fx} {as : List Addr} {st : St} {s : Shared} (R : Rel G Γ as st s) (t : Nat) : Rel G Γ as st { s with toks := t } :=
  ⟨R.h₀, R.gd, R.gens, R.drawn, R.os, R.low, R.fr, R.hp⟩

theorem botE {α : Type} {M : Model} {A : Around} {t : Sem α} {Q : α → Shared → Prop} {E : Value → Shared → Prop} {s : Shared} (h : wpAny M A t Q bot s) : wpAny M A t Q E s :=
  wpAny_mono h (fun _ _ x => x) fun _ _ x => x.elim

theorem ev_int {i : Int} {k : Nat} {pos : Pos} : EvOk G D hn cs (.Constant (.int i) k pos) (fun st => some (.int i, st)) := by
  intro Γ C as st s v st' Q R h q
  cases h
  exact wpAny_Constant_int (q as _ _ (List.prefix_refl _) (R.toks _) ⟨_, rfl⟩)
theorem ev_bool {i : Bool} {k : Nat} {pos : Pos} : EvOk G D hn cs (.Constant (.bool i) k pos) (fun st => some (.bool i, st)) := by
  intro Γ C as st s v st' Q R h q
  cases h
  exact Constant_bool (q as _ _ (List.prefix_refl _) R rfl)
theorem ev_none {k : Nat} {pos : Pos} : EvOk G D hn cs (.Constant .none k pos) (fun st => some (.none, st)) := by
  intro Γ C as st s v st' Q R h q
  cases h
  exact Constant_none (q as _ _ (List.prefix_refl _) R rfl)

noncomputable def getLoc (k : Nat) (st : St) : Option (MV × St) := ((hget st.loc k).join).map fun v => (v, st)

theorem kindOf_eq {cn : Str} {cs : Scope} {L a : Addr} {cd : Value} {x : Str} : (envOf cn cs L a cd).kindOf x = cs.names.lookup x := rfl

theorem lookup_of_nodup {α β : Type} [BEq α] [LawfulBEq α] : ∀ {l : List (α × β)} (_ : (l.map (·.1)).Nodup) {k : Nat} {x : α} {y : β}, l[k]? = some (x, y) → l.lookup x = some y
  | [], _, _, _, _, e => by simp at e
  | p :: l, nd, 0, x, y, e => by
    simp at e; subst e; simp
  | p :: l, nd, k + 1, x, y, e => by
    simp at e nd
    have : (x == p.1) = false := by
      rw [beq_eq_false_iff_ne]
      intro q
      exact nd.1 y (q ▸ List.mem_of_getElem? e)
    rw [List.lookup_cons, this]
    exact lookup_of_nodup nd.2 e

theorem ev_loc (k : Nat) {x : Str} {pos : Pos} (hk : cs.names[k]? = some (x, .local)) (hd : (x == ("__debug__" : Str)) = false) : EvOk G D hn cs (.Name x pos) (getLoc k) := by
  intro Γ C as st s v st' Q R h q
  obtain ⟨m, F, l⟩ := R.fr
  have hs := C.sc
  subst hs
  unfold getLoc at h
  try simp only [hget_eq, hset_eq] at h
  cases e : st.loc[k]? with
  | none => rw [e] at h; cases h
  | some w =>
    cases w with
    | none => rw [e] at h; cases h
    | some w =>
      rw [e] at h; cases h
      obtain ⟨V, hm, hv⟩ := l k x _ _ hk e
      exact ld F hm (q as s V (List.prefix_refl _) R hv) C.ok.kind (lookup_of_nodup C.ok.nd hk) hd

/-- storing a name -/
theorem store_loc {k : Nat} {x : Str} (hk : cs.names[k]? = some (x, .local)) {Γ : Fx} (C : Cx G D hn cs Γ) {as : List Addr} {st : St} {s : Shared} {v : MV} {V : Value} {E : Value → Shared → Prop} {Q : Unit → Shared → Prop}
    (R : Rel G Γ as st s) (hl : k < st.loc.length) (hv : VR as v V) (q : ∀ s', Rel G Γ as { st with loc := st.loc.set k (some v) } s' → Q () s') :
    wpAny (model G.prog G.w) Γ.A (storeName Γ.env x V) Q E s := by
  obtain ⟨m, F, l⟩ := R.fr
  have hs := C.sc
  subst hs
  refine wpAny_storeName_local (lookup_of_nodup C.ok.nd hk) F.ns (fun h' hns hsb => q _ ⟨R.h₀, R.gd, R.gens, R.drawn, R.os, R.low, ⟨_, F.set hns hsb, ?_⟩, ?_⟩) (by show (Γ.cs.kind == .class || (Γ.cs.kind == .module && _)) = false; rw [C.ok.kind]; rfl)
  · intro j y kd w hj hw
    by_cases e : j = k
    · subst e
      rw [hk] at hj; cases hj
      rw [List.getElem?_set_self hl] at hw; cases hw
      exact ⟨V, by simp, hv⟩
    · rw [List.getElem?_set_ne (Ne.symm e)] at hw
      obtain ⟨W, a, b⟩ := l j y kd w hj hw
      refine ⟨W, ?_, b⟩
      have : y ≠ x := fun z => e (by
        have h1 : (Γ.cs.names.map (·.1))[j]? = some y := by simp [hj]
        have h2 : (Γ.cs.names.map (·.1))[k]? = some x := by simp [hk]
        exact (List.getElem?_inj (List.getElem?_eq_some_iff.mp h1).1 C.ok.nd).mp (by rw [h1, h2, z]))
      simp [this, a]
  · exact R.hp.keep fun a ha o ho => (hsb.2 a ha).trans ho

/-! statements -/
theorem b_nil : BOk G D hn cs [] (fun st => some (.next, st)) := by
  intro Γ C as st s v st' Q R h q
  cases h
  exact wpAny_execs_nil (q as s _ (List.prefix_refl _) R rfl)

noncomputable def seqM (f g : St → Option (Fl × St)) (st : St) : Option (Fl × St) :=
  (f st).bind fun x => match x.1 with | .next => g x.2 | _ => some x

theorem b_cons {e : Stmt} {r : List Stmt} {f g : St → Option (Fl × St)} (hf : SOk G D hn cs e f) (hg : BOk G D hn cs r g) : BOk G D hn cs (e :: r) (seqM f g) := by
  intro Γ C as st s v st' Q R h q
  obtain ⟨⟨u, st₁⟩, e1, e2⟩ := bind_some h
  refine wpAny_execs_cons (hf Γ C as st s u st₁ _ R e1 fun as' s' V p R' fr => ?_)
  cases u with
  | next =>
    cases fr
    exact hg Γ C as' st₁ s' v st' _ R' e2 fun as2 s2 V p2 => q as2 s2 V (p.trans p2)
  | brk => cases fr; cases e2; exact q as' s' _ p R' rfl
  | cont => cases fr; cases e2; exact q as' s' _ p R' rfl
  | ret w => obtain ⟨W, rfl, hw⟩ := fr; cases e2; exact q as' s' _ p R' ⟨W, rfl, hw⟩

theorem s_break {pos : Pos} : SOk G D hn cs (.Break pos) (fun st => some (.brk, st)) := by
  intro Γ C as st s v st' Q R h q
  cases h
  exact wpAny_Break (q as s _ (List.prefix_refl _) R rfl)
theorem s_cont {pos : Pos} : SOk G D hn cs (.Continue pos) (fun st => some (.cont, st)) := by
  intro Γ C as st s v st' Q R h q
  cases h
  exact wpAny_Continue (q as s _ (List.prefix_refl _) R rfl)

noncomputable def retM (f : St → Option (MV × St)) (st : St) : Option (Fl × St) := (f st).map fun x => (.ret x.1, x.2)
theorem s_ret {e : Expr} {pos : Pos} {f : St → Option (MV × St)} (hf : EvOk G D hn cs e f) : SOk G D hn cs (.Return (some e) pos) (retM f) := by
  intro Γ C as st s v st' Q R h q
  unfold retM at h
  cases e1 : f st with
  | none => rw [e1] at h; cases h
  | some x =>
    rw [e1] at h; cases h
    exact wpAny_Return_some (hf Γ C as st s x.1 x.2 _ R e1 fun as' s' V p R' hv => q as' s' _ p R' ⟨V, rfl, hv⟩)

noncomputable def ifM (t : St → Option (Bool × St)) (f g : St → Option (Fl × St)) (st : St) : Option (Fl × St) := (t st).bind fun x => bif x.1 then f x.2 else g x.2
theorem s_if {e : Expr} {b o : List Stmt} {pos : Pos} {t : St → Option (Bool × St)} {f g : St → Option (Fl × St)} (ht : TrOk G D hn cs e t) (hf : BOk G D hn cs b f) (hg : BOk G D hn cs o g) : SOk G D hn cs (.If e b o pos) (ifM t f g) := by
  intro Γ C as st s v st' Q R h q
  obtain ⟨⟨u, st₁⟩, e1, e2⟩ := bind_some h
  refine wpAny_If (ht Γ C as st s u st₁ _ R e1 fun as' s' p R' => ?_)
  cases u with
  | true => exact hf Γ C as' st₁ s' v st' _ R' e2 fun as2 s2 V p2 => q as2 s2 V (p.trans p2)
  | false => exact hg Γ C as' st₁ s' v st' _ R' e2 fun as2 s2 V p2 => q as2 s2 V (p.trans p2)
end
end
end Mine

set_option Elab.async false
set_option maxRecDepth 100000
set_option maxHeartbeats 1000000
set_option linter.all false
namespace Mine
open PySem PySem.W PySem.Spec PySem.Calls PyProof.Rows
noncomputable section

section
variable {G : Gl} {D : Nat} {hn : Bool} {cs : Scope}

/-- an operation of two values -/
noncomputable def Op2 (G : Gl) (D : Nat) (hn : Bool) (cs : Scope) (t : Value → Value → Sem Value) (g : MV → MV → St → Option (MV × St)) : Prop :=
  ∀ Γ, Cx G D hn cs Γ → ∀ as st s a b Va Vb v st' Q, Rel G Γ as st s → VR as a Va → VR as b Vb → g a b st = some (v, st') → Post G Γ as v st' Q →
    wpAny (model G.prog G.w) Γ.A (t Va Vb) Q bot s

noncomputable def bin2 (f : St → Option (MV × St)) (h : St → Option (MV × St)) (g : MV → MV → St → Option (MV × St)) (st : St) : Option (MV × St) :=
  (f st).bind fun x => (h x.2).bind fun y => g x.1 y.1 y.2

theorem ev2 {l r : Expr} {t : Value → Value → Sem Value} {e : Expr} {f h : St → Option (MV × St)} {g : MV → MV → St → Option (MV × St)}
    (rule : ∀ Γ : Fx, ∀ Q s, wpAny (model G.prog G.w) Γ.A (eval l Γ.env) (fun a s₁ => wpAny (model G.prog G.w) Γ.A (eval r Γ.env) (fun b s₂ => wpAny (model G.prog G.w) Γ.A (t a b) Q bot s₂) bot s₁) bot s → wpAny (model G.prog G.w) Γ.A (eval e Γ.env) Q bot s)
    (hf : EvOk G D hn cs l f) (hh : EvOk G D hn cs r h) (hg : Op2 G D hn cs t g) : EvOk G D hn cs e (bin2 f h g) := by
  intro Γ C as st s v st' Q R q0 q
  obtain ⟨⟨a, st₁⟩, e1, q0⟩ := bind_some q0
  obtain ⟨⟨b, st₂⟩, e2, q0⟩ := bind_some q0
  refine rule Γ Q s (hf Γ C as st s a st₁ _ R e1 fun as₁ s₁ Va p₁ R₁ va => ?_)
  refine hh Γ C as₁ st₁ s₁ b st₂ _ R₁ e2 fun as₂ s₂ Vb p₂ R₂ vb => ?_
  exact hg Γ C as₂ st₂ s₂ a b Va Vb v st' Q R₂ (va.mono p₂) vb q0 fun as₃ s₃ V p₃ => q as₃ s₃ V (p₁.trans (p₂.trans p₃))

theorem ev_bin {l r : Expr} {op : Operator} {pos : Pos} {f h : St → Option (MV × St)} {g : MV → MV → St → Option (MV × St)} (hf : EvOk G D hn cs l f) (hh : EvOk G D hn cs r h)
    (hg : Op2 G D hn cs (binaryOp op) g) : EvOk G D hn cs (.BinOp l op r pos) (bin2 f h g) :=
  ev2 (fun Γ Q s x => wpAny_BinOp x) hf hh hg
theorem ev_cmp {l r : Expr} {op : CmpOp} {pos : Pos} {f h : St → Option (MV × St)} {g : MV → MV → St → Option (MV × St)} (hf : EvOk G D hn cs l f) (hh : EvOk G D hn cs r h)
    (hg : Op2 G D hn cs (compareOp op) g) (hm : behindInMarks op r = false) : EvOk G D hn cs (.Compare l [op] [r] pos) (bin2 f h g) :=
  ev2 (fun Γ Q s x => wpAny_Compare1 x hm) hf hh hg

/-- truth -/
noncomputable def truM (H : List MO) : MV → Option Bool
  | .none => some false
  | .bool b => some b
  | .int i => none
  | .out a => none
  | .ref n => match hget H n with
    | some (.list vs) => if vs.length < 1000 then some (!vs.isEmpty) else none
    | _ => none

theorem All2.isEmpty {α β : Type} {R : α → β → Prop} {l r} (h : All2 R l r) : l.isEmpty = r.isEmpty := by cases h <;> rfl

theorem truthy_ok {Γ : Fx} {as : List Addr} {st : St} {s : Shared} {v : MV} {V : Value} {b : Bool} {E : Value → Shared → Prop} {Q : Bool → Shared → Prop} (R : Rel G Γ as st s) (hv : VR as v V) (h : truM st.H v = some b)
    (q : ∀ s', Rel G Γ as st s' → Q b s') : wpAny (model G.prog G.w) Γ.A (truthy V) Q E s := by
  cases v with
  | none => cases hv; cases h; exact truthy_none (q s R)
  | bool c => cases hv; cases h; exact wpAny_truthy_bool (q s R)
  | int i => cases h
  | out a => cases h
  | ref n =>
    obtain ⟨a, ha, rfl⟩ := hv
    simp only [truM, hget_eq, hset_eq] at h
    split at h
    · rename_i vs e
      split at h
      · rename_i hl
        cases h
        obtain ⟨o, ho, ⟨items, n', rfl, al⟩, _⟩ := R.hp.ob n a _ ha e rfl
        have hsz : items.size = vs.length := by rw [al.length]; simp
        refine wpAny_truthy_list (items := items) ⟨_, ho, rfl, n', rfl⟩ (by rw [hsz]; omega) ?_
        have : items.isEmpty = vs.isEmpty := by rw [al.isEmpty]; simp
        rw [this]
        exact q _ (R.toks _)
      · cases h
    · cases h

noncomputable def asB (f : St → Option (MV × St)) (st : St) : Option (Bool × St) := (f st).bind fun x => (truM x.2.H x.1).map fun b => (b, x.2)
/-- a plain test -/
theorem tr_plain {e : Expr} {f : St → Option (MV × St)} (hf : EvOk G D hn cs e f) (he : ∀ env whole, isTrue e env whole = (do let v ← whole; standAt e.pos; holding [v] (truthy v))) : TrOk G D hn cs e (asB f) := by
  intro Γ C as st s b st' Q R h q
  obtain ⟨⟨v, st₁⟩, e1, h⟩ := bind_some h
  obtain ⟨c, e2, h⟩ := Option.map_eq_some_iff.mp h
  cases h
  exact isTrue_plain (hf Γ C as st s v st₁ _ R e1 fun as' s' V p R' hv => truthy_ok R' hv e2 fun s'' R'' => q as' s'' p R'') (he _ _)

noncomputable def bool2 (f : St → Option (MV × St)) (h : St → Option (MV × St)) (g : MV → MV → St → Option (MV × St)) (st : St) : Option (Bool × St) :=
  (bin2 f h g st).bind fun x => match x.1 with | .bool b => some (b, x.2) | _ => none
theorem tr_cmp {l r : Expr} {op : CmpOp} {pos : Pos} {f h : St → Option (MV × St)} {g : MV → MV → St → Option (MV × St)} (hf : EvOk G D hn cs l f) (hh : EvOk G D hn cs r h)
    (hg : Op2 G D hn cs (compareOp op) g) (hm : behindInMarks op r = false) : TrOk G D hn cs (.Compare l [op] [r] pos) (bool2 f h g) := by
  intro Γ C as st s b st' Q R q0 q
  obtain ⟨⟨c, st₃⟩, q0, q1⟩ := bind_some q0
  obtain ⟨⟨a, st₁⟩, e1, q0⟩ := bind_some q0
  obtain ⟨⟨b', st₂⟩, e2, q0⟩ := bind_some q0
  refine wpAny_isTrue_Compare1 (hf Γ C as st s a st₁ _ R e1 fun as₁ s₁ Va p₁ R₁ va => ?_) hm
  refine hh Γ C as₁ st₁ s₁ b' st₂ _ R₁ e2 fun as₂ s₂ Vb p₂ R₂ vb => ?_
  refine hg Γ C as₂ st₂ s₂ a b' Va Vb c st₃ _ R₂ (va.mono p₂) vb q0 fun as₃ s₃ V p₃ R₃ hv => ?_
  cases c with
  | bool d => cases q1; cases hv; exact wpAny_truthy_bool (q as₃ s₃ (p₁.trans (p₂.trans p₃)) R₃)
  | _ => cases q1

noncomputable def orB (f g : St → Option (Bool × St)) (st : St) : Option (Bool × St) := (f st).bind fun x => bif x.1 then some (true, x.2) else g x.2
theorem tr_or2 {a b : Expr} {pos : Pos} {f g : St → Option (Bool × St)} (hf : TrOk G D hn cs a f) (hg : TrOk G D hn cs b g) : TrOk G D hn cs (.BoolOp .Or [a, b] pos) (orB f g) := by
  intro Γ C as st s c st' Q R h q
  obtain ⟨⟨u, st₁⟩, e1, e2⟩ := bind_some h
  refine isTrue_or (hf Γ C as st s u st₁ _ R e1 fun as' s' p R' => ?_)
  cases u with
  | true => cases e2; exact q as' s' p R'
  | false =>
    refine isTrue_or (hg Γ C as' st₁ s' c st' _ R' e2 fun as2 s2 p2 R2 => ?_)
    cases c with
    | true => exact q as2 s2 (p.trans p2) R2
    | false => exact isTrue_or_nil (q as2 s2 (p.trans p2) R2)

/-- or, and as values: the first must be a bool or none -/
noncomputable def orV (f g : St → Option (MV × St)) (st : St) : Option (MV × St) := (f st).bind fun x => (truM x.2.H x.1).bind fun b => bif b then some x else g x.2
noncomputable def andV (f g : St → Option (MV × St)) (st : St) : Option (MV × St) := (f st).bind fun x => (truM x.2.H x.1).bind fun b => bif b then g x.2 else some x
theorem ev_or2 {a b : Expr} {pos : Pos} {f g : St → Option (MV × St)} (hf : EvOk G D hn cs a f) (hg : EvOk G D hn cs b g) : EvOk G D hn cs (.BoolOp .Or [a, b] pos) (orV f g) := by
  intro Γ C as st s v st' Q R h q
  obtain ⟨⟨u, st₁⟩, e1, h⟩ := bind_some h
  obtain ⟨c, e2, h⟩ := bind_some h
  refine BoolOp_or (hf Γ C as st s u st₁ _ R e1 fun as' s' V p R' hv => truthy_ok R' hv e2 fun s'' R'' => ?_)
  cases c with
  | true => cases h; exact q as' s'' V p R'' hv
  | false => exact BoolOp_one (hg Γ C as' st₁ s'' v st' _ R'' h fun as2 s2 V2 p2 => q as2 s2 V2 (p.trans p2))
theorem ev_and2 {a b : Expr} {pos : Pos} {f g : St → Option (MV × St)} (hf : EvOk G D hn cs a f) (hg : EvOk G D hn cs b g) : EvOk G D hn cs (.BoolOp .And [a, b] pos) (andV f g) := by
  intro Γ C as st s v st' Q R h q
  obtain ⟨⟨u, st₁⟩, e1, h⟩ := bind_some h
  obtain ⟨c, e2, h⟩ := bind_some h
  refine BoolOp_and (hf Γ C as st s u st₁ _ R e1 fun as' s' V p R' hv => truthy_ok R' hv e2 fun s'' R'' => ?_)
  cases c with
  | false => cases h; exact q as' s'' V p R'' hv
  | true => exact BoolOp_one (hg Γ C as' st₁ s'' v st' _ R'' h fun as2 s2 V2 p2 => q as2 s2 V2 (p.trans p2))

noncomputable def ifE (t : St → Option (Bool × St)) (f g : St → Option (MV × St)) (st : St) : Option (MV × St) := (t st).bind fun x => bif x.1 then f x.2 else g x.2
theorem ev_ifExp {e a b : Expr} {pos : Pos} {t : St → Option (Bool × St)} {f g : St → Option (MV × St)} (ht : TrOk G D hn cs e t) (hf : EvOk G D hn cs a f) (hg : EvOk G D hn cs b g) : EvOk G D hn cs (.IfExp e a b pos) (ifE t f g) := by
  intro Γ C as st s v st' Q R h q
  obtain ⟨⟨u, st₁⟩, e1, e2⟩ := bind_some h
  refine IfExp_ (ht Γ C as st s u st₁ _ R e1 fun as' s' p R' => ?_)
  cases u with
  | true => exact hf Γ C as' st₁ s' v st' _ R' e2 fun as2 s2 V p2 => q as2 s2 V (p.trans p2)
  | false => exact hg Γ C as' st₁ s' v st' _ R' e2 fun as2 s2 V p2 => q as2 s2 V (p.trans p2)

/-! stores -/
noncomputable def setLoc (k : Nat) (v : MV) (st : St) : Option St := if k < st.loc.length then some { st with loc := hset st.loc k (some v) } else none
noncomputable def asgM (k : Nat) (f : St → Option (MV × St)) (st : St) : Option (Fl × St) := (f st).bind fun x => (setLoc k x.1 x.2).map fun y => (.next, y)
theorem s_asg (k : Nat) {x : Str} {px pos : Pos} {e : Expr} {f : St → Option (MV × St)} (hk : cs.names[k]? = some (x, .local)) (hf : EvOk G D hn cs e f)
    (hs : ∀ env, swapsWith e (some (.Name x px)) pos.line env = pure false) : SOk G D hn cs (.Assign [.Name x px] e pos) (asgM k f) := by
  intro Γ C as st s v st' Q R h q
  obtain ⟨⟨u, st₁⟩, e1, h⟩ := bind_some h
  obtain ⟨st₂, e2, h⟩ := Option.map_eq_some_iff.mp h
  cases h
  unfold setLoc at e2
  try simp only [hget_eq, hset_eq] at e2
  split at e2
  · rename_i hl
    cases e2
    exact wpAny_Assign_Name (hf Γ C as st s u st₁ _ R e1 fun as' s' V p R' hv => store_loc hk C R' hl hv fun s'' R'' => q as' s'' .next p R'' rfl) (hs _)
  · cases e2

noncomputable def namM (k : Nat) (f : St → Option (MV × St)) (st : St) : Option (MV × St) := (f st).bind fun x => (setLoc k x.1 x.2).map fun y => (x.1, y)
theorem ev_named (k : Nat) {x : Str} {px pos : Pos} {e : Expr} {f : St → Option (MV × St)} (hk : cs.names[k]? = some (x, .local)) (hf : EvOk G D hn cs e f) : EvOk G D hn cs (.NamedExpr (.Name x px) e pos) (namM k f) := by
  intro Γ C as st s v st' Q R h q
  obtain ⟨⟨u, st₁⟩, e1, h⟩ := bind_some h
  obtain ⟨st₂, e2, h⟩ := Option.map_eq_some_iff.mp h
  cases h
  unfold setLoc at e2
  try simp only [hget_eq, hset_eq] at e2
  split at e2
  · rename_i hl
    cases e2
    exact wpAny_NamedExpr (hf Γ C as st s _ st₁ _ R e1 fun as' s' V p R' hv => wpAny_assign_Name (store_loc hk C R' hl hv fun s'' R'' => q as' s'' V p R'' hv))
  · cases e2

noncomputable def exprM (f : St → Option (MV × St)) (st : St) : Option (Fl × St) := (f st).map fun x => (.next, x.2)
theorem s_expr {e : Expr} {pos : Pos} {f : St → Option (MV × St)} (hf : EvOk G D hn cs e f) (hs : ∀ env, swapsWith e none pos.line env = pure false) : SOk G D hn cs (.Expr e pos) (exprM f) := by
  intro Γ C as st s v st' Q R h q
  obtain ⟨x, e1, h⟩ := Option.map_eq_some_iff.mp h
  cases h
  rw [exec_Expr _ _ _ (by unfold interactive; simp [envOf, C.ok.kind]) (hs _)]
  exact wpAny_bind (wpAny_standAt (wpAny_bind (hf Γ C as st s x.1 x.2 _ R e1 fun as' s' V p R' hv => wpAny_dropValue (q as' s' .next p R' rfl))))

/-! arguments -/
theorem a_nil : AOk G D hn cs [] (fun st => some ([], st)) := by
  intro Γ C as st s vs st' pos Q R h q
  cases h
  exact args_nil (q as s [] (List.prefix_refl _) R .nil)
noncomputable def consM (f : St → Option (MV × St)) (g : St → Option (List MV × St)) (st : St) : Option (List MV × St) := (f st).bind fun x => (g x.2).map fun y => (x.1 :: y.1, y.2)
theorem a_cons {e : Expr} {r : List Expr} {f : St → Option (MV × St)} {g : St → Option (List MV × St)} (hf : EvOk G D hn cs e f) (hg : AOk G D hn cs r g)
    (he : ∀ env, starEach (e :: r) env = (false, eval e env) :: starEach r env) : AOk G D hn cs (e :: r) (consM f g) := by
  intro Γ C as st s vs st' pos Q R h q
  obtain ⟨⟨u, st₁⟩, e1, h⟩ := bind_some h
  obtain ⟨⟨us, st₂⟩, e2, h⟩ := Option.map_eq_some_iff.mp h
  cases h
  exact args_cons (hf Γ C as st s u st₁ _ R e1 fun as' s' V p R' hv => hg Γ C as' st₁ s' us st₂ pos _ R' e2 fun as2 s2 Vs p2 R2 hvs => q as2 s2 (V :: Vs) (p.trans p2) R2 (.cons (hv.mono p2) hvs)) (he _)

/-! ints -/
noncomputable def smallI (i : Int) : Bool := decide (-1152921504606846976 < i) && decide (i < 1152921504606846976)
noncomputable def addM : MV → MV → St → Option (MV × St)
  | .int a, .int b, st => some (.int (a + b), st)
  | _, _, _ => none
noncomputable def subM : MV → MV → St → Option (MV × St)
  | .int a, .int b, st => some (.int (a - b), st)
  | _, _, _ => none
noncomputable def mulM : MV → MV → St → Option (MV × St)
  | .int a, .int b, st => if smallI a then some (.int (a * b), st) else none
  | _, _, _ => none
noncomputable def fdivM : MV → MV → St → Option (MV × St)
  | .int a, .int b, st => if b ≠ 0 ∧ smallI b = true then some (.int (a.fdiv b), st) else none
  | _, _, _ => none
noncomputable def fmodM : MV → MV → St → Option (MV × St)
  | .int a, .int b, st => if b ≠ 0 then some (.int (a.fmod b), st) else none
  | _, _, _ => none
noncomputable def powM : MV → MV → St → Option (MV × St)
  | .int a, .int b, st => if 0 ≤ b ∧ b ≤ 100 ∧ a = 2 then some (.int (a ^ b.toNat), st) else none
  | _, _, _ => none
noncomputable def eqM : MV → MV → St → Option (MV × St)
  | .int a, .int b, st => some (.bool (a == b), st)
  | _, _, _ => none
noncomputable def neM : MV → MV → St → Option (MV × St)
  | .int a, .int b, st => some (.bool (a != b), st)
  | _, _, _ => none
noncomputable def ltM : MV → MV → St → Option (MV × St)
  | .int a, .int b, st => some (.bool (decide (a < b)), st)
  | _, _, _ => none
noncomputable def geM : MV → MV → St → Option (MV × St)
  | .int a, .int b, st => some (.bool (decide (b ≤ a)), st)
  | _, _, _ => none
noncomputable def isNone : MV → Bool
  | .none => true
  | _ => false
noncomputable def isM : MV → MV → St → Option (MV × St)
  | a, .none, st => some (.bool (isNone a), st)
  | _, _, _ => none
noncomputable def isNotM : MV → MV → St → Option (MV × St)
  | a, .none, st => some (.bool (!isNone a), st)
  | _, _, _ => none

theorem o_add : Op2 G D hn cs (binaryOp .Add) addM := by
  intro Γ C as st s a b Va Vb v st' Q R ha hb h q
  cases a <;> cases b <;> cases h
  obtain ⟨t, rfl⟩ := ha; obtain ⟨u, rfl⟩ := hb
  exact add_int (q as _ _ (List.prefix_refl _) (R.toks _) ⟨_, rfl⟩)
theorem o_sub : Op2 G D hn cs (binaryOp .Sub) subM := by
  intro Γ C as st s a b Va Vb v st' Q R ha hb h q
  cases a <;> cases b <;> cases h
  obtain ⟨t, rfl⟩ := ha; obtain ⟨u, rfl⟩ := hb
  exact sub_int (q as _ _ (List.prefix_refl _) (R.toks _) ⟨_, rfl⟩)
theorem smallI_bits {a : Int} (h : smallI a = true) : Builtin.Int.intBits a ≤ 64 := by
  simp only [smallI, Bool.and_eq_true, decide_eq_true_eq] at h
  exact intBits_le_64 (by omega) (by omega)
theorem o_mul : Op2 G D hn cs (binaryOp .Mult) mulM := by
  intro Γ C as st s a b Va Vb v st' Q R ha hb h q
  cases a <;> cases b <;> first | (cases h; done) | skip
  simp only [mulM] at h
  split at h
  · rename_i hs
    cases h
    obtain ⟨t, rfl⟩ := ha; obtain ⟨u, rfl⟩ := hb
    exact mul_int (q as _ _ (List.prefix_refl _) (R.toks _) ⟨_, rfl⟩) (IntMulOk.of_left (smallI_bits hs))
  · cases h
theorem small_div {a b : Int} (h : smallI b = true) : Builtin.divisionGoesByPylong a b = false := by
  simp only [smallI, Bool.and_eq_true, decide_eq_true_eq] at h
  unfold Builtin.divisionGoesByPylong
  have hl : b.natAbs.log2 < 64 := by
    by_cases z : b.natAbs = 0
    · rw [z]; decide
    · exact (Nat.log2_lt z).mpr (by omega)
  have : ¬ ((if (b == 0) = true then 0 else b.natAbs.log2 / 30 + 1) > 300) := by
    split <;> omega
  dsimp only
  rw [decide_eq_false this]; rfl
theorem o_fdiv : Op2 G D hn cs (binaryOp .FloorDiv) fdivM := by
  intro Γ C as st s a b Va Vb v st' Q R ha hb h q
  cases a <;> cases b <;> first | (cases h; done) | skip
  simp only [fdivM] at h
  split at h
  · rename_i hs
    cases h
    obtain ⟨t, rfl⟩ := ha; obtain ⟨u, rfl⟩ := hb
    exact floordiv_int hs.1 (q as _ _ (List.prefix_refl _) (R.toks _) ⟨_, rfl⟩) (.inl (small_div hs.2))
  · cases h
theorem o_fmod : Op2 G D hn cs (binaryOp .Mod) fmodM := by
  intro Γ C as st s a b Va Vb v st' Q R ha hb h q
  cases a <;> cases b <;> first | (cases h; done) | skip
  simp only [fmodM] at h
  split at h
  · rename_i hs
    cases h
    obtain ⟨t, rfl⟩ := ha; obtain ⟨u, rfl⟩ := hb
    exact mod_int' hs (q as _ _ (List.prefix_refl _) (R.toks _) ⟨_, rfl⟩)
  · cases h
theorem o_pow : Op2 G D hn cs (binaryOp .Pow) powM := by
  intro Γ C as st s a b Va Vb v st' Q R ha hb h q
  cases a <;> cases b <;> first | (cases h; done) | skip
  simp only [powM] at h
  split at h
  · rename_i hs
    obtain ⟨h0, h1, rfl⟩ := hs
    cases h
    obtain ⟨t, rfl⟩ := ha; obtain ⟨u, rfl⟩ := hb
    exact pow_int_small h0 (by omega) (by decide) (q as _ _ (List.prefix_refl _) (R.toks _) ⟨_, rfl⟩)
  · cases h
theorem o_eq : Op2 G D hn cs (compareOp .Eq) eqM := by
  intro Γ C as st s a b Va Vb v st' Q R ha hb h q
  cases a <;> cases b <;> cases h
  obtain ⟨t, rfl⟩ := ha; obtain ⟨u, rfl⟩ := hb
  exact eq_int (q as _ _ (List.prefix_refl _) R rfl)
theorem o_ne : Op2 G D hn cs (compareOp .NotEq) neM := by
  intro Γ C as st s a b Va Vb v st' Q R ha hb h q
  cases a <;> cases b <;> cases h
  obtain ⟨t, rfl⟩ := ha; obtain ⟨u, rfl⟩ := hb
  exact ne_int (q as _ _ (List.prefix_refl _) R rfl)
theorem o_lt : Op2 G D hn cs (compareOp .Lt) ltM := by
  intro Γ C as st s a b Va Vb v st' Q R ha hb h q
  cases a <;> cases b <;> cases h
  obtain ⟨t, rfl⟩ := ha; obtain ⟨u, rfl⟩ := hb
  exact lt_int (q as _ _ (List.prefix_refl _) R rfl)
theorem o_ge : Op2 G D hn cs (compareOp .GtE) geM := by
  intro Γ C as st s a b Va Vb v st' Q R ha hb h q
  cases a <;> cases b <;> cases h
  obtain ⟨t, rfl⟩ := ha; obtain ⟨u, rfl⟩ := hb
  exact ge_int (q as _ _ (List.prefix_refl _) R rfl)
theorem isNone_eq {as : List Addr} {a : MV} {V : Value} (h : VR as a V) : (V == Value.none) = isNone a := by
  cases a with
  | none => cases h; rfl
  | bool b => cases h; rfl
  | int i => obtain ⟨t, rfl⟩ := h; rfl
  | ref n => obtain ⟨x, _, rfl⟩ := h; rfl
  | out a => cases h; rfl
theorem o_is : Op2 G D hn cs (compareOp .Is) isM := by
  intro Γ C as st s a b Va Vb v st' Q R ha hb h q
  cases b <;> first | (cases h; done) | skip
  cases h; cases hb
  exact is_none (by rw [isNone_eq ha]; exact q as _ _ (List.prefix_refl _) R rfl)
theorem o_isNot : Op2 G D hn cs (compareOp .IsNot) isNotM := by
  intro Γ C as st s a b Va Vb v st' Q R ha hb h q
  cases b <;> first | (cases h; done) | skip
  cases h; cases hb
  exact isnot_none_gen (by rw [isNone_eq ha]; exact q as _ _ (List.prefix_refl _) R rfl)
/-- in place -/
theorem o_iadd : Op2 G D hn cs (inplaceOp .Add) addM := by
  intro Γ C as st s a b Va Vb v st' Q R ha hb h q
  cases a <;> cases b <;> cases h
  obtain ⟨t, rfl⟩ := ha; obtain ⟨u, rfl⟩ := hb
  exact AutoIntOps.iadd_0 (q as _ _ (List.prefix_refl _) (R.toks _) ⟨_, rfl⟩)
theorem o_isub : Op2 G D hn cs (inplaceOp .Sub) subM := by
  intro Γ C as st s a b Va Vb v st' Q R ha hb h q
  cases a <;> cases b <;> cases h
  obtain ⟨t, rfl⟩ := ha; obtain ⟨u, rfl⟩ := hb
  exact AutoIntOps.isub_0 (q as _ _ (List.prefix_refl _) (R.toks _) ⟨_, rfl⟩)
end
end
end Mine

set_option Elab.async false
set_option maxRecDepth 100000
set_option maxHeartbeats 1000000
set_option linter.all false
namespace Mine
open PySem PySem.W PySem.Spec PySem.Calls PyProof.Rows
noncomputable section

/-! the heap's changes -/
section
variable {G : Gl} {h₀ h h' : Heap} {L : Addr} {as : List Addr} {H : List MO}

noncomputable def newsAt (h : Heap) (as : List Addr) (H : List MO) (i : Nat) : Option (Addr × Obj) := match as[i]?, H[i]? with
  | some a, some mo => if isJunk mo then none else some (a, (h.get? a).getD default)
  | _, _ => none
noncomputable def newsOf (h : Heap) (as : List Addr) (H : List MO) : List (Addr × Obj) := (List.range as.length).filterMap (newsAt h as H)
theorem newsAt_some {i : Nat} {p : Addr × Obj} (e : newsAt h as H i = some p) : ∃ mo, as[i]? = some p.1 ∧ H[i]? = some mo ∧ isJunk mo = false ∧ p.2 = (h.get? p.1).getD default := by
  unfold newsAt at e
  split at e
  · rename_i a mo e1 e2
    cases q : isJunk mo with
    | true => rw [q] at e; cases e
    | false => rw [q] at e; cases e; exact ⟨mo, e1, e2, q, rfl⟩
  · cases e
theorem mem_newsOf {i : Nat} {a : Addr} {mo : MO} {o : Obj} (e1 : as[i]? = some a) (e2 : H[i]? = some mo) (g : isJunk mo = false) (ho : h.get? a = some o) : (a, o) ∈ newsOf h as H := by
  refine List.mem_filterMap.mpr ⟨i, List.mem_range.mpr (List.getElem?_eq_some_iff.mp e1).1, ?_⟩
  unfold newsAt
  rw [e1, e2]
  simp [g, ho]
theorem HRel.news (R : HRel G h₀ L as H h) : News h₀ L h (newsOf h as H) := by
  intro p hp
  obtain ⟨i, _, e⟩ := List.mem_filterMap.mp hp
  obtain ⟨mo, e1, e2, g, e3⟩ := newsAt_some e
  obtain ⟨o, x, _, z, u, _⟩ := R.ob i p.1 mo e1 e2 g
  rw [e3, x]
  exact ⟨rfl, z, u⟩
theorem HRel.ofNews (R : HRel G h₀ L as H h) {h₁ : Heap} {L' : Addr} (N : News h₁ L' h' (newsOf h as H)) : HRel G h₁ L' as H h' :=
  ⟨R.nod, R.len, fun i a mo e f g => by
    obtain ⟨o, x, y, _, _, lo⟩ := R.ob i a mo e f g
    have := N (a, o) (mem_newsOf e f g x)
    exact ⟨o, this.1, y, this.2.1, this.2.2, lo⟩⟩
theorem HRel.fresh (R : HRel G h₀ L as H h) (i : Nat) (b : Addr) (mb : MO) (e : as[i]? = some b) (f : H[i]? = some mb) (g : isJunk mb = false) : b < h.objs.size := by
  obtain ⟨o, x, _⟩ := R.ob i b mb e f g
  exact Heap.lt_size x
theorem HRel.ofNews1 (R : HRel G h₀ L as H h) {h₁ : Heap} {L' a : Addr} {o : Obj} {mo : MO} (N : News h₁ L' h' ((a, o) :: newsOf h as H)) (hr : OR G (as ++ [a]) mo o) (hn : h.objs.size ≤ a) (hlo : isDictO mo = true → sysModules < a) : HRel G h₁ L' (as ++ [a]) (H ++ [mo]) h' := by
  have R' := R.ofNews (h' := h') (h₁ := h₁) (L' := L') (fun p hp => N p (.tail _ hp))
  have z := N _ (.head _)
  exact R'.add (fun i b mb e f g => Nat.ne_of_lt (Nat.lt_of_lt_of_le (R.fresh i b mb e f g) hn)) (fun _ _ _ _ e => e) z.1 hr z.2.1 z.2.2 hlo
theorem upd_list {d : Addr} {o o' : Obj} : ∀ {l : List (Addr × Obj)}, l.Pairwise (fun p q => p.1 ≠ q.1) → (d, o) ∈ l → Upd d o o' l (l.map fun p => if p.1 = d then (d, o') else p)
  | [], _, h => nomatch h
  | p :: r, nd, h => by
    rw [List.pairwise_cons] at nd
    by_cases q : p.1 = d
    · have hp : p = (d, o) := by
        rcases List.mem_cons.mp h with e | e
        · exact e.symm
        · exact absurd q (nd.1 _ e)
      subst hp
      simp only [List.map_cons, if_pos rfl]
      have : (r.map fun p => if p.1 = d then (d, o') else p) = r := by
        have e : (r.map fun p => if p.1 = d then (d, o') else p) = r.map id := List.map_congr_left fun b hb => by
          rw [if_neg (fun z => nd.1 b hb z.symm)]; rfl
        rw [e, List.map_id]
      rw [this]
      exact .head fun b hb z => nd.1 b hb z.symm
    · simp only [List.map_cons, if_neg q]
      refine .tail q (upd_list nd.2 ?_)
      rcases List.mem_cons.mp h with e | e
      · exact absurd (congrArg Prod.fst e).symm q
      · exact e
theorem newsOf_apart (R : HRel G h₀ L as H h) : (newsOf h as H).Pairwise (fun p q => p.1 ≠ q.1) := by
  unfold newsOf
  rw [List.pairwise_filterMap]
  refine List.Pairwise.imp ?_ (List.nodup_range)
  intro i j hij p hp q hq e
  obtain ⟨mi, a1, a2, a3, _⟩ := newsAt_some hp
  obtain ⟨mj, b1, b2, b3, _⟩ := newsAt_some hq
  exact hij (R.nod i j p.1 mi mj a1 (e ▸ b1) a2 b2 a3 b3)
/-- a rule of the form Upd -/
theorem HRel.upd (R : HRel G h₀ L as H h) {i : Nat} {d : Addr} {o : Obj} {old : MO} (ha : as[i]? = some d) (hold : H[i]? = some old) (hj : isJunk old = false) (ho : h.get? d = some o) (o' : Obj) :
    ∃ news', Upd d o o' (newsOf h as H) news' ∧ ∀ {h₁ : Heap} {L' : Addr} {h' : Heap} {mo : MO}, News h₁ L' h' news' → OR G as mo o' → (isDictO mo = true → isDictO old = true) → HRel G h₁ L' as (H.set i mo) h' := by
  refine ⟨_, upd_list (newsOf_apart R) (mem_newsOf ha hold hj ho), fun {h₁ L' h' mo} N hr hkd => ?_⟩
  have hm : ∀ (j : Nat) (a : Addr) (mj : MO) (oa : Obj), as[j]? = some a → H[j]? = some mj → isJunk mj = false → h.get? a = some oa → h'.get? a = some (if a = d then o' else oa) ∧ a ≠ L' ∧ h₁.get? a = none := by
    intro j a mj oa e f g x
    have := N _ (List.mem_map.mpr ⟨(a, oa), mem_newsOf e f g x, rfl⟩)
    by_cases q : a = d
    · subst q; simpa using this
    · simpa [q] using this
  have hlo := (R.ob i d old ha hold hj)
  refine ⟨fun p q b mp mq e1 e2 f1 f2 g1 g2 => ?_, by simp [R.len], fun j b mb e f g => ?_⟩
  · rcases set_split f1 with ⟨rfl, rfl, _⟩ | ⟨n1, x1⟩ <;> rcases set_split f2 with ⟨rfl, rfl, _⟩ | ⟨n2, x2⟩
    · rfl
    · exact R.nod p q b old mq e1 e2 hold x2 hj g2
    · exact R.nod p q b mp old e1 e2 x1 hold g1 hj
    · exact R.nod p q b mp mq e1 e2 x1 x2 g1 g2
  · rcases set_split f with ⟨rfl, rfl, _⟩ | ⟨nj, x1⟩
    · rw [ha] at e; cases e
      have hb := hm j d old o ha hold hj ho
      rw [if_pos rfl] at hb
      obtain ⟨_, _, _, _, _, lo⟩ := hlo
      exact ⟨o', hb.1, hr, hb.2.1, hb.2.2, fun z => lo (hkd z)⟩
    · obtain ⟨ob, x, y, _, _, lo⟩ := R.ob j b mb e x1 g
      have hne : b ≠ d := by
        rintro rfl
        exact nj (R.nod j i b mb old e ha x1 hold g hj)
      have hb := hm j b mb ob e x1 g x
      rw [if_neg hne] at hb
      exact ⟨ob, hb.1, y, hb.2.1, hb.2.2, lo⟩
end

section
variable {G : Gl} {D : Nat} {hn : Bool} {cs : Scope} {Γ : Fx} {as : List Addr} {st : St} {s : Shared}

theorem Fr.ext {h₀ h h' : Heap} {L a : Addr} {m : Str → Option Value} (F : Fr h₀ L h m) (he : Heap.ExtBut a h h') (hL : a ≠ L) (h0 : h₀.get? a = none) : Fr h₀ L h' m :=
  ⟨F.ns.at' (fun o e => he L o (Ne.symm hL) e), fun b o e => he b o (by rintro rfl; rw [h0] at e; cases e) (F.keep b o e), F.above⟩

theorem fresh_addr {h₀ h : Heap} {L : Addr} {m : Str → Option Value} (F : Fr h₀ L h m) : h.objs.size ≠ L ∧ h₀.get? h.objs.size = none := by
  obtain ⟨oL, _, _, hL, _⟩ := F.ns
  refine ⟨Nat.ne_of_gt (Heap.lt_size hL), ?_⟩
  cases q : h₀.get? h.objs.size with
  | none => rfl
  | some o => exact absurd (Heap.lt_size (F.keep _ _ q)) (Nat.lt_irrefl _)

theorem Rel.lowNow (R : Rel G Γ as st s) : sysModules < s.heap.objs.size := by
  obtain ⟨m, F, _⟩ := R.fr
  exact Nat.lt_trans R.low (Nat.lt_of_le_of_lt (R.gd.sz ▸ F.above) F.ns.lt)
/-- an object made -/
theorem Rel.alloc (R : Rel G Γ as st s) {o : Obj} {mo : MO} (hf : o.isFreed = false) (hr : OR G (as ++ [s.heap.objs.size]) mo o) :
    Rel G Γ (as ++ [s.heap.objs.size]) { st with H := st.H ++ [mo] } { s with heap := s.heap.push o } := by
  obtain ⟨m, F, l⟩ := R.fr
  have z := fresh_addr F
  exact ⟨R.h₀, R.gd, R.gens, R.drawn, R.os, R.low, ⟨m, F.push o, l.mono (List.prefix_append ..)⟩, R.hp.add (fun i b mb e f g => Nat.ne_of_lt (R.hp.fresh i b mb e f g)) (fun b _ _ o' e => Heap.get?_push_of_some _ e) (Heap.get?_push_size _ hf) hr z.1 z.2 fun _ => R.lowNow⟩
theorem VR.last {a : Addr} {n : Nat} (h : n = as.length) : VR (as ++ [a]) (.ref n) (.ref a) := ⟨a, by subst h; simp, rfl⟩

/-- an object changed -/
theorem Rel.change (R : Rel G Γ as st s) {i : Nat} {a : Addr} {o : Obj} {mo old : MO} {h' : Heap} (ha : as[i]? = some a) (hold : st.H[i]? = some old) (he : Heap.ExtBut a s.heap h') (ho : h'.get? a = some o) (hr : OR G as mo o) (hj : isJunk old = false := by rfl) (hkd : isDictO mo = true → isDictO old = true := by intro h; first | rfl | cases h) :
    Rel G Γ as { st with H := st.H.set i mo } { s with heap := h' } := by
  obtain ⟨m, F, l⟩ := R.fr
  obtain ⟨_, _, _, z1, z2, _⟩ := R.hp.ob i a old ha hold hj
  exact ⟨R.h₀, R.gd, R.gens, R.drawn, R.os, R.low, ⟨m, Fr.ext F he z1 z2, l⟩, R.hp.set ha hold hj (fun b hb o e => he b o hb e) ho hr hkd⟩
theorem Rel.kill (R : Rel G Γ as st s) {i : Nat} {a : Addr} {old : MO} {h' : Heap} (ha : as[i]? = some a) (hold : st.H[i]? = some old) (he : Heap.ExtBut a s.heap h') (hj : isJunk old = false := by rfl) :
    Rel G Γ as { st with H := st.H.set i .junk } { s with heap := h' } := by
  obtain ⟨m, F, l⟩ := R.fr
  obtain ⟨_, _, _, z1, z2, _⟩ := R.hp.ob i a old ha hold hj
  exact ⟨R.h₀, R.gd, R.gens, R.drawn, R.os, R.low, ⟨m, Fr.ext F he z1 z2, l⟩, R.hp.kill ha hold hj (fun b hb o e => he b o hb e)⟩
theorem Rel.ob (R : Rel G Γ as st s) {i : Nat} {a : Addr} {mo : MO} (ha : as[i]? = some a) (hm : st.H[i]? = some mo) (hj : isJunk mo = false := by rfl) : ∃ o, s.heap.get? a = some o ∧ OR G as mo o :=
  let ⟨o, x, y, _⟩ := R.hp.ob i a mo ha hm hj; ⟨o, x, y⟩
theorem Rel.len (R : Rel G Γ as st s) : as.length = st.H.length := R.hp.len

/-! lists -/
noncomputable def newListM (g : St → Option (List MV × St)) (st : St) : Option (MV × St) := (g st).bind fun x => if x.1.length < 1000 then some (.ref (hlen x.2.H), { x.2 with H := happ x.2.H (.list x.1) }) else none
theorem newList_ok {vs : List MV} {Vs : List Value} {E : Value → Shared → Prop} {Q : Value → Shared → Prop} (R : Rel G Γ as st s) (hv : All2 (VR as) vs Vs) (hl : vs.length < 1000)
    (q : Post G Γ as (.ref st.H.length) { st with H := st.H ++ [.list vs] } Q) : wpAny (model G.prog G.w) Γ.A (newList Vs) Q E s := by
  refine wpAny_newObj_type (q _ _ _ (List.prefix_append ..) (R.alloc rfl ⟨Vs.toArray, 0, rfl, ?_⟩) (VR.last R.len.symm)) (by show Vs.toArray.size ≤ sizeLine; rw [List.size_toArray, ← hv.length, sizeLine_eq]; omega)
  simpa using hv.imp fun _ _ => VR.mono (List.prefix_append ..)
theorem ev_list {es : List Expr} {pos : Pos} {g : St → Option (List MV × St)} (hg : AOk G D hn cs es g) : EvOk G D hn cs (.List es pos) (newListM g) := by
  intro Γ C as st s v st' Q R h q
  obtain ⟨⟨vs, st₁⟩, e1, h⟩ := bind_some h
  simp only [hlen_eq, happ_eq] at h
  split at h
  · rename_i hl
    cases h
    exact List_ (hg Γ C as st s vs st₁ pos _ R e1 fun as' s' Vs p R' hv => newList_ok R' hv hl fun as2 s2 V p2 => q as2 s2 V (p.trans p2))
  · cases h

/-- xs[i] -/
noncomputable def itemM : MV → MV → St → Option (MV × St)
  | .ref n, .int k, st => match hget st.H n with
    | some (.list vs) => if 0 ≤ k ∧ k < 1000 then (vs[k.toNat]?).map fun v => (v, st) else if k = -1 ∧ vs.length < 1000 then (vs[vs.length - 1]?).map fun v => (v, st) else none
    | some (.dict kvs _) => (kvs.lookup k).map fun v => (v, st)
    | _ => none
  | _, _, _ => none

theorem lookup_valueAt {kvs : List (Int × MV)} {kvs' : List (Int × Value)} (h : All2 (KV as) kvs kvs') {k : Int} {v : MV} : kvs.lookup k = some v → ∃ V, valueAt kvs' k = some V ∧ VR as v V := by
  intro e
  induction h with
  | nil => cases e
  | @cons x y l r hxy hlr ih =>
    obtain ⟨k1, v1⟩ := x
    obtain ⟨k2, v2⟩ := y
    obtain ⟨e1, e2⟩ := hxy
    dsimp only at e1 e2
    subst e1
    rw [List.lookup_cons] at e
    by_cases q : k = k1
    · subst q
      simp at e
      subst e
      exact ⟨v2, by simp [valueAt], e2⟩
    · rw [beq_eq_false_iff_ne.mpr q] at e
      obtain ⟨V, a, b⟩ := ih e
      refine ⟨V, ?_, b⟩
      unfold valueAt at a ⊢
      rw [List.find?_cons_of_neg (by simpa using Ne.symm q)]
      exact a

theorem getItem_ok {n k v V I} {st' : St} {E : Value → Shared → Prop} {Q : Value → Shared → Prop} (R : Rel G Γ as st s) (h1 : VR as n V) (h2 : VR as k I) (h : itemM n k st = some (v, st')) (q : Post G Γ as v st' Q) :
    wpAny (model G.prog G.w) Γ.A (getItem V I) Q E s ∧ ∃ T id, s.TypeIs V T ∧ typeLookup (.type T) "__getitem__" = pure (some (.builtin id)) := by
  cases n <;> cases k <;> first | (cases h; done) | skip
  rename_i n k
  obtain ⟨a, ha, rfl⟩ := h1
  obtain ⟨t, rfl⟩ := h2
  simp only [itemM, hget_eq, hset_eq, hlen_eq, happ_eq] at h
  split at h
  · rename_i vs e
    obtain ⟨o, ho, items, n', rfl, al⟩ := R.ob ha e
    have hl : s.heap.IsList a items := ⟨_, ho, rfl, n', rfl⟩
    refine ⟨?_, "list", _, ⟨_, ho, rfl⟩, slot_list_getitem.lookup⟩
    split at h
    · rename_i hk
      obtain ⟨w, e1, h⟩ := Option.map_eq_some_iff.mp h
      cases h
      obtain ⟨W, hW, hw⟩ := al.get e1
      exact wpAny_getItem_list hl hk.1 (by omega) (by simpa using hW) (q as s W (List.prefix_refl _) R hw)
    · split at h
      · rename_i hk
        obtain ⟨rfl, hk⟩ := hk
        obtain ⟨w, e1, h⟩ := Option.map_eq_some_iff.mp h
        cases h
        obtain ⟨W, hW, hw⟩ := al.get e1
        have hz := al.length
        have hp : vs.length - 1 < vs.length := (List.getElem?_eq_some_iff.mp e1).1
        have hs : items.size = vs.length := by rw [hz]; simp
        refine wpAny_getItem_list_neg hl (by omega) (by omega) (by decide) (x := W) ?_ (q as s W (List.prefix_refl _) R hw)
        have : (-1 + (items.size : Int)).toNat = vs.length - 1 := by omega
        rw [this]; simpa using hW
      · cases h
  · rename_i kvs ep e
    obtain ⟨o, ho, es, kvs', n', x1, x2, x3, x4, x5, al, _⟩ := R.ob ha e
    obtain ⟨w, e1, h⟩ := Option.map_eq_some_iff.mp h
    cases h
    obtain ⟨W, hW, hw⟩ := lookup_valueAt al e1
    have hd : s.heap.DictOf (intKind G.prog G.w) a kvs' := ⟨o, es, n', ho, x1, x2, x3, x4, x5⟩
    refine ⟨?_, "dict", _, hd.typeIs, slot_dict_getitem.lookup⟩
    exact wpAny_getItem_of (knd := intKind G.prog G.w) (intKind_is _ _ _ _) hd.mapOf hW (q as _ W (List.prefix_refl _) (R.toks _) hw)
  · cases h

theorem ev_item {e i : Expr} {pos : Pos} {f g : St → Option (MV × St)} (hf : EvOk G D hn cs e f) (hg : EvOk G D hn cs i g)
    (hs : ∀ o v, subscripted i false o v = operate [o, v] (getItem o v)) : EvOk G D hn cs (.Subscript e i pos) (bin2 f g itemM) := by
  intro Γ C as st s v st' Q R q0 q
  obtain ⟨⟨a, st₁⟩, e1, q0⟩ := bind_some q0
  obtain ⟨⟨b, st₂⟩, e2, q0⟩ := bind_some q0
  refine Subscript_ (hf Γ C as st s a st₁ _ R e1 fun as₁ s₁ Va p₁ R₁ va => ?_)
  refine hg Γ C as₁ st₁ s₁ b st₂ _ R₁ e2 fun as₂ s₂ Vb p₂ R₂ vb => ?_
  obtain ⟨w, T, id, hT, hid⟩ := getItem_ok (E := bot) R₂ (va.mono p₂) vb q0 (fun as₃ s₃ V p₃ => q as₃ s₃ V (p₁.trans (p₂.trans p₃)))
  exact tail_any hT hid w (hs _ _)
end
end
end Mine

set_option Elab.async false
set_option maxRecDepth 100000
set_option maxHeartbeats 1000000
set_option linter.all false
namespace Mine
open PySem PySem.W PySem.Spec PySem.Calls PyProof.Rows
noncomputable section

section
variable {G : Gl} {D : Nat} {hn : Bool} {cs : Scope}

/-! methods of built-in kinds -/
noncomputable def MethEq (o : Expr) (name : Str) (apos pos : Pos) (args : List Expr) (pl : Env → Sem Bool) : Prop := ∀ env, eval (.Call (.Attribute o name apos) args [] pos) env = (do
   let ov ← eval o env
   standAt apos.atName
   let (f, first) ← holding [ov] (getMethod ov name (pl env))
   callWith pos f first (backTo pos (starEach args env)) [])

noncomputable def isListK (H : List MO) (n : Nat) : Bool := match hget H n with | some (.list _) => true | _ => false
noncomputable def isDictK (H : List MO) (n : Nat) : Bool := match hget H n with | some (.dict _ _) => true | _ => false

noncomputable def Get0 (G : Gl) (kd : List MO → Nat → Bool) (name : Str) (id : String) : Prop :=
  ∀ {Γ : Fx} {as : List Addr} {st : St} {s : Shared} {n : Nat} {a : Addr} {pl : Sem Bool} {Q : Value × List Value → Shared → Prop}, Rel G Γ as st s → as[n]? = some a → kd st.H n = true → Q (.builtin id, [.ref a]) s →
    wpAny (model G.prog G.w) Γ.A (getMethod (.ref a) name pl) Q bot s

theorem get_list {name : Str} {id : String} (slot : Slot "list" name id) (ty : typeOf (.builtin id) = pure (.type "method_descriptor")) : Get0 G isListK name id := by
  intro Γ as st s n a pl Q R ha hk q
  unfold isListK at hk
  try simp only [hget_eq, hset_eq] at hk
  split at hk
  · rename_i vs e
    obtain ⟨o, ho, items, n', rfl, al⟩ := R.ob ha e
    exact getMethod_builtin ⟨_, ho, rfl⟩ PySem.F.plainAttrs_list slot ty (fun a' e => by cases e; exact ⟨_, ho, rfl⟩) q
  · cases hk

noncomputable def bm0 (kd : List MO → Nat → Bool) (f : St → Option (MV × St)) (g : Nat → St → Option (MV × St)) (st : St) : Option (MV × St) :=
  (f st).bind fun x => match x.1 with | .ref n => (bif kd x.2.H n then g n x.2 else none) | _ => none
noncomputable def bm1 (kd : List MO → Nat → Bool) (f h : St → Option (MV × St)) (g : Nat → MV → St → Option (MV × St)) (st : St) : Option (MV × St) :=
  (f st).bind fun x => match x.1 with | .ref n => (bif kd x.2.H n then (h x.2).bind fun y => g n y.1 y.2 else none) | _ => none

noncomputable def Ob0 (G : Gl) (D : Nat) (hn : Bool) (cs : Scope) (id : String) (g : Nat → St → Option (MV × St)) : Prop :=
  ∀ Γ, Cx G D hn cs Γ → ∀ as st s n a r st' Q, Rel G Γ as st s → as[n]? = some a → g n st = some (r, st') → Post G Γ as r st' Q → wpAny (model G.prog G.w) Γ.A (call (.builtin id) [.ref a]) Q bot s
noncomputable def Ob1 (G : Gl) (D : Nat) (hn : Bool) (cs : Scope) (id : String) (g : Nat → MV → St → Option (MV × St)) : Prop :=
  ∀ Γ, Cx G D hn cs Γ → ∀ as st s n a v V r st' Q, Rel G Γ as st s → as[n]? = some a → VR as v V → g n v st = some (r, st') → Post G Γ as r st' Q → wpAny (model G.prog G.w) Γ.A (call (.builtin id) [.ref a, V]) Q bot s

theorem ev_bm0 {o : Expr} {name : Str} {id : String} {apos pos : Pos} {pl : Env → Sem Bool} {kd : List MO → Nat → Bool} {f : St → Option (MV × St)} {g : Nat → St → Option (MV × St)}
    (hf : EvOk G D hn cs o f) (hget : Get0 G kd name id) (hg : Ob0 G D hn cs id g) (he : MethEq o name apos pos [] pl) : EvOk G D hn cs (.Call (.Attribute o name apos) [] [] pos) (bm0 kd f g) := by
  intro Γ C as st s v st' Q R h q
  obtain ⟨⟨u, st₁⟩, e1, h⟩ := bind_some h
  dsimp only at h
  cases u <;> first | (cases h; done) | skip
  rename_i n
  dsimp only at h
  cases hk : kd st₁.H n with
  | false => rw [hk] at h; cases h
  | true =>
    rw [hk] at h
    refine MethodCall_ (pl := pl Γ.env) (hf Γ C as st s _ st₁ _ R e1 fun as' s' V p R' hv => ?_) (he _)
    obtain ⟨a, ha, rfl⟩ := hv
    exact hget R' ha hk (callWith_method0 (hg Γ C as' st₁ s' n a v st' _ R' ha h fun as2 s2 V p2 => q as2 s2 V (p.trans p2)))

theorem ev_bm1 {o e : Expr} {name : Str} {id : String} {apos pos : Pos} {pl : Env → Sem Bool} {kd : List MO → Nat → Bool} {f h : St → Option (MV × St)} {g : Nat → MV → St → Option (MV × St)}
    (hf : EvOk G D hn cs o f) (hh : EvOk G D hn cs e h) (hget : Get0 G kd name id) (hg : Ob1 G D hn cs id g) (he : MethEq o name apos pos [e] pl)
    (hs : ∀ env, starEach [e] env = (false, eval e env) :: starEach [] env) : EvOk G D hn cs (.Call (.Attribute o name apos) [e] [] pos) (bm1 kd f h g) := by
  intro Γ C as st s v st' Q R q0 q
  obtain ⟨⟨u, st₁⟩, e1, q0⟩ := bind_some q0
  dsimp only at q0
  cases u <;> first | (cases q0; done) | skip
  rename_i n
  dsimp only at q0
  cases hk : kd st₁.H n with
  | false => rw [hk] at q0; cases q0
  | true =>
    rw [hk] at q0
    obtain ⟨⟨w, st₂⟩, e2, q0⟩ := bind_some q0
    refine MethodCall_ (pl := pl Γ.env) (hf Γ C as st s _ st₁ _ R e1 fun as' s' V p R' hv => ?_) (he _)
    obtain ⟨a, ha, rfl⟩ := hv
    refine hget R' ha hk (callWith_method1 ?_ (hs _) rfl)
    refine args_cons (hh Γ C as' st₁ s' w st₂ _ R' e2 fun as2 s2 W p2 R2 hw => args_nil ?_) (hs _)
    exact hg Γ C as2 st₂ s2 n a w W v st' _ R2 (getElem?_pre p2 ha) hw q0 fun as3 s3 V p3 => q as3 s3 V (p.trans (p2.trans p3))

theorem Rel.mapSeq {Γ : Fx} {as : List Addr} {st : St} {s : Shared} (R : Rel G Γ as st s) {i : Nat} {a : Addr} {items : Array Value} {n : Nat} {vs vs' : List MV} (ha : as[i]? = some a) (hm : st.H[i]? = some (.list vs)) (ho : s.heap.get? a = some (W.listOf items n)) (f : Array Value → Array Value)
    (hr : All2 (VR as) vs' (f items).toList) : Rel G Γ as { st with H := st.H.set i (.list vs') } { s with heap := s.heap.update a (Obj.mapSeq f) } :=
  R.change ha hm (Heap.SameBut.update ..).extBut (Heap.get?_update_self _ ho rfl) ⟨f items, _, rfl, hr⟩

noncomputable def appendM (n : Nat) (v : MV) (st : St) : Option (MV × St) := match hget st.H n with
  | some (.list vs) => if vs.length < 1000 then some (.none, { st with H := hset st.H n (.list (vs ++ [v])) }) else none
  | _ => none
theorem o_append : Ob1 G D hn cs "list.append" appendM := by
  intro Γ C as st s n a v V r st' Q R ha hv h q
  unfold appendM at h
  try simp only [hget_eq, hset_eq] at h
  split at h
  · rename_i vs e
    split at h
    · rename_i hl
      cases h
      obtain ⟨o, ho, items, n', rfl, al⟩ := R.ob ha e
      refine append_at ho (fun h' hs ho' => q as _ .none (List.prefix_refl _) (R.change ha e hs.extBut ho' ⟨items.push V, n' + 1, rfl, ?_⟩) rfl) (by have := al.length; rw [sizeLine_eq]; simp at this; omega)
      simpa using al.append (.cons hv .nil) |> fun z => by simpa using All2.append (.cons hv .nil) al
    · cases h
  · cases h
theorem get_append : Get0 G isListK (Str.ofString "append") "list.append" := get_list PySem.F.slot_list_append PySem.F.type_list_append

noncomputable def clearM (n : Nat) (st : St) : Option (MV × St) := match hget st.H n with
  | some (.list vs) => if vs.length < 1000 then some (.none, { st with H := hset st.H n (.list []) }) else none
  | _ => none
theorem o_clear : Ob0 G D hn cs "list.clear" clearM := by
  intro Γ C as st s n a r st' Q R ha h q
  unfold clearM at h
  try simp only [hget_eq, hset_eq] at h
  split at h
  · rename_i vs e
    split at h
    · rename_i hl
      cases h
      obtain ⟨o, ho, items, n', rfl, al⟩ := R.ob ha e
      refine call_meets PySem.F.slot_list_clear ⟨_, ho, rfl⟩ PySem.F.entry_list_clear (PySem.F.args_list_clear_1 _) (PySem.AutoSeq1.list_clear_list_0 a items n' (by have := al.length; rw [sizeLine_eq]; simp at this; omega)) ⟨ho, ?_⟩
      exact q as _ .none (List.prefix_refl _) (R.mapSeq ha e ho (fun _ => #[]) .nil) rfl
    · cases h
  · cases h
theorem get_clear : Get0 G isListK (Str.ofString "clear") "list.clear" := get_list PySem.F.slot_list_clear PySem.F.type_list_clear

theorem All2.dropLast {α β : Type} {R : α → β → Prop} : ∀ {l r}, All2 R l r → All2 R l.dropLast r.dropLast
  | _, _, .nil => .nil
  | _, _, .cons _ .nil => .nil
  | _, _, .cons x (.cons y z) => .cons x (All2.dropLast (.cons y z))
theorem All2.eraseIdx {α β : Type} {R : α → β → Prop} : ∀ {l r}, All2 R l r → ∀ i, All2 R (l.eraseIdx i) (r.eraseIdx i)
  | _, _, .nil, _ => .nil
  | _, _, .cons x y, 0 => y
  | _, _, .cons x y, i + 1 => .cons x (y.eraseIdx i)

noncomputable def popM (n : Nat) (st : St) : Option (MV × St) := match hget st.H n with
  | some (.list vs) => if vs.length < 1000 then (vs[vs.length - 1]?).map fun v => (v, { st with H := hset st.H n (.list (vs.eraseIdx (vs.length - 1))) }) else none
  | _ => none
theorem o_pop : Ob0 G D hn cs "list.pop" popM := by
  intro Γ C as st s n a r st' Q R ha h q
  unfold popM at h
  try simp only [hget_eq, hset_eq] at h
  split at h
  · rename_i vs e
    split at h
    · rename_i hl
      obtain ⟨w, e1, h⟩ := Option.map_eq_some_iff.mp h
      cases h
      obtain ⟨o, ho, items, n', rfl, al⟩ := R.ob ha e
      obtain ⟨W, hW, hw⟩ := al.get e1
      have hz : vs.length = items.size := by have := al.length; simpa using this
      refine call_meets PySem.F.slot_list_pop ⟨_, ho, rfl⟩ PySem.F.entry_list_pop (PySem.F.args_list_pop_1 _) (PySem.MeetsSeq.list_pop_last a items n' W (by rw [← hz]; simpa using hW) (by rw [sizeLine_eq]; omega)) ⟨ho, ?_⟩
      refine q as _ W (List.prefix_refl _) (R.mapSeq ha e ho (fun xs => xs.eraseIdxIfInBounds (items.size - 1)) ?_) hw
      have : (items.eraseIdxIfInBounds (items.size - 1)).toList = items.toList.eraseIdx (items.size - 1) := by simp
      rw [this, ← hz]
      exact al.eraseIdx _
    · cases h
  · cases h
theorem get_pop : Get0 G isListK (Str.ofString "pop") "list.pop" := get_list PySem.F.slot_list_pop PySem.F.type_list_pop

/-- all ints -/
noncomputable def intsOf : List MV → Option (List Int)
  | [] => some []
  | .int i :: r => (intsOf r).map (i :: ·)
  | _ :: _ => none
noncomputable def eqI (i : Int) : Value → Bool
  | .int a _ => a == i
  | _ => false
theorem ints_all {as : List Addr} {i : Int} {vs : List MV} {items : List Value} (al : All2 (VR as) vs items) : ∀ {is : List Int}, intsOf vs = some is →
    (∀ y ∈ items, ∃ a t, y = .int a t) ∧ items.map (eqI i) = is.map (· == i) := by
  induction al with
  | nil => intro is h; cases h; exact ⟨by simp, rfl⟩
  | @cons v w l r x y ih =>
    intro is h
    cases v <;> first | (cases h; done) | skip
    rename_i j
    obtain ⟨is', e, h⟩ := Option.map_eq_some_iff.mp h
    subst h
    obtain ⟨t, rfl⟩ := x
    obtain ⟨p, q⟩ := ih e
    refine ⟨fun z hz => ?_, by simp [eqI, q]⟩
    rcases List.mem_cons.mp hz with rfl | hz
    · exact ⟨j, t, rfl⟩
    · exact p z hz
theorem eqGives_ints {i : Int} {t : Tok} {items : Array Value} (h : ∀ y ∈ items.toList, ∃ a u, y = .int a u) : ∀ y, y ∈ items → PySem.MeetsSeq.EqGives y (.int i t) (eqI i y) := by
  intro y hy
  obtain ⟨a, u, rfl⟩ := h y (by simpa using hy)
  exact PySem.MeetsSeq.EqGives.int a i u t

noncomputable def countM (n : Nat) (v : MV) (st : St) : Option (MV × St) := match hget st.H n, v with
  | some (.list vs), .int i => (intsOf vs).map fun is => (.int (is.countP (· == i) : Nat), st)
  | _, _ => none
theorem o_count : Ob1 G D hn cs "list.count" countM := by
  intro Γ C as st s n a v V r st' Q R ha hv h q
  unfold countM at h
  try simp only [hget_eq, hset_eq] at h
  split at h
  · rename_i vs i e
    obtain ⟨is, e1, h⟩ := Option.map_eq_some_iff.mp h
    cases h
    obtain ⟨o, ho, items, n', rfl, al⟩ := R.ob ha e
    obtain ⟨t, rfl⟩ := hv
    obtain ⟨p, pq⟩ := ints_all (i := i) al e1
    refine call_meets PySem.F.slot_list_count ⟨_, ho, rfl⟩ PySem.F.entry_list_count (PySem.F.args_list_count_2 _ _) (PySem.MeetsSeq.list_count a items n' _ (eqI i) (eqGives_ints p)) ⟨ho, ?_⟩
    refine q as _ _ (List.prefix_refl _) (R.toks _) ⟨s.toks, ?_⟩
    have : List.countP (eqI i) items.toList = List.countP (· == i) is := by
      have e2 : List.countP (eqI i) items.toList = List.countP id (items.toList.map (eqI i)) := by rw [List.countP_map]; rfl
      have e3 : List.countP (· == i) is = List.countP id (is.map (· == i)) := by rw [List.countP_map]; rfl
      rw [e2, e3, pq]
    rw [this]
  · cases h
theorem get_count : Get0 G isListK (Str.ofString "count") "list.count" := get_list PySem.F.slot_list_count PySem.F.type_list_count

noncomputable def removeM (n : Nat) (v : MV) (st : St) : Option (MV × St) := match hget st.H n, v with
  | some (.list vs), .int i => if vs.length < 1000 then (intsOf vs).bind fun is => (is.findIdx? (· == i)).map fun j => (.none, { st with H := hset st.H n (.list (vs.eraseIdx j)) }) else none
  | _, _ => none
theorem o_remove : Ob1 G D hn cs "list.remove" removeM := by
  intro Γ C as st s n a v V r st' Q R ha hv h q
  unfold removeM at h
  try simp only [hget_eq, hset_eq] at h
  split at h
  · rename_i vs i e
    split at h
    · rename_i hl
      obtain ⟨is, e1, h⟩ := bind_some h
      obtain ⟨j, e2, h⟩ := Option.map_eq_some_iff.mp h
      cases h
      obtain ⟨o, ho, items, n', rfl, al⟩ := R.ob ha e
      obtain ⟨t, rfl⟩ := hv
      obtain ⟨p, pq⟩ := ints_all (i := i) al e1
      have hz : vs.length = items.size := by have := al.length; simpa using this
      have hlen : is.length = items.size := by have := congrArg List.length pq; simpa using this.symm
      obtain ⟨hj, hit, hno⟩ := List.findIdx?_eq_some_iff_getElem.mp e2
      have at_ : ∀ m (hm : m < items.size), eqI i items[m] = (is[m]'(by omega) == i) := fun m hm => by
        have := congrArg (·[m]?) pq
        simp [hm, hlen] at this
        simpa using this
      refine call_meets PySem.F.slot_list_remove ⟨_, ho, rfl⟩ PySem.F.entry_list_remove (PySem.F.args_list_remove_2 _ _)
        (PySem.MeetsSeq.list_remove a items n' _ (eqI i) (eqGives_ints p) j (by omega) (by rw [at_ j (by omega)]; exact hit) (fun m hm hlt => by rw [at_ m hm]; simpa using hno m hlt) (by rw [sizeLine_eq]; omega)) ⟨ho, ?_⟩
      refine q as _ .none (List.prefix_refl _) (R.mapSeq ha e ho (fun xs => xs.eraseIdxIfInBounds j) ?_) rfl
      have : (items.eraseIdxIfInBounds j).toList = items.toList.eraseIdx j := by simp
      rw [this]
      exact al.eraseIdx _
    · cases h
  · cases h
theorem get_remove : Get0 G isListK (Str.ofString "remove") "list.remove" := get_list PySem.F.slot_list_remove PySem.F.type_list_remove

/-- xs + ys, or ints -/
noncomputable def catM (a b : MV) (st : St) : Option (MV × St) := match a, b with
  | .ref n, .ref m => match hget st.H n, hget st.H m with
    | some (.list vs), some (.list ws) => if vs.length < 1000 ∧ ws.length < 1000 then some (.ref (hlen st.H), { st with H := happ st.H (.list (vs ++ ws)) }) else none
    | _, _ => none
  | _, _ => none
theorem o_cat : Op2 G D hn cs (binaryOp .Add) catM := by
  intro Γ C as st s a b Va Vb v st' Q R ha hb h q
  cases a <;> cases b <;> first | (cases h; done) | skip
  rename_i n m
  simp only [catM, hget_eq, hset_eq, hlen_eq, happ_eq] at h
  split at h
  · rename_i vs ws e1 e2
    split at h
    · rename_i hl
      cases h
      obtain ⟨x, hx, rfl⟩ := ha
      obtain ⟨y, hy, rfl⟩ := hb
      obtain ⟨o, ho, items, n', rfl, al⟩ := R.ob hx e1
      obtain ⟨o2, ho2, items2, n2, rfl, al2⟩ := R.ob hy e2
      obtain ⟨mm, F, l⟩ := R.fr
      have z1 : vs.length = items.size := by have := al.length; simpa using this
      have z2 : ws.length = items2.size := by have := al2.length; simpa using this
      refine add_arrays F R.hp.news ⟨_, ho, rfl, n', rfl⟩ ⟨_, ho2, rfl, n2, rfl⟩ (fun h' F' N' => ?_) (by rw [sizeLine_eq]; omega)
      refine q _ _ _ (List.prefix_append ..) ⟨R.h₀, R.gd, R.gens, R.drawn, R.os, R.low, ⟨mm, F', l.mono (List.prefix_append ..)⟩, R.hp.ofNews1 N' ⟨_, 0, rfl, ?_⟩ (Nat.le_refl _) fun _ => R.lowNow⟩ (VR.last R.len.symm)
      simpa using (All2.append al2 al).imp fun _ _ => VR.mono (List.prefix_append ..)
    · cases h
  · cases h
end
end
end Mine

set_option Elab.async false
set_option maxRecDepth 100000
set_option maxHeartbeats 1000000
set_option linter.all false
namespace Mine
open PySem PySem.W PySem.Spec PySem.Calls PyProof.Rows
noncomputable section

/-! dicts of ints, with the epoch -/
section
variable {prog : Program} {w : World} {A : Around} {E : Value → Shared → Prop} {s : Shared}

theorem dictSet_at {d : Addr} {kvs : List (Int × Value)} {ep : Nat} {k : Int} {t : Tok} {v : Value} {Q : Unit → Shared → Prop} (hm : s.heap.DictAt (intKind prog w) d kvs ep)
    (hQ : ∀ h', h'.DictAt (intKind prog w) d (stored kvs k v) (if kvs.any (fun kv => kv.1 = k) then ep else ep + 1) → Heap.SameBut d s.heap h' → Q () { s with heap := h', toks := s.toks + 1 })
    (hsz : kvs.length < 1000) : wpAny (model prog w) A (dictSet d (.int k t) v) Q E s := by
  have hkey := intKind_is prog w k t
  obtain ⟨o, es, ho, hc, hd, hk, hp, hnd⟩ := hm
  have hes : es.size ≤ sizeLine := by
    have e1 := hp.length
    have e2 : es.toList.length = es.size := by simp
    rw [sizeLine_eq]; omega
  have hidx : (es.findIdx? fun e => (intKind prog w).is k e.key) = kvs.findIdx? fun kv => decide (kv.1 = k) := by
    rw [← hp.findIdx k]; obtain ⟨l⟩ := es; simp
  unfold dictSet
  refine wpAny_holding (wpAny_bind ((intKind prog w).pyHash hkey ?_))
  unfold dictSetHashed
  refine wpAny_holding (wpAny_bind (wpAny_dictFind_of (s := { s with toks := s.toks + 1 }) hkey ho hd hk ?_))
  cases hi : es.findIdx? fun e => (intKind prog w).is k e.key with
  | some i =>
    have hany := any_of_findIdx_some (hidx ▸ hi)
    refine wpAny_bind (wpAny_rule (wpAny_bind (wpAny_updateDict (s := { s with toks := s.toks + 1 }) ho hd (wpAny_point (hQ _ ?_ (Heap.SameBut.update ..))))))
    rw [if_pos hany]
    refine ⟨_, _, Heap.get?_update_self _ ho (Obj.isFreed_of_dict (Obj.data_mapDict hd _)), hc.mapDict _, Obj.data_mapDict hd _, hk.modify _ _, ?_, ?_⟩
    · rw [stored, if_pos hany]
      have hl : (es.toList.findIdx? fun e => (intKind prog w).is k e.key) = some i := by rw [← hi]; obtain ⟨l⟩ := es; simp
      have z := hp.modify hnd hl v
      obtain ⟨l⟩ := es
      simpa using z
    · rw [stored, if_pos hany, keys_map_store]; exact hnd
  | none =>
    have hnot : k ∉ kvs.map (·.1) := not_mem_of_findIdx_none (hidx ▸ hi)
    have hany : ¬ (kvs.any fun kv => decide (kv.1 = k)) = true := by
      rw [List.any_eq_true]; rintro ⟨kv, hkv, he⟩
      exact hnot (List.mem_map.mpr ⟨kv, hkv, of_decide_eq_true he⟩)
    refine wpAny_bind (wpAny_rule (wpAny_updateDictKeys (hz := hes) (s := { s with toks := s.toks + 1 }) ho hd (hQ _ ?_ (Heap.SameBut.update ..))))
    rw [if_neg hany]
    refine ⟨_, _, Heap.get?_update_self _ ho (Obj.isFreed_of_dict (Obj.data_mapDictKeys hd _)), hc.mapDictKeys _, Obj.data_mapDictKeys hd _, hk.push hkey _, ?_, ?_⟩
    · rw [stored, if_neg hany]
      have z := hp.append hkey ((intKind prog w).hash k) v
      obtain ⟨l⟩ := es
      simpa using z
    · rw [stored, if_neg hany, List.map_append, List.nodup_append]
      refine ⟨hnd, by simp, fun a ha b hb e => ?_⟩
      simp only [List.map_cons, List.map_nil, List.mem_singleton] at hb
      subst hb; subst e
      exact hnot ha

theorem setItem_at {d : Addr} {kvs : List (Int × Value)} {ep : Nat} {k : Int} {t : Tok} {v : Value} {Q : Unit → Shared → Prop} (hm : s.heap.DictAt (intKind prog w) d kvs ep)
    (hQ : ∀ h', h'.DictAt (intKind prog w) d (stored kvs k v) (if kvs.any (fun kv => kv.1 = k) then ep else ep + 1) → Heap.SameBut d s.heap h' → Q () { s with heap := h', toks := s.toks + 1 })
    (hsz : kvs.length < 1000) : wpAny (model prog w) A (setItem (.ref d) (.int k t) v) Q E s := by
  have hT := hm.dictOf.typeIs (s := s)
  unfold setItem
  refine wpAny_holding (wpAny_bind (wpAny_sequenceKey hT (by decide) ?_))
  refine wpAny_bind (wpAny_callSpecial?_slot (name := Str.ofString "__setitem__") hT slot_dict_setitem (wpAny_call_entry slot_dict_setitem hT entry_dict_setitem ?_ (args_dict_setitem _ _ _)))
  show wpAny _ _ (Builtin.Dict.notOrdered "__setitem__" ⟨[.ref d, .int k t, v], []⟩ >>= _) _ _ s
  refine wpAny_bind (wpAny_notOrdered_dict hT ?_)
  show wpAny _ _ (dictSet d (.int k t) v >>= _) _ _ s
  exact wpAny_bind (dictSet_at hm (fun h' a b => wpAny_pure ⟨.none, rfl, wpAny_pure (hQ h' a b)⟩) hsz)
end

section
variable {G : Gl} {D : Nat} {hn : Bool} {cs : Scope} {as : List Addr}

noncomputable def putKV (kvs : List (Int × MV)) (k : Int) (v : MV) : List (Int × MV) :=
  if kvs.any (fun kv => kv.1 = k) then kvs.map (fun kv => if kv.1 = k then (kv.1, v) else kv) else kvs ++ [(k, v)]
theorem kv_any {k : Int} {kvs : List (Int × MV)} {kvs' : List (Int × Value)} (h : All2 (KV as) kvs kvs') : kvs.any (fun kv => kv.1 = k) = kvs'.any (fun kv => kv.1 = k) := by
  induction h with
  | nil => rfl
  | cons x _ ih => simp only [List.any_cons, ih, x.1]
theorem kv_map {k : Int} {v : MV} {V : Value} (hv : VR as v V) {kvs : List (Int × MV)} {kvs' : List (Int × Value)} (h : All2 (KV as) kvs kvs') :
    All2 (KV as) (kvs.map (fun kv => if kv.1 = k then (kv.1, v) else kv)) (kvs'.map (fun kv => if kv.1 = k then (kv.1, V) else kv)) := by
  induction h with
  | nil => exact .nil
  | @cons x y l r xy _ ih =>
    refine .cons ?_ ih
    dsimp only
    have := xy.1
    by_cases q : x.1 = k
    · rw [if_pos q, if_pos (this ▸ q)]; exact ⟨this, hv⟩
    · rw [if_neg q, if_neg (this ▸ q)]; exact xy
theorem kv_put {k : Int} {v : MV} {V : Value} (hv : VR as v V) {kvs : List (Int × MV)} {kvs' : List (Int × Value)} (h : All2 (KV as) kvs kvs') : All2 (KV as) (putKV kvs k v) (stored kvs' k V) := by
  unfold putKV stored
  rw [kv_any h]
  split
  · exact kv_map hv h
  · exact All2.append (.cons ⟨rfl, hv⟩ .nil) h
theorem OR.dictAt {kvs : List (Int × MV)} {e : Option Nat} {h : Heap} {a : Addr} {o : Obj} (ho : h.get? a = some o) (x : OR G as (.dict kvs e) o) : ∃ kvs' n, h.DictAt (intKind G.prog G.w) a kvs' n ∧ All2 (KV as) kvs kvs' ∧ ∀ e', e = some e' → e' = n :=
  let ⟨es, kvs', n, a, b, c, d, f, g, u⟩ := x; ⟨kvs', n, ⟨o, es, ho, a, b, c, d, f⟩, g, u⟩
theorem OR.ofDict {kvs : List (Int × MV)} {kvs' : List (Int × Value)} {n : Nat} {e : Option Nat} {h : Heap} {a : Addr} (x : h.DictAt (intKind G.prog G.w) a kvs' n) (al : All2 (KV as) kvs kvs') (u : ∀ e', e = some e' → e' = n) : ∃ o, h.get? a = some o ∧ OR G as (.dict kvs e) o :=
  let ⟨o, es, ho, a, b, c, d, f⟩ := x; ⟨o, ho, es, kvs', n, a, b, c, d, f, al, u⟩

/-- x[i] = v -/
noncomputable def putM (o i v : MV) (st : St) : Option St := match o, i with
  | .ref n, .int k => match hget st.H n with
    | some (.list vs) => if 0 ≤ k ∧ k < 1000 ∧ k < vs.length then some { st with H := hset st.H n (.list (vs.set k.toNat v)) } else none
    | some (.dict kvs e) => if kvs.length < 1000 then some { st with H := hset st.H n (.dict (putKV kvs k v) (e.map fun e => if kvs.any (fun kv => kv.1 = k) then e else e + 1)) } else none
    | _ => none
  | _, _ => none
theorem setItem_ok {Γ : Fx} {st : St} {s : Shared} {o i v : MV} {O I V : Value} {st' : St} {E : Value → Shared → Prop} {Q : Unit → Shared → Prop} (R : Rel G Γ as st s) (ho : VR as o O) (hi : VR as i I) (hv : VR as v V) (h : putM o i v st = some st')
    (q : ∀ s', Rel G Γ as st' s' → Q () s') : wpAny (model G.prog G.w) Γ.A (setItem O I V) Q E s := by
  cases o <;> cases i <;> first | (cases h; done) | skip
  rename_i n k
  obtain ⟨a, ha, rfl⟩ := ho
  obtain ⟨t, rfl⟩ := hi
  simp only [putM, hget_eq, hset_eq, hlen_eq, happ_eq] at h
  split at h
  · rename_i vs e
    split at h
    · rename_i hk
      cases h
      obtain ⟨ob, hob, items, n', rfl, al⟩ := R.ob ha e
      have hz : vs.length = items.size := by have := al.length; simpa using this
      refine ki_setAt hob hk.1 (by omega) (by omega) (q _ (R.mapSeq ha e hob (fun xs => xs.setIfInBounds k.toNat V) ?_))
      have : (items.setIfInBounds k.toNat V).toList = items.toList.set k.toNat V := by simp
      rw [this]
      exact al.set hv _
    · cases h
  · rename_i kvs e hm
    split at h
    · rename_i hl
      cases h
      obtain ⟨ob, hob, x⟩ := R.ob ha hm
      obtain ⟨kvs', m, hd, al, u⟩ := OR.dictAt hob x
      refine setItem_at hd (fun h' hd' hs => ?_) (by rw [← al.length]; exact hl)
      obtain ⟨o', ho', r'⟩ := OR.ofDict (G := G) (as := as) (e := e.map fun e => if kvs.any (fun kv => kv.1 = k) then e else e + 1) hd' (kv_put hv al) (by
        intro e' he
        obtain ⟨e0, rfl, rfl⟩ := Option.map_eq_some_iff.mp he
        rw [u e0 rfl, kv_any al])
      exact q _ ((R.toks (s.toks + 1)).change (s := { s with toks := s.toks + 1 }) ha hm hs.extBut ho' r')
    · cases h
  · cases h

noncomputable def asgItemM (f g h : St → Option (MV × St)) (st : St) : Option (Fl × St) := (f st).bind fun x => (g x.2).bind fun y => (h y.2).bind fun z => (putM y.1 z.1 x.1 z.2).map fun r => (.next, r)
theorem s_asgItem {o i e : Expr} {p1 pos : Pos} {f g h : St → Option (MV × St)} (hf : EvOk G D hn cs e f) (hg : EvOk G D hn cs o g) (hh : EvOk G D hn cs i h)
    (hs : ∀ env, swapsWith e (some (.Subscript o i p1)) pos.line env = pure false) : SOk G D hn cs (.Assign [.Subscript o i p1] e pos) (asgItemM f g h) := by
  intro Γ C as st s v st' Q R q0 q
  obtain ⟨⟨u, st₁⟩, e1, q0⟩ := bind_some q0
  obtain ⟨⟨ov, st₂⟩, e2, q0⟩ := bind_some q0
  obtain ⟨⟨iv, st₃⟩, e3, q0⟩ := bind_some q0
  obtain ⟨r, e4, q0⟩ := Option.map_eq_some_iff.mp q0
  cases q0
  refine wpAny_Assign_Subscript (hf Γ C as st s u st₁ _ R e1 fun as₁ s₁ U p₁ R₁ hu => ?_) (hs _)
  refine hg Γ C as₁ st₁ s₁ ov st₂ _ R₁ e2 fun as₂ s₂ O p₂ R₂ ho => ?_
  refine hh Γ C as₂ st₂ s₂ iv st₃ _ R₂ e3 fun as₃ s₃ I p₃ R₃ hi => ?_
  exact setItem_ok R₃ (ho.mono p₃) hi (hu.mono (p₂.trans p₃)) e4 fun s' R' => q as₃ s' .next (p₁.trans (p₂.trans p₃)) R' rfl

/-- x[i] op= e -/
noncomputable def augItemM (f g h : St → Option (MV × St)) (op : MV → MV → St → Option (MV × St)) (st : St) : Option (Fl × St) := (f st).bind fun x => (g x.2).bind fun y => (itemM x.1 y.1 y.2).bind fun old => (h old.2).bind fun z => (op old.1 z.1 z.2).bind fun new => (putM x.1 y.1 new.1 new.2).map fun r => (.next, r)
theorem s_augItem {o i e : Expr} {p1 pos : Pos} {op : Operator} {f g h : St → Option (MV × St)} {opm : MV → MV → St → Option (MV × St)} (hf : EvOk G D hn cs o f) (hg : EvOk G D hn cs i g) (hh : EvOk G D hn cs e h)
    (ho : Op2 G D hn cs (inplaceOp op) opm) (hs : ∀ ov iv new, augStore i ov iv new = (do holding [new, ov, iv] (setItem ov iv new); release [new, ov, iv] []; pure .next)) : SOk G D hn cs (.AugAssign (.Subscript o i p1) op e pos) (augItemM f g h opm) := by
  intro Γ C as st s v st' Q R q0 q
  obtain ⟨⟨ov, st₁⟩, e1, q0⟩ := bind_some q0
  obtain ⟨⟨iv, st₂⟩, e2, q0⟩ := bind_some q0
  obtain ⟨⟨old, st₃⟩, e3, q0⟩ := bind_some q0
  obtain ⟨⟨z, st₄⟩, e4, q0⟩ := bind_some q0
  obtain ⟨⟨new, st₅⟩, e5, q0⟩ := bind_some q0
  obtain ⟨r, e6, q0⟩ := Option.map_eq_some_iff.mp q0
  cases q0
  refine wpAny_AugAssign_SubscriptAny (hf Γ C as st s ov st₁ _ R e1 fun as₁ s₁ O p₁ R₁ ho' => ?_) hs
  refine hg Γ C as₁ st₁ s₁ iv st₂ _ R₁ e2 fun as₂ s₂ I p₂ R₂ hi => ?_
  refine (getItem_ok (E := bot) R₂ (ho'.mono p₂) hi e3 fun as₃ s₃ W p₃ R₃ hw => ?_).1
  refine hh Γ C as₃ st₃ s₃ z st₄ _ R₃ e4 fun as₄ s₄ Z p₄ R₄ hz => ?_
  refine ho Γ C as₄ st₄ s₄ old z W Z new st₅ _ R₄ (hw.mono p₄) hz e5 fun as₅ s₅ N p₅ R₅ hnw => ?_
  exact setItem_ok R₅ (ho'.mono (p₂.trans (p₃.trans (p₄.trans p₅)))) (hi.mono (p₃.trans (p₄.trans p₅))) hnw e6 fun s' R' => q as₅ s' .next (p₁.trans (p₂.trans (p₃.trans (p₄.trans p₅)))) R' rfl

/-! in, not in -/
theorem lookup_isSome {kvs : List (Int × MV)} {kvs' : List (Int × Value)} (h : All2 (KV as) kvs kvs') (k : Int) : (valueAt kvs' k).isSome = (kvs.lookup k).isSome := by
  induction h with
  | nil => rfl
  | @cons x y l r xy _ ih =>
    obtain ⟨k1, v1⟩ := x
    obtain ⟨k2, v2⟩ := y
    obtain ⟨e1, e2⟩ := xy
    dsimp only at e1
    subst e1
    rw [List.lookup_cons]
    by_cases q : k = k1
    · subst q; simp [valueAt]
    · rw [beq_eq_false_iff_ne.mpr q]
      rw [← ih]
      unfold valueAt
      rw [List.find?_cons_of_neg (by simpa using Ne.symm q)]
noncomputable def inM : MV → MV → St → Option (MV × St)
  | .int k, .ref n, st => match hget st.H n with
    | some (.dict kvs _) => some (.bool (kvs.lookup k).isSome, st)
    | some (.set ks) => some (.bool (ks.contains k), st)
    | _ => none
  | _, _, _ => none
noncomputable def notInM : MV → MV → St → Option (MV × St)
  | .int k, .ref n, st => match hget st.H n with
    | some (.dict kvs _) => some (.bool (!(kvs.lookup k).isSome), st)
    | _ => none
  | _, _, _ => none
theorem notMod {Γ : Fx} {st : St} {s : Shared} (R : Rel G Γ as st s) {n : Nat} {a : Addr} {mo : MO} (ha : as[n]? = some a) (hm : st.H[n]? = some mo) (hj : isJunk mo = false := by rfl) (hkd : isDictO mo = true := by rfl) : (a == sysModules) = false :=
  let ⟨_, _, _, _, _, lo⟩ := R.hp.ob n a mo ha hm hj; beq_eq_false_iff_ne.mpr (Nat.ne_of_gt (lo hkd))
theorem o_in : Op2 G D hn cs (compareOp .In) inM := by
  intro Γ C as st s a b Va Vb v st' Q R ha hb h q
  cases a <;> cases b <;> first | (cases h; done) | skip
  rename_i k n
  obtain ⟨t, rfl⟩ := ha
  obtain ⟨a, ha, rfl⟩ := hb
  simp only [inM, hget_eq, hset_eq, hlen_eq, happ_eq] at h
  split at h
  · rename_i kvs e hm
    cases h
    obtain ⟨ob, hob, x⟩ := R.ob ha hm
    obtain ⟨kvs', m, hd, al, u⟩ := OR.dictAt hob x
    refine wpAny_in_of (intKind_is _ _ _ _) (notMod R ha hm) hd.dictOf.mapOf ?_
    rw [lookup_isSome al]
    exact q as _ _ (List.prefix_refl _) (R.toks _) rfl
  · rename_i ks hm
    cases h
    obtain ⟨ob, hob, es, ep, tb, x⟩ := R.ob ha hm
    have hS : s.heap.SetOf (intKind G.prog G.w) a (fun k => ks.contains k) ks.length := ⟨ob, es, ep, tb, hob, x⟩
    exact wpAny_inSet_of (intKind_is _ _ _ _) rfl hS (q as _ _ (List.prefix_refl _) (R.toks _) rfl)
  · cases h
theorem o_notIn : Op2 G D hn cs (compareOp .NotIn) notInM := by
  intro Γ C as st s a b Va Vb v st' Q R ha hb h q
  cases a <;> cases b <;> first | (cases h; done) | skip
  rename_i k n
  obtain ⟨t, rfl⟩ := ha
  obtain ⟨a, ha, rfl⟩ := hb
  simp only [notInM, hget_eq, hset_eq, hlen_eq, happ_eq] at h
  split at h
  · rename_i kvs e hm
    cases h
    obtain ⟨ob, hob, x⟩ := R.ob ha hm
    obtain ⟨kvs', m, hd, al, u⟩ := OR.dictAt hob x
    refine wpAny_notIn_of (intKind_is _ _ _ _) (notMod R ha hm) hd.dictOf.mapOf ?_
    rw [lookup_isSome al]
    exact q as _ _ (List.prefix_refl _) (R.toks _) rfl
  · cases h

/-! d.get(k), s.add(k) -/
theorem get_dict {name : Str} {id : String} (slot : Slot "dict" name id) (ty : typeOf (.builtin id) = pure (.type "method_descriptor")) : Get0 G isDictK name id := by
  intro Γ as st s n a pl Q R ha hk q
  unfold isDictK at hk
  try simp only [hget_eq, hset_eq] at hk
  split at hk
  · rename_i kvs e hm
    obtain ⟨ob, hob, x⟩ := R.ob ha hm
    obtain ⟨kvs', m, hd, al, u⟩ := OR.dictAt hob x
    exact getMethod_builtin hd.dictOf.typeIs PySem.F.plainAttrs_dict slot ty hd.dictOf.mapOf.noDict q
  · cases hk
noncomputable def dgetM (n : Nat) (v : MV) (st : St) : Option (MV × St) := match hget st.H n, v with
  | some (.dict kvs _), .int k => some ((kvs.lookup k).getD .none, st)
  | _, _ => none
theorem o_dget : Ob1 G D hn cs "dict.get" dgetM := by
  intro Γ C as st s n a v V r st' Q R ha hv h q
  unfold dgetM at h
  try simp only [hget_eq, hset_eq] at h
  split at h
  · rename_i kvs e k hm
    cases h
    obtain ⟨t, rfl⟩ := hv
    obtain ⟨ob, hob, x⟩ := R.ob ha hm
    obtain ⟨kvs', m, hd, al, u⟩ := OR.dictAt hob x
    refine call_meetsIn PySem.F.slot_dict_get hd.dictOf.typeIs PySem.F.entry_dict_get (PySem.F.args_dict_get_2 _ _) (meets_dict_get (intKind G.prog G.w) a (intKind_is _ _ _ _) (notMod R ha hm)) ⟨_, hd.dictOf.mapOf, ?_⟩
    refine q as _ _ (List.prefix_refl _) (R.toks _) ?_
    cases e1 : kvs.lookup k with
    | none =>
      have := lookup_isSome al k
      rw [e1] at this
      cases e2 : valueAt kvs' k with
      | none => rfl
      | some y => rw [e2] at this; cases this
    | some y =>
      obtain ⟨Y, h1, h2⟩ := lookup_valueAt al e1
      rw [h1]; exact h2
  · cases h
theorem get_dget : Get0 G isDictK (Str.ofString "get") "dict.get" := get_dict PySem.F.slot_dict_get PySem.F.type_dict_get

noncomputable def isSetK (H : List MO) (n : Nat) : Bool := match hget H n with | some (.set _) => true | _ => false
theorem get_sadd : Get0 G isSetK (Str.ofString "add") "set.add" := by
  intro Γ as st s n a pl Q R ha hk q
  unfold isSetK at hk
  try simp only [hget_eq, hset_eq] at hk
  split at hk
  · rename_i ks hm
    obtain ⟨ob, hob, es, ep, tb, x⟩ := R.ob ha hm
    have hS : s.heap.SetOf (intKind G.prog G.w) a (fun k => ks.contains k) ks.length := ⟨ob, es, ep, tb, hob, x⟩
    exact getMethod_set_add hS q
  · cases hk
noncomputable def saddM (n : Nat) (v : MV) (st : St) : Option (MV × St) := match hget st.H n, v with
  | some (.set ks), .int k => if ks.length < 8 then some (.none, { st with H := hset st.H n (.set (if ks.contains k then ks else ks ++ [k])) }) else none
  | _, _ => none
theorem o_sadd : Ob1 G D hn cs "set.add" saddM := by
  intro Γ C as st s n a v V r st' Q R ha hv h q
  unfold saddM at h
  try simp only [hget_eq, hset_eq] at h
  split at h
  · rename_i ks k hm
    split at h
    · rename_i hl
      cases h
      obtain ⟨t, rfl⟩ := hv
      obtain ⟨ob, hob, es, ep, tb, x⟩ := R.ob ha hm
      have hS : s.heap.SetOf (intKind G.prog G.w) a (fun k => ks.contains k) ks.length := ⟨ob, es, ep, tb, hob, x⟩
      refine call_set_add (intKind_is _ _ _ _) rfl hS (by unfold scanBound; omega) fun h' hsb hS' => ?_
      obtain ⟨o', es', ep', t', ho', y1, y2, y3, y4, y5⟩ := hS'
      refine q as _ .none (List.prefix_refl _) ((R.toks (s.toks + 1)).change (s := { s with toks := s.toks + 1 }) ha hm hsb.extBut ho' ⟨es', ep', t', y1, y2, y3, fun k' => ?_, y5.1, y5.2.1, ?_⟩) rfl
      · rw [← y4 k']
        by_cases hc : ks.contains k = true
        · rw [if_pos hc]
          simp only [Bool.or_eq_true, decide_eq_true_eq]
          constructor
          · exact .inl
          · rintro (z | rfl)
            · exact z
            · exact hc
        · rw [if_neg hc]
          simp [List.contains_iff_mem]
      · rw [y5.2.2]
        split <;> simp
    · cases h
  · cases h

/-! del d[k] -/
theorem kv_without {k : Int} {kvs : List (Int × MV)} {kvs' : List (Int × Value)} (h : All2 (KV as) kvs kvs') : All2 (KV as) (kvs.filter fun kv => decide (kv.1 ≠ k)) (without kvs' k) := by
  unfold without
  induction h with
  | nil => exact .nil
  | @cons x y l r xy _ ih =>
    have := xy.1
    by_cases q : x.1 = k
    · rw [List.filter_cons_of_neg (by simpa using q), List.filter_cons_of_neg (by simpa [← this] using q)]; exact ih
    · rw [List.filter_cons_of_pos (by simpa using q), List.filter_cons_of_pos (by simpa [← this] using q)]; exact .cons xy ih
noncomputable def delM (o i : MV) (st : St) : Option St := match o, i with
  | .ref n, .int k => match hget st.H n with
    | some (.dict kvs _) => if kvs.length < 1000 ∧ (kvs.lookup k).isSome then some { st with H := hset st.H n (.dict (kvs.filter fun kv => decide (kv.1 ≠ k)) none) } else none
    | _ => none
  | _, _ => none
noncomputable def delItemM (g h : St → Option (MV × St)) (st : St) : Option (Fl × St) := (g st).bind fun y => (h y.2).bind fun z => (delM y.1 z.1 z.2).map fun r => (.next, r)
theorem s_del {o i : Expr} {p1 pos : Pos} {g h : St → Option (MV × St)} (hg : EvOk G D hn cs o g) (hh : EvOk G D hn cs i h) : SOk G D hn cs (.Delete [.Subscript o i p1] pos) (delItemM g h) := by
  intro Γ C as st s v st' Q R q0 q
  obtain ⟨⟨ov, st₂⟩, e2, q0⟩ := bind_some q0
  obtain ⟨⟨iv, st₃⟩, e3, q0⟩ := bind_some q0
  obtain ⟨r, e4, q0⟩ := Option.map_eq_some_iff.mp q0
  cases q0
  refine wpAny_Delete ?_
  show wpAny _ _ (do delete (.Subscript o i p1) Γ.env; deleteEach [] Γ.env) _ _ _
  refine wpAny_bind (delete_Subscript (hg Γ C as st s ov st₂ _ R e2 fun as₂ s₂ O p₂ R₂ ho => ?_))
  refine hh Γ C as₂ st₂ s₂ iv st₃ _ R₂ e3 fun as₃ s₃ I p₃ R₃ hi => ?_
  have ho := ho.mono p₃
  cases ov <;> cases iv <;> first | (cases e4; done) | skip
  · rename_i n k
    simp only [delM, hget_eq, hset_eq] at e4
    obtain ⟨a, ha, rfl⟩ := ho
    obtain ⟨t, rfl⟩ := hi
    split at e4
    · rename_i kvs ee hm
      split at e4
      · rename_i hl
        cases e4
        obtain ⟨ob, hob, x⟩ := R₃.ob ha hm
        obtain ⟨kvs', m, hd, al, u⟩ := OR.dictAt hob x
        have hT := hd.dictOf.typeIs (s := s₃)
        refine wpAny_delItem_slot hT (by decide) PySem.F.slot_dict_delitem (call_meetsIn PySem.F.slot_dict_delitem hT PySem.F.entry_dict_delitem (PySem.F.args_dict_delitem_2 _ _) (meets_dict_delitem_pairs (intKind G.prog G.w) a (intKind_is _ _ _ _))
          ⟨kvs', hd.dictOf, by rw [← al.length, sizeLine_eq]; omega, by rw [lookup_isSome al]; exact hl.2, fun h' hd' hs => ?_⟩)
        obtain ⟨n', hd'⟩ := hd'.dictAt
        obtain ⟨o', ho', r'⟩ := OR.ofDict (G := G) (as := as₃) (e := none) hd' (kv_without al) (by intro e' he; cases he)
        exact wpAny_pure (q as₃ _ .next (p₂.trans p₃) ((R₃.toks (s₃.toks + 1)).change (s := { s₃ with toks := s₃.toks + 1 }) ha hm hs.extBut ho' r') rfl)
      · cases e4
    · cases e4

/-! displays -/
theorem or_empty : OR G as (.dict [] (some 0)) { cls := .type "dict", data := .dict #[] } :=
  ⟨#[], [], 0, ⟨rfl, rfl, rfl⟩, rfl, by intro e he; simp at he, .nil, List.nodup_nil, .nil, by intro e he; cases he; rfl⟩
noncomputable def newDictM (st : St) : Option (MV × St) := some (.ref (hlen st.H), { st with H := happ st.H (.dict [] (some 0)) })
theorem ev_dict0 {pos : Pos} : EvOk G D hn cs (.Dict [] [] pos) newDictM := by
  intro Γ C as st s v st' Q R h q
  simp only [newDictM, hlen_eq, happ_eq] at h
  cases h
  exact wpAny_Dict_empty (q _ _ _ (List.prefix_append ..) (R.alloc rfl or_empty) (VR.last R.len.symm))
noncomputable def newDict1M (f g : St → Option (MV × St)) (st : St) : Option (MV × St) :=
  (newDictM st).bind fun d => (f d.2).bind fun x => (g x.2).bind fun y => (putM d.1 x.1 y.1 y.2).map fun r => (d.1, r)
end
end
end Mine

set_option Elab.async false
set_option maxRecDepth 100000
set_option maxHeartbeats 1000000
set_option linter.all false
namespace Mine
open PySem PySem.W PySem.Spec PySem.Calls PyProof.Rows
noncomputable section

section
variable {G : Gl} {D : Nat} {hn : Bool} {cs : Scope}

/-! iterators -/
noncomputable def pushM (mo : MO) (st : St) : Nat × St := ((hlen st.H), { st with H := happ st.H (mo) })
noncomputable def iterM (v : MV) (st : St) : Option (Nat × St) := match v with
  | .ref n => match hget st.H n with
    | some (.list _) => some (pushM (.listIt n 0) st)
    | some (.tup _) => some (pushM (.tupIt n 0) st)
    | some (.range a b) => if -1000 < a ∧ a ≤ b ∧ b < 1000 then some (pushM (.rangeIt a (b - a)) st) else none
    | some (.dict kvs (some e)) => some (pushM (.keyIt n 0 kvs.length e) st)
    | _ => none
  | _ => none

theorem range_facts {a b : Int} (h : -1000 < a ∧ a ≤ b ∧ b < 1000) : Builtin.Range.small a b 1 = true ∧ Builtin.Range.rangeSize a b 1 = b - a := by
  have e : Builtin.Range.rangeSize a b 1 = b - a := by
    unfold Builtin.Range.rangeSize
    rw [if_pos (by decide)]
    split <;> omega
  refine ⟨?_, e⟩
  unfold Builtin.Range.small
  rw [e]
  have fit : ∀ x : Int, -10000 < x → x < 10000 → Builtin.Range.rangeFitsLong x = true := by
    intro x h1 h2
    unfold Builtin.Range.rangeFitsLong
    simp only [Bool.and_eq_true, decide_eq_true_eq]
    omega
  rw [fit a (by omega) (by omega), fit b (by omega) (by omega), fit 1 (by omega) (by omega), fit (b - a) (by omega) (by omega), if_pos (by decide), fit (b + (1 - 1)) (by omega) (by omega)]
  simp

theorem iter_ok {Γ : Fx} {as : List Addr} {st : St} {s : Shared} {v : MV} {V : Value} {it : Nat} {st' : St} {E : Value → Shared → Prop} {Q : Value → Shared → Prop} (R : Rel G Γ as st s) (hv : VR as v V) (h : iterM v st = some (it, st'))
    (q : Post G Γ as (.ref it) st' Q) : wpAny (model G.prog G.w) Γ.A (pyIter V) Q E s := by
  cases v <;> first | (cases h; done) | skip
  rename_i n
  obtain ⟨a, ha, rfl⟩ := hv
  have ha' := getElem?_pre (List.prefix_append as [s.heap.objs.size]) ha
  simp only [iterM, pushM, hget_eq, hset_eq, hlen_eq, happ_eq] at h
  split at h
  · rename_i vs e
    cases h
    obtain ⟨o, ho, items, n', rfl, al⟩ := R.ob ha e
    exact wpAny_pyIter_list ⟨_, ho, rfl, n', rfl⟩ (q _ _ _ (List.prefix_append ..) (R.alloc rfl ⟨a, ha', rfl, rfl⟩) (VR.last R.len.symm))
  · rename_i vs e
    cases h
    obtain ⟨o, ho, items, rfl, al⟩ := R.ob ha e
    exact wpAny_pyIter_tuple ⟨_, ho, rfl, _, rfl⟩ (q _ _ _ (List.prefix_append ..) (R.alloc rfl ⟨a, ha', rfl, rfl⟩) (VR.last R.len.symm))
  · rename_i x y e
    split at h
    · rename_i hk
      cases h
      obtain ⟨o, ho, t, u, v, rfl⟩ := R.ob ha e
      refine wpAny_pyIter_range ho (range_facts hk).1 ?_
      rw [(range_facts hk).2]
      exact q _ _ _ (List.prefix_append ..) (R.alloc rfl rfl) (VR.last R.len.symm)
    · cases h
  · rename_i kvs ep e
    cases h
    obtain ⟨ob, hob, x⟩ := R.ob ha e
    obtain ⟨kvs', m, hd, al, u⟩ := OR.dictAt hob x
    cases (u ep rfl)
    refine wpAny_pyIter_dict (notMod R ha e) hd ?_
    rw [← al.length]
    exact q _ _ _ (List.prefix_append ..) (R.alloc rfl ⟨a, ha', rfl, rfl⟩) (VR.last R.len.symm)
  · cases h

noncomputable def nextM (it : Nat) (st : St) : Option (Option MV × St) := match hget st.H it with
  | some (.listIt l i) => match hget st.H l with
    | some (.list vs) => some (match vs[i]? with
      | some v => (some v, { st with H := hset st.H it (.listIt l (i + 1)) })
      | none => (none, { st with H := hset st.H it .junk }))
    | _ => none
  | some (.tupIt l i) => match hget st.H l with
    | some (.tup vs) => some (match vs[i]? with
      | some v => (some v, { st with H := hset st.H it (.tupIt l (i + 1)) })
      | none => (none, { st with H := hset st.H it .junk }))
    | _ => none
  | some (.rangeIt x left) => some (if 0 < left then (some (.int x), { st with H := hset st.H it (.rangeIt (x + 1) (left - 1)) }) else (none, { st with H := hset st.H it .junk }))
  | some (.keyIt d i n e) => match hget st.H d with
    | some (.dict kvs (some e')) => if e' = e ∧ n = kvs.length then some (match kvs[i]? with
      | some kv => (some (.int kv.1), { st with H := hset st.H it (.keyIt d (i + 1) n e) })
      | none => (none, { st with H := hset st.H it .junk })) else none
    | _ => none
  | _ => none
noncomputable def NR (as : List Addr) : Option MV → Option Value → Prop
  | none, none => True
  | some v, some V => VR as v V
  | _, _ => False

theorem All2.get_none {α β : Type} {R : α → β → Prop} {l r} (h : All2 R l r) {i : Nat} (e : l[i]? = none) : r[i]? = none := by
  rw [List.getElem?_eq_none_iff] at e ⊢
  rw [← h.length]; exact e

theorem next_ok {Γ : Fx} (hh : Γ.A.handled = none) {as : List Addr} {st : St} {s : Shared} {it : Nat} {I : Addr} {o : Option MV} {st' : St} {E : Value → Shared → Prop} {Q : Option Value → Shared → Prop} (R : Rel G Γ as st s) (hi : as[it]? = some I) (h : nextM it st = some (o, st'))
    (q : ∀ s' r, Rel G Γ as st' s' → NR as o r → Q r s') : wpAny (model G.prog G.w) Γ.A (pyNext (.ref I)) Q E s := by
  unfold nextM at h
  try simp only [hget_eq, hset_eq] at h
  split at h
  · rename_i l i e
    split at h
    · rename_i vs e2
      obtain ⟨oi, hoi, a, ha, c1, c2⟩ := R.ob hi e
      obtain ⟨ol, hol, items, n', rfl, al⟩ := R.ob ha e2
      have hit : s.heap.IsListIter I a i := ⟨oi, hoi, c1, c2⟩
      have hl : s.heap.IsList a items := ⟨_, hol, rfl, n', rfl⟩
      cases q1 : vs[i]? with
      | some v =>
        rw [q1] at h; cases h
        obtain ⟨V, hV, hv⟩ := al.get q1
        refine wpAny_pyNext_list_item hit hl (by simpa using hV) fun h' hit' hs => ?_
        obtain ⟨o', ho', r1, r2⟩ := hit'
        exact q _ _ (R.change hi e hs.extBut ho' ⟨a, ha, r1, r2⟩) hv
      | none =>
        rw [q1] at h; cases h
        refine wpAny_pyNext_list_end hh hit hl (by simpa using al.get_none q1) fun h' he => ?_
        exact q _ _ (R.kill hi e he) trivial
    · cases h
  · rename_i l i e
    split at h
    · rename_i vs e2
      obtain ⟨oi, hoi, a, ha, c1, c2⟩ := R.ob hi e
      obtain ⟨ol, hol, items, rfl, al⟩ := R.ob ha e2
      have hit : s.heap.IsTupleIter I a i := ⟨oi, hoi, c1, c2⟩
      have hl : s.heap.IsTuple a items := ⟨_, hol, rfl, _, rfl⟩
      cases q1 : vs[i]? with
      | some v =>
        rw [q1] at h; cases h
        obtain ⟨V, hV, hv⟩ := al.get q1
        refine wpAny_pyNext_tuple_item hit hl (by simpa using hV) fun h' hit' hs => ?_
        obtain ⟨o', ho', r1, r2⟩ := hit'
        exact q _ _ (R.change hi e hs.extBut ho' ⟨a, ha, r1, r2⟩) hv
      | none =>
        rw [q1] at h; cases h
        refine wpAny_pyNext_tuple_end hh hit hl (by simpa using al.get_none q1) fun h' he => ?_
        exact q _ _ (R.kill hi e he) trivial
    · cases h
  · rename_i x left e
    obtain ⟨oi, hoi, rfl⟩ := R.ob hi e
    split at h
    · rename_i hl
      cases h
      refine wpAny_pyNext_range_item hoi hl fun h' hit' hs => ?_
      exact q _ _ ((R.toks (s.toks + 1)).change (s := { s with toks := s.toks + 1 }) hi e hs.extBut hit' rfl) ⟨_, rfl⟩
    · rename_i hl
      cases h
      refine wpAny_pyNext_range_end hh hoi (by omega) fun h' he => ?_
      exact q _ _ (R.kill hi e he) trivial
  · rename_i d i n ep e
    split at h
    · rename_i kvs ep' e2
      split at h
      · rename_i hk
        obtain ⟨rfl, rfl⟩ := hk
        obtain ⟨oi, hoi, a, ha, c1, c2⟩ := R.ob hi e
        obtain ⟨ob, hob, x⟩ := R.ob ha e2
        obtain ⟨kvs', m, hd, al, u⟩ := OR.dictAt hob x
        cases (u ep' rfl)
        have hit : s.heap.IsKeyIter I a i kvs'.length ep' := ⟨oi, hoi, c1, by rw [← al.length]; exact c2⟩
        cases q1 : kvs[i]? with
        | some kv =>
          rw [q1] at h; cases h
          obtain ⟨⟨k', v'⟩, hV, hv⟩ := al.get q1
          refine wpAny_pyNext_dict_item hit hd hV fun key h' hkey hit' hs => ?_
          obtain ⟨o', ho', r1, r2⟩ := hit'
          obtain ⟨t, rfl⟩ := Value.isInt_shape hkey
          refine q _ _ (R.change hi e hs.extBut ho' ⟨a, ha, r1, ?_⟩) ⟨t, ?_⟩
          · rw [al.length]; exact r2
          · rw [hv.1]
        | none =>
          rw [q1] at h; cases h
          refine wpAny_pyNext_dict_end hh hit hd (al.get_none q1) fun h' he => ?_
          exact q _ _ (R.kill hi e he) trivial
      · cases h
    · cases h
  · cases h

/-! for -/
noncomputable def forM (k it : Nat) (body : St → Option (Fl × St)) : Nat → St → Option (Fl × St)
  | 0, _ => none
  | n + 1, st => (nextM it st).bind fun x => match x.1 with
    | none => some (.next, x.2)
    | some v => (setLoc k v x.2).bind fun st₂ => (body st₂).bind fun y => match y.1 with
      | .next => forM k it body n y.2
      | .cont => forM k it body n y.2
      | .brk => some (.next, y.2)
      | .ret w => some (.ret w, y.2)
noncomputable def forS (k fuel : Nat) (f : St → Option (MV × St)) (body : St → Option (Fl × St)) (st : St) : Option (Fl × St) :=
  (f st).bind fun x => (iterM x.1 x.2).bind fun y => forM k y.1 body fuel y.2

theorem s_for (k fuel : Nat) {x : Str} {px pos : Pos} {e : Expr} {b : List Stmt} {f : St → Option (MV × St)} {body : St → Option (Fl × St)} (hk : cs.names[k]? = some (x, .local)) (hf : EvOk G D true cs e f) (hb : BOk G D true cs b body)
    (hs : ∀ env v, foldedSetIterable e env v = pure v) : SOk G D true cs (.For (.Name x px) e b [] pos) (forS k fuel f body) := by
  intro Γ C as st s v st' Q R h q
  obtain ⟨⟨u, st₁⟩, e1, h⟩ := bind_some h
  obtain ⟨⟨it, st₂⟩, e2, h⟩ := bind_some h
  have hh := C.hh rfl
  refine wpAny_For (hf Γ C as st s u st₁ _ R e1 fun as₁ s₁ U p₁ R₁ hu => ?_) (hs _)
  refine iter_ok R₁ hu e2 fun as₂ s₂ I p₂ R₂ hI => ?_
  obtain ⟨a, ha, rfl⟩ := hI
  refine codeAny_forLoop (fun n s' => ∃ as' st₃, as₂ <+: as' ∧ Rel G Γ as' st₃ s' ∧ forM k it body n st₃ = some (v, st')) ?_ fuel ⟨as₂, st₂, List.prefix_refl _, R₂, h⟩
  rintro n s' ⟨as', st₃, p₃, R₃, h₃⟩
  cases n with
  | zero => cases h₃
  | succ n =>
    obtain ⟨⟨o, st₄⟩, e4, h₃⟩ := bind_some h₃
    refine next_ok hh R₃ (getElem?_pre p₃ ha) e4 fun s₄ r R₄ hr => ?_
    cases o with
    | none =>
      cases r with
      | some _ => exact hr.elim
      | none =>
        cases h₃
        exact wpAny_execs_nil (q as' s₄ .next (p₁.trans (p₂.trans p₃)) R₄ rfl)
    | some w =>
      cases r with
      | none => exact hr.elim
      | some W =>
        obtain ⟨st₅, e5, h₃⟩ := bind_some h₃
        obtain ⟨⟨fl, st₆⟩, e6, h₃⟩ := bind_some h₃
        unfold setLoc at e5
        try simp only [hget_eq, hset_eq] at e5
        split at e5
        · rename_i hl
          cases e5
          refine wpAny_assign_Name (store_loc hk C R₄ hl hr fun s₅ R₅ => ?_)
          refine botE (hb Γ C as' _ s₅ fl st₆ _ R₅ e6 fun as₆ s₆ V p₆ R₆ fr => ?_)
          cases fl with
          | next => cases fr; exact ⟨n, Nat.lt_succ_self n, as₆, st₆, p₃.trans p₆, R₆, h₃⟩
          | cont => cases fr; exact ⟨n, Nat.lt_succ_self n, as₆, st₆, p₃.trans p₆, R₆, h₃⟩
          | brk => cases fr; cases h₃; exact q as₆ s₆ .next (p₁.trans (p₂.trans (p₃.trans p₆))) R₆ rfl
          | ret z => obtain ⟨Z, rfl, hz⟩ := fr; cases h₃; exact q as₆ s₆ (.ret Z) (p₁.trans (p₂.trans (p₃.trans p₆))) R₆ ⟨Z, rfl, hz⟩
        · cases e5

/-! while -/
noncomputable def whileM (t : St → Option (Bool × St)) (body orelse : St → Option (Fl × St)) : Nat → St → Option (Fl × St)
  | 0, _ => none
  | n + 1, st => (t st).bind fun x => bif x.1 then (body x.2).bind fun y => match y.1 with
      | .next => whileM t body orelse n y.2
      | .cont => whileM t body orelse n y.2
      | .brk => some (.next, y.2)
      | .ret w => some (.ret w, y.2)
    else orelse x.2
theorem s_while (fuel : Nat) {e : Expr} {b o : List Stmt} {pos : Pos} {t : St → Option (Bool × St)} {body orelse : St → Option (Fl × St)} (ht : TrOk G D hn cs e t) (hb : BOk G D hn cs b body) (ho : BOk G D hn cs o orelse) :
    SOk G D hn cs (.While e b o pos) (whileM t body orelse fuel) := by
  intro Γ C as st s v st' Q R h q
  refine wpAny_While (codeAny_whileLoop (fun n s' => ∃ as' st₃, as <+: as' ∧ Rel G Γ as' st₃ s' ∧ whileM t body orelse n st₃ = some (v, st')) ?_ fuel ⟨as, st, List.prefix_refl _, R, h⟩)
  rintro n s' ⟨as', st₃, p₃, R₃, h₃⟩
  cases n with
  | zero => cases h₃
  | succ n =>
    obtain ⟨⟨u, st₄⟩, e4, h₃⟩ := bind_some h₃
    refine botE (ht Γ C as' st₃ s' u st₄ _ R₃ e4 fun as₄ s₄ p₄ R₄ => ?_)
    cases u with
    | false =>
      rw [if_neg (by decide)]
      exact botE (ho Γ C as₄ st₄ s₄ v st' _ R₄ h₃ fun as₅ s₅ V p₅ R₅ fr => q as₅ s₅ V (p₃.trans (p₄.trans p₅)) R₅ fr)
    | true =>
      rw [if_pos rfl]
      obtain ⟨⟨fl, st₆⟩, e6, h₃⟩ := bind_some h₃
      refine botE (hb Γ C as₄ st₄ s₄ fl st₆ _ R₄ e6 fun as₆ s₆ V p₆ R₆ fr => ?_)
      cases fl with
      | next => cases fr; exact ⟨n, Nat.lt_succ_self n, as₆, st₆, p₃.trans (p₄.trans p₆), R₆, h₃⟩
      | cont => cases fr; exact ⟨n, Nat.lt_succ_self n, as₆, st₆, p₃.trans (p₄.trans p₆), R₆, h₃⟩
      | brk => cases fr; cases h₃; exact q as₆ s₆ .next (p₃.trans (p₄.trans p₆)) R₆ rfl
      | ret z => obtain ⟨Z, rfl, hz⟩ := fr; cases h₃; exact q as₆ s₆ (.ret Z) (p₃.trans (p₄.trans p₆)) R₆ ⟨Z, rfl, hz⟩
end
end
end Mine

set_option Elab.async false
set_option maxRecDepth 100000
set_option maxHeartbeats 1000000
set_option linter.all false
namespace Mine
open PySem PySem.W PySem.Spec PySem.Calls PyProof.Rows
noncomputable section

/-! a list's truth by bool(..) -/
theorem meets_bool_list (l : Addr) (items : Array Value) (hz : items.size < 1000) : Meets (Builtin.«bool.__new__» ⟨[.type "bool", .ref l], []⟩)
    (fun _ R s => s.heap.IsList l items ∧ R (.ok (.ret (.bool (!items.isEmpty)))) { s with toks := s.toks + 1 + 1 }) :=
  Meets.of_wp fun prog w A R s hs => by
    obtain ⟨hp, g, d, tk, os⟩ := s
    obtain ⟨hl, hs⟩ := hs
    have f1 := F.conv_sub_bool
    have tr : ∀ {M : Model} (h : M = model prog w) {A : Around} {E : Value → Shared → Prop} {Q : Bool → Shared → Prop}, Q (!items.isEmpty) ⟨hp, g, d, tk + 1 + 1, os⟩ → wpAny (model prog w) A (truthy (.ref l)) Q E ⟨hp, g, d, tk, os⟩ := fun _ _ _ _ q => wpAny_truthy_list hl (by omega) q
    repeat (any_goals (first | assumption | with_reducible apply (tr rfl) | wp_step))
    all_goals first | exact ⟨_, rfl, hs⟩ | skip

section
variable {G : Gl} {D : Nat} {hn : Bool} {cs : Scope}

theorem Rel.read {Γ : Fx} {as : List Addr} {st : St} {s : Shared} (R : Rel G Γ as st s) (C : Cx G D hn cs Γ) : TopRead G.p G.loose G.mg G.mb R.h₀ := ⟨(R.T C.ok).g, (R.T C.ok).b, (R.T C.ok).nolimit, (R.T C.ok).builtins, (R.T C.ok).free⟩

/-- a name of the built-ins -/
structure BName (G : Gl) (cs : Scope) (x : Str) (v : Value) : Prop where
  loc : cs.names.lookup x = some .globalImplicit
  ns : nsIn G.K mainGlobals x = some none
  boot : bootBuiltins x = some v
  nn : x ≠ ("__name__" : Str)
  nd : (x == ("__debug__" : Str)) = false
theorem name_b {x : Str} {v : Value} (b : BName G cs x v) {Γ : Fx} (C : Cx G D hn cs Γ) {as : List Addr} {st : St} {s : Shared} (R : Rel G Γ as st s) {pos : Pos} {E : Value → Shared → Prop} {Q : Value → Shared → Prop} (q : Q v s) :
    wpAny (model G.prog G.w) Γ.A (eval (.Name x pos) Γ.env) Q E s := by
  obtain ⟨m, F, _⟩ := R.fr
  exact name_B F (R.X C.ok) (R.read C) b.ns b.boot b.nn q C.ok.kind (by show Γ.cs.names.lookup x = _; rw [C.sc]; exact b.loc) b.nd

/-- a name of the text's top -/
structure KName (G : Gl) (cs : Scope) (x : Str) (v : Value) : Prop where
  loc : cs.names.lookup x = some .globalImplicit
  ns : nsIn G.K mainGlobals x = some (some v)
  nd : (x == ("__debug__" : Str)) = false
theorem name_k {x : Str} {v : Value} (b : KName G cs x v) {Γ : Fx} (C : Cx G D hn cs Γ) {as : List Addr} {st : St} {s : Shared} (R : Rel G Γ as st s) {pos : Pos} {E : Value → Shared → Prop} {Q : Value → Shared → Prop} (q : Q v s) :
    wpAny (model G.prog G.w) Γ.A (eval (.Name x pos) Γ.env) Q E s := by
  obtain ⟨m, F, _⟩ := R.fr
  exact name_K F (R.X C.ok) (R.read C) b.ns q C.ok.kind (by show Γ.cs.names.lookup x = _; rw [C.sc]; exact b.loc) b.nd

theorem ev_gint {x : Str} {pos : Pos} {i : Int} {t : Tok} (b : KName G cs x (.int i t)) : EvOk G D hn cs (.Name x pos) (fun st => some (.int i, st)) := by
  intro Γ C as st s v st' Q R h q
  cases h
  exact name_k b C R (q as s _ (List.prefix_refl _) R ⟨t, rfl⟩)

noncomputable def Bf1 (G : Gl) (D : Nat) (hn : Bool) (cs : Scope) (f : Value) (g : MV → St → Option (MV × St)) : Prop :=
  ∀ Γ, Cx G D hn cs Γ → ∀ as st s v V r st' Q, Rel G Γ as st s → VR as v V → g v st = some (r, st') → Post G Γ as r st' Q → wpAny (model G.prog G.w) Γ.A (call f [V]) Q bot s
noncomputable def CallEq (func : Expr) (args : List Expr) (pos : Pos) : Prop := ∀ env, eval (.Call func args [] pos) env = (do callWith pos (← eval func env) [] (backTo pos (starEach args env)) (backToKw pos (keywordEach [] env)))
noncomputable def un1 (f : St → Option (MV × St)) (g : MV → St → Option (MV × St)) (st : St) : Option (MV × St) := (f st).bind fun x => g x.1 x.2

theorem ev_fn1 {x : Str} {id : String} {px pos : Pos} {e : Expr} {f : St → Option (MV × St)} {g : MV → St → Option (MV × St)} (b : BName G cs x (.builtin id)) (hf : EvOk G D hn cs e f) (hg : Bf1 G D hn cs (.builtin id) g)
    (hs : ∀ env, starEach [e] env = (false, eval e env) :: starEach [] env) (hc : CallEq (.Name x px) [e] pos) : EvOk G D hn cs (.Call (.Name x px) [e] [] pos) (un1 f g) := by
  intro Γ C as st s v st' Q R h q
  obtain ⟨⟨u, st₁⟩, e1, h⟩ := bind_some h
  refine Call_ (name_b b C R (callWith_builtin1 (args_cons (hf Γ C as st s u st₁ _ R e1 fun as' s' V p R' hv => args_nil ?_) (hs _)) (hs _) rfl)) (hc _)
  exact hg Γ C as' st₁ s' u V v st' _ R' hv h fun as2 s2 W p2 => q as2 s2 W (p.trans p2)
theorem ev_ty1 {x : Str} {T : String} {px pos : Pos} {e : Expr} {f : St → Option (MV × St)} {g : MV → St → Option (MV × St)} (b : BName G cs x (.type T)) (hf : EvOk G D hn cs e f) (hg : Bf1 G D hn cs (.type T) g)
    (hs : ∀ env, starEach [e] env = (false, eval e env) :: starEach [] env) (hc : CallEq (.Name x px) [e] pos) : EvOk G D hn cs (.Call (.Name x px) [e] [] pos) (un1 f g) := by
  intro Γ C as st s v st' Q R h q
  obtain ⟨⟨u, st₁⟩, e1, h⟩ := bind_some h
  refine Call_ (name_b b C R (PyProof.Rows.callWith_type1 (args_cons (hf Γ C as st s u st₁ _ R e1 fun as' s' V p R' hv => args_nil ?_) (hs _)) (hs _) rfl)) (hc _)
  exact hg Γ C as' st₁ s' u V v st' _ R' hv h fun as2 s2 W p2 => q as2 s2 W (p.trans p2)

noncomputable def lenM (v : MV) (st : St) : Option (MV × St) := match v with
  | .ref n => match hget st.H n with
    | some (.list vs) => if vs.length < 1000 then some (.int vs.length, st) else none
    | some (.tup vs) => if vs.length < 1000 then some (.int vs.length, st) else none
    | _ => none
  | _ => none
theorem f_len : Bf1 G D hn cs (.builtin "len") lenM := by
  intro Γ C as st s v V r st' Q R hv h q
  cases v <;> first | (cases h; done) | skip
  rename_i n
  obtain ⟨a, ha, rfl⟩ := hv
  simp only [lenM, hget_eq, hset_eq, hlen_eq, happ_eq] at h
  split at h
  · rename_i vs e
    split at h
    · rename_i hl
      cases h
      obtain ⟨o, ho, items, n', rfl, al⟩ := R.ob ha e
      have hz : vs.length = items.size := by have := al.length; simpa using this
      refine Calls.call_len_list (items := items) ⟨_, ho, rfl, n', rfl⟩ (by omega) ?_
      exact q as _ _ (List.prefix_refl _) (R.toks _) ⟨s.toks + 1, by rw [hz]⟩
    · cases h
  · rename_i vs e
    split at h
    · rename_i hl
      cases h
      obtain ⟨o, ho, items, rfl, al⟩ := R.ob ha e
      have hz : vs.length = items.size := by have := al.length; simpa using this
      refine len_tuple (items := items) ⟨_, ho, rfl, _, rfl⟩ (by omega) ?_
      exact q as _ _ (List.prefix_refl _) (R.toks _) ⟨s.toks + 1, by rw [hz]⟩
    · cases h
  · cases h

noncomputable def boolM (v : MV) (st : St) : Option (MV × St) := match v with
  | .ref n => match hget st.H n with
    | some (.list vs) => if vs.length < 1000 then some (.bool (!vs.isEmpty), st) else none
    | _ => none
  | _ => none
theorem f_bool : Bf1 G D hn cs (.type "bool") boolM := by
  intro Γ C as st s v V r st' Q R hv h q
  cases v <;> first | (cases h; done) | skip
  rename_i n
  obtain ⟨a, ha, rfl⟩ := hv
  simp only [boolM, hget_eq, hset_eq, hlen_eq, happ_eq] at h
  split at h
  · rename_i vs e
    split at h
    · rename_i hl
      cases h
      obtain ⟨o, ho, items, n', rfl, al⟩ := R.ob ha e
      have hz : vs.length = items.size := by have := al.length; simpa using this
      have : items.isEmpty = vs.isEmpty := by rw [al.isEmpty]; simp
      refine call_bool_1 (meets_bool_list a items (by omega)) ⟨⟨_, ho, rfl, n', rfl⟩, ?_⟩
      rw [this]
      exact ⟨rfl, q as _ _ (List.prefix_refl _) (R.toks _) rfl⟩
    · cases h
  · cases h

noncomputable def listOfM (v : MV) (st : St) : Option (MV × St) := match v with
  | .ref n => match hget st.H n with
    | some (.tup vs) => if vs.length < 1000 then some (.ref (hlen st.H), { st with H := happ st.H (.list vs) }) else none
    | _ => none
  | _ => none
theorem f_list : Bf1 G D hn cs (.type "list") listOfM := by
  intro Γ C as st s v V r st' Q R hv h q
  cases v <;> first | (cases h; done) | skip
  rename_i n
  obtain ⟨a, ha, rfl⟩ := hv
  simp only [listOfM, hget_eq, hset_eq, hlen_eq, happ_eq] at h
  split at h
  · rename_i vs e
    split at h
    · rename_i hl
      cases h
      obtain ⟨o, ho, items, rfl, al⟩ := R.ob ha e
      obtain ⟨mm, F, l⟩ := R.fr
      have hz : vs.length = items.toList.length := al.length
      refine kup_listOfT F R.hp.news (mem_newsOf ha e rfl ho) rfl (fun B c h' F' N' lt => ?_) (by rw [sizeLine_eq]; omega)
      have hlo : s.heap.objs.size ≤ B ∨ True := .inr trivial
      refine q _ _ _ (List.prefix_append as [B]) ⟨R.h₀, R.gd, R.gens, R.drawn, R.os, R.low, ⟨mm, F', l.mono (List.prefix_append ..)⟩, ?_⟩ (VR.last R.len.symm)
      have R' := R.hp.ofNews (fun p hp => N' p (.tail _ hp))
      have z := N' _ (.head _)
      refine R'.add (fun i b mb e1 f1 g1 => ?_) (fun _ _ _ _ e => e) z.1 ⟨_, c, rfl, ?_⟩ z.2.1 z.2.2 ?_
      · obtain ⟨ob, hob, _⟩ := R.hp.ob i b mb e1 f1 g1
        exact Nat.ne_of_lt (lt (b, ob) (mem_newsOf e1 f1 g1 hob))
      · simpa using al.imp fun _ _ => VR.mono (List.prefix_append ..)
      · intro z; cases z
    · cases h
  · cases h

noncomputable def tupleOfM (v : MV) (st : St) : Option (MV × St) := match v with
  | .ref n => match hget st.H n with
    | some (.list vs) => if vs.length < 1000 then some (.ref (hlen st.H), { st with H := happ st.H (.tup vs) }) else none
    | _ => none
  | _ => none
theorem f_tuple : Bf1 G D hn cs (.type "tuple") tupleOfM := by
  intro Γ C as st s v V r st' Q R hv h q
  cases v <;> first | (cases h; done) | skip
  rename_i n
  obtain ⟨a, ha, rfl⟩ := hv
  simp only [tupleOfM, hget_eq, hset_eq, hlen_eq, happ_eq] at h
  split at h
  · rename_i vs e
    split at h
    · rename_i hl
      cases h
      obtain ⟨o, ho, items, n', rfl, al⟩ := R.ob ha e
      obtain ⟨mm, F, l⟩ := R.fr
      have hz : vs.length = items.size := by have := al.length; simpa using this
      refine kde_tupleOf F R.hp.news ⟨_, ho, rfl, n', rfl⟩ (by omega) rfl (fun B h' F' N' lt => ?_)
      refine q _ _ _ (List.prefix_append as [B]) ⟨R.h₀, R.gd, R.gens, R.drawn, R.os, R.low, ⟨mm, F', l.mono (List.prefix_append ..)⟩, ?_⟩ (VR.last R.len.symm)
      have R' := R.hp.ofNews (fun p hp => N' p (.tail _ hp))
      have z := N' _ (.head _)
      refine R'.add (fun i b mb e1 f1 g1 => ?_) (fun _ _ _ _ e => e) z.1 ⟨_, rfl, ?_⟩ z.2.1 z.2.2 ?_
      · obtain ⟨ob, hob, _⟩ := R.hp.ob i b mb e1 f1 g1
        exact Nat.ne_of_lt (lt (b, ob) (mem_newsOf e1 f1 g1 hob))
      · simpa using al.imp fun _ _ => VR.mono (List.prefix_append ..)
      · intro z; cases z
    · cases h
  · cases h

noncomputable def rangeM (v : MV) (st : St) : Option (MV × St) := match v with
  | .int i => some (.ref (hlen st.H), { st with H := happ st.H (.range 0 i) })
  | _ => none
theorem f_range : Bf1 G D hn cs (.type "range") rangeM := by
  intro Γ C as st s v V r st' Q R hv h q
  cases v <;> first | (cases h; done) | skip
  obtain ⟨t, rfl⟩ := hv
  simp only [rangeM, hlen_eq, happ_eq] at h
  cases h
  exact call_range_1 (q _ _ _ (List.prefix_append ..) ((R.toks (s.toks + 1 + 1)).alloc (s := { s with toks := s.toks + 1 + 1 }) rfl ⟨_, _, _, rfl⟩) (VR.last R.len.symm))

/-- iter(xs) of a list -/
noncomputable def iterFM (v : MV) (st : St) : Option (MV × St) := match v with
  | .ref n => match hget st.H n with
    | some (.list _) => some (.ref (hlen st.H), { st with H := happ st.H (.freshIt n) })
    | _ => none
  | _ => none
theorem f_iter : Bf1 G D hn cs (.builtin "iter") iterFM := by
  intro Γ C as st s v V r st' Q R hv h q
  cases v <;> first | (cases h; done) | skip
  rename_i n
  obtain ⟨a, ha, rfl⟩ := hv
  simp only [iterFM, hget_eq, hset_eq, hlen_eq, happ_eq] at h
  split at h
  · rename_i vs e
    cases h
    obtain ⟨o, ho, items, n', rfl, al⟩ := R.ob ha e
    refine call_function_entry (by decide +kernel) (by decide +kernel) kdk_entry_iter (kdk_args_iter _) ?_
    unfold Builtin.«iter»
    refine wpAny_bind (m := someArgs "iter" 1 2 _) (wpAny_of_eq (a := [Value.ref a]) (by first | rfl | kernel_rfl!) ?_)
    show wpAny _ _ (pyIter (.ref a) >>= _) _ _ _
    refine wpAny_bind (wpAny_pyIter_list ⟨_, ho, rfl, n', rfl⟩ ?_)
    exact wpAny_pure ⟨_, rfl, q _ _ _ (List.prefix_append ..) (R.alloc rfl ⟨a, getElem?_pre (List.prefix_append ..) ha, rfl⟩) (VR.last R.len.symm)⟩
  · cases h

/-- set() -/
noncomputable def newSetM (st : St) : Option (MV × St) := some (.ref (hlen st.H), { st with H := happ st.H (.set []) })
theorem or_set0 {as : List Addr} {led : Bool} : OR G as (.set []) { cls := .type "set", dict := none, data := .set #[] 0 (.fresh 0 0 led) } := by
  refine ⟨#[], 0, _, ⟨rfl, rfl, rfl⟩, rfl, ?_, ?_, by decide, ?_, rfl⟩
  · intro e he; simp at he
  · intro k; simp
  · cases led <;> rfl
theorem ev_set0 {x : Str} {px pos : Pos} (b : BName G cs x (.type "set")) (hc : CallEq (.Name x px) [] pos) : EvOk G D hn cs (.Call (.Name x px) [] [] pos) newSetM := by
  intro Γ C as st s v st' Q R h q
  simp only [newSetM, hlen_eq, happ_eq] at h
  cases h
  refine Call_ (name_b b C R (callWith_type0 (call_set_0 fun led => ?_))) (hc _)
  exact q _ _ _ (List.prefix_append ..) (R.alloc rfl or_set0) (VR.last R.len.symm)

/-- sorted(d) of a dict with one key -/
noncomputable def sortedM (v : MV) (st : St) : Option (MV × St) := match v with
  | .ref n => match hget st.H n with
    | some (.dict [(k, _)] _) => some (.ref (hlen st.H), { st with H := happ st.H (.list [.int k]) })
    | _ => none
  | _ => none
end
end
end Mine

set_option Elab.async false
set_option maxRecDepth 100000
set_option maxHeartbeats 1000000
set_option linter.all false
namespace Mine
open PySem PySem.W PySem.Spec PySem.Calls PyProof.Rows
noncomputable section

section
variable {G : Gl} {D : Nat} {hn : Bool} {cs : Scope}

theorem f_sorted : Bf1 G D true cs (.builtin "sorted") sortedM := by
  intro Γ C as st s v V r st' Q R hv h q
  cases v <;> first | (cases h; done) | skip
  rename_i n
  obtain ⟨a, ha, rfl⟩ := hv
  simp only [sortedM, hget_eq, hset_eq, hlen_eq, happ_eq] at h
  split at h
  · rename_i k x ep e
    cases h
    obtain ⟨ob, hob, xx⟩ := R.ob ha e
    obtain ⟨kvs', m, hd, al, u⟩ := OR.dictAt hob xx
    obtain ⟨mm, F, l⟩ := R.fr
    refine kdu_sorted (kdl_dict (knd := intKind G.prog G.w) (kvs := kvs') (ep := m) (notMod R ha e)) (C.hh rfl) F R.hp.news hd (by rw [← al.length, sizeLine_eq]; simp) fun B h' tk vs F' N' lt hlen hP => ?_
    have hl1 : vs.length = 1 := by rw [hlen, ← al.length]; rfl
    match vs, hl1 with
    | [w], _ =>
      obtain ⟨k', x', h1, h2⟩ := hP 0 w rfl
      obtain ⟨t, rfl⟩ := Value.isInt_shape h2
      obtain ⟨⟨k2, x2⟩, h3, h4⟩ := al.get (i := 0) rfl
      rw [h3] at h1; cases h1
      have hk : k = k' := h4.1
      subst hk
      refine lks_sort (q := [k]) F' N' (fun t' => Upd.head fun p hp => Nat.ne_of_lt (lt p hp)) (by rfl) (by simp only [lks_ok, lks_nums, lks_asc, Bool.and_eq_true]; exact ⟨List.isPerm_iff.mpr (List.Perm.refl _), rfl, trivial⟩) rfl (by simp) fun t' h2 F2 N2 => ?_
      refine q _ _ _ (List.prefix_append as [B]) ⟨R.h₀, R.gd, R.gens, R.drawn, R.os, R.low, ⟨mm, F2, l.mono (List.prefix_append ..)⟩, ?_⟩ (VR.last R.len.symm)
      have R' := R.hp.ofNews (fun p hp => N2 p (.tail _ hp))
      have z := N2 _ (.head _)
      refine R'.add (fun i b mb e1 f1 g1 => ?_) (fun _ _ _ _ e => e) z.1 ⟨_, _, rfl, ?_⟩ z.2.1 z.2.2 ?_
      · obtain ⟨ob, hob, _⟩ := R.hp.ob i b mb e1 f1 g1
        exact Nat.ne_of_lt (lt (b, ob) (mem_newsOf e1 f1 g1 hob))
      · exact .cons ⟨_, rfl⟩ .nil
      · intro z; cases z
  · cases h

/-- xs == ys of ints -/
noncomputable def eqLM : MV → MV → St → Option (MV × St)
  | .ref n, .ref m, st => match hget st.H n, hget st.H m with
    | some (.list vs), some (.list ws) => (intsOf vs).bind fun is => (intsOf ws).map fun js => (.bool (decide (is = js)), st)
    | _, _ => none
  | _, _, _ => none
theorem ints_are {as : List Addr} {vs : List MV} {items : List Value} (al : All2 (VR as) vs items) : ∀ {is : List Int}, intsOf vs = some is → IntsAre items is := by
  induction al with
  | nil => intro is h; cases h; exact .nil
  | @cons v w l r x y ih =>
    intro is h
    cases v <;> first | (cases h; done) | skip
    rename_i j
    obtain ⟨is', e, h⟩ := Option.map_eq_some_iff.mp h
    subst h
    obtain ⟨t, rfl⟩ := x
    exact .cons j t (ih e)
theorem o_eqL : Op2 G D hn cs (compareOp .Eq) eqLM := by
  intro Γ C as st s a b Va Vb v st' Q R ha hb h q
  cases a <;> cases b <;> first | (cases h; done) | skip
  rename_i n m
  simp only [eqLM, hget_eq, hset_eq, hlen_eq, happ_eq] at h
  split at h
  · rename_i vs ws e1 e2
    obtain ⟨is, h1, h⟩ := bind_some h
    obtain ⟨js, h2, h⟩ := Option.map_eq_some_iff.mp h
    cases h
    obtain ⟨x, hx, rfl⟩ := ha
    obtain ⟨y, hy, rfl⟩ := hb
    obtain ⟨o, ho, items, n', rfl, al⟩ := R.ob hx e1
    obtain ⟨o2, ho2, items2, n2, rfl, al2⟩ := R.ob hy e2
    refine eq_intsK (vs := items.toList) (us := items2.toList) ⟨_, ho, rfl, n', by simp⟩ (ints_are al h1) ⟨_, ho2, rfl, n2, by simp⟩ (ints_are al2 h2) ?_ (q as _ _ (List.prefix_refl _) R rfl)
    have h1 := C.ok.units
    have h2 := C.ok.small
    unfold cLine
    omega
  · cases h

/-! attributes -/
noncomputable def aget (kvs : List (Nat × MV)) (k : Nat) : Option MV := (kvs.find? fun p => p.1 == k).map (·.2)
noncomputable def aput (kvs : List (Nat × MV)) (k : Nat) (v : MV) : List (Nat × MV) := match kvs with
  | [] => [(k, v)]
  | p :: r => if p.1 == k then (p.1, v) :: r else p :: aput r k v
noncomputable def aOk (kvs : List (Nat × MV)) : Bool := kvs.all fun p => p.1 < 4
theorem anm_inj : ∀ a b : Nat, a < 4 → b < 4 → (anm a == anm b) = (a == b)
  | 0, 0, _, _ => by decide
  | 0, 1, _, _ => by decide
  | 0, 2, _, _ => by decide
  | 0, 3, _, _ => by decide
  | 1, 0, _, _ => by decide
  | 1, 1, _, _ => by decide
  | 1, 2, _, _ => by decide
  | 1, 3, _, _ => by decide
  | 2, 0, _, _ => by decide
  | 2, 1, _, _ => by decide
  | 2, 2, _, _ => by decide
  | 2, 3, _, _ => by decide
  | 3, 0, _, _ => by decide
  | 3, 1, _, _ => by decide
  | 3, 2, _, _ => by decide
  | 3, 3, _, _ => by decide
  | n + 4, _, h, _ => by omega
  | _, n + 4, _, h => by omega

theorem av_isStr {as : List Addr} {x : Nat × MV} {y : DictEntry} (h : AV as x y) (name : Str) : y.key.isStr name = (anm x.1 == name) := by
  obtain ⟨⟨t, e⟩, _⟩ := h
  rw [e]; rfl
theorem av_noRef {as : List Addr} {kvs : List (Nat × MV)} {es : List DictEntry} (h : All2 (AV as) kvs es) : (es.any fun x => x.refKey) = false := by
  induction h with
  | nil => rfl
  | cons x _ ih =>
    obtain ⟨⟨t, e⟩, _⟩ := x
    rw [List.any_cons, ih]
    unfold DictEntry.refKey
    rw [e]; rfl
theorem av_get {as : List Addr} {k : Nat} {v : MV} (hk : k < 4) {kvs : List (Nat × MV)} {es : List DictEntry} (h : All2 (AV as) kvs es) (ho : aOk kvs = true) (e : aget kvs k = some v) : ∃ V, getL (anm k) es = some (some V) ∧ VR as v V := by
  induction h with
  | nil => cases e
  | @cons x y l r xy hlr ih =>
    unfold aOk at ho
    rw [List.all_cons, Bool.and_eq_true] at ho
    have hs := av_isStr xy (anm k)
    rw [anm_inj _ _ (by simpa using ho.1) hk] at hs
    unfold aget at e
    unfold getL
    by_cases q : x.1 = k
    · rw [List.find?_cons_of_pos (by simpa using q)] at e
      cases e
      rw [List.find?_cons_of_pos (by rw [hs]; simpa using q)]
      exact ⟨_, rfl, xy.2⟩
    · rw [List.find?_cons_of_neg (by simpa using q)] at e
      obtain ⟨V, h1, h2⟩ := ih ho.2 e
      refine ⟨V, ?_, h2⟩
      rw [List.find?_cons_of_neg (by rw [hs]; simpa using q)]
      unfold getL at h1
      split at h1
      · rename_i en he; exact h1
      · split at h1 <;> cases h1
theorem av_getNone {as : List Addr} {name : Str} {kvs : List (Nat × MV)} {es : List DictEntry} (h : All2 (AV as) kvs es) (ho : aOk kvs = true) (hne : ∀ k, k < 4 → (anm k == name) = false) : getL name es = some none := by
  have : es.find? (fun x => x.key.isStr name) = none := by
    rw [List.find?_eq_none]
    intro y hy
    have key : ∀ {kvs : List (Nat × MV)} {es : List DictEntry}, All2 (AV as) kvs es → aOk kvs = true → y ∈ es → ¬ y.key.isStr name = true := by
      intro kvs es h ho hy
      induction h with
      | nil => cases hy
      | @cons x z l r xz _ ih =>
        unfold aOk at ho
        rw [List.all_cons, Bool.and_eq_true] at ho
        rcases List.mem_cons.mp hy with rfl | hy
        · rw [av_isStr xz, hne _ (by simpa using ho.1)]; decide
        · exact ih ho.2 hy
    exact key h ho hy
  unfold getL
  rw [this, av_noRef h]
  rfl
theorem av_some {as : List Addr} {name : Str} {kvs : List (Nat × MV)} {es : List DictEntry} (h : All2 (AV as) kvs es) : (getL name es).isSome = true := by
  unfold getL
  rw [av_noRef h]
  split <;> rfl
theorem av_put {as : List Addr} {k : Nat} {v : MV} {V : Value} {hs : Int} {t : Tok} (hk : k < 4) (hv : VR as v V) {kvs : List (Nat × MV)} {es : List DictEntry} (h : All2 (AV as) kvs es) (ho : aOk kvs = true) : All2 (AV as) (aput kvs k v) (putL (anm k) hs (.str (anm k) t) V es) := by
  induction h with
  | nil => exact .cons ⟨⟨t, rfl⟩, hv⟩ .nil
  | @cons x y l r xy hlr ih =>
    unfold aOk at ho
    rw [List.all_cons, Bool.and_eq_true] at ho
    have hs' := av_isStr xy (anm k)
    rw [anm_inj _ _ (by simpa using ho.1) hk] at hs'
    unfold aput putL
    rw [hs']
    by_cases q : (x.1 == k) = true
    · rw [if_pos q, if_pos q]; exact .cons ⟨xy.1, hv⟩ hlr
    · rw [if_neg q, if_neg q]; exact .cons xy (ih ho.2)
theorem handed_vr {as : List Addr} {v : MV} {V : Value} (h : VR as v V) : handedIn V = true := by
  cases v with
  | none => cases h; rfl
  | bool b => cases h; rfl
  | int i => obtain ⟨t, rfl⟩ := h; rfl
  | ref n => obtain ⟨a, _, rfl⟩ := h; rfl
  | out a => cases h; rfl

/-- an object of a class at n -/
theorem inst_at {Γ : Fx} {as : List Addr} {st : St} {s : Shared} (R : Rel G Γ as st s) {n d C : Nat} {a : Addr} {sl : List (Option MV)} {kvs : List (Nat × MV)} (ha : as[n]? = some a) (e : st.H[n]? = some (.inst C d sl)) (e2 : st.H[d]? = some (.attrs kvs)) :
    ∃ dx slv es m, as[d]? = some dx ∧ s.heap.get? a = some { cls := .ref C, dict := some dx, data := .plain, slots := slv } ∧ s.heap.get? dx = some (dictOf es m) ∧ All2 (SV as) sl slv.toList ∧ All2 (AV as) kvs es ∧
      W.InstAt s.heap a { cls := .ref C, dict := some dx, data := .plain, slots := slv } C (some (dictOf es m)) := by
  obtain ⟨o, ho, dx, slv, hdx, rfl, al⟩ := R.ob ha e
  obtain ⟨od, hod, es, m, rfl, al2⟩ := R.ob hdx e2
  exact ⟨dx, slv, es, m, hdx, ho, hod, al, al2, ⟨ho, rfl, rfl, hod⟩⟩

/-- facts of the class about an attribute kept in the dict -/
structure AttrK (G : Gl) (C : Nat) (name : Str) : Prop where
  get : plainGet G.K C name = true
  has : hasDictIn G.K C = true
  find : findIn G.K (.ref C) name = some none
  setter : findIn G.K (.ref C) "__setattr__" = some (some (.builtin "object.__setattr__"))
  over : plainOver G.K C = true
  taker : takerIn G.K C name = some none
/-- facts of the class about a slot -/
structure SlotK (G : Gl) (C : Nat) (name : Str) (i : Nat) : Prop where
  get : plainGet G.K C name = true
  cls : isClsIn G.K C = true
  setter : findIn G.K (.ref C) "__setattr__" = some (some (.builtin "object.__setattr__"))
  over : plainOver G.K C = true
  at_ : ∃ p : Addr, findIn G.K (.ref C) name = some (some (.ref p)) ∧ specialIn G.K (.ref p) "__get__" = some (some (.builtin "member_descriptor.__get__")) ∧ takesIn G.K (.ref p) = some true ∧ slotIn G.K p C = some i ∧
    takerIn G.K C name = some (some (.ref p)) ∧ typeIn G.K (.ref p) = some (.type "member_descriptor")
  small : i < 1000

noncomputable def attrM (C k : Nat) (v : MV) (st : St) : Option (MV × St) := match v with
  | .ref n => match hget st.H n with
    | some (.inst C' d _) => if C' = C then (match hget st.H d with
      | some (.attrs kvs) => bif aOk kvs then (aget kvs k).map fun v => (v, st) else none
      | _ => none) else none
    | _ => none
  | _ => none
theorem getAttr_ok {C k : Nat} (hk : k < 4) (A : AttrK G C (anm k)) {Γ : Fx} (Cx : Cx G D hn cs Γ) {as : List Addr} {st : St} {s : Shared} {v r : MV} {V : Value} {st' : St} {ex : Bool} {E : Value → Shared → Prop} {Q : Value → Shared → Prop} (R : Rel G Γ as st s) (hv : VR as v V)
    (h : attrM C k v st = some (r, st')) (q : Post G Γ as r st' Q) : wpAny (model G.prog G.w) Γ.A (getAttr V (anm k) ex) Q E s := by
  cases v <;> first | (cases h; done) | skip
  rename_i n
  obtain ⟨a, ha, rfl⟩ := hv
  simp only [attrM, hget_eq, hset_eq, hlen_eq, happ_eq] at h
  split at h
  · rename_i C' d sl e
    split at h
    · rename_i hC
      subst hC
      split at h
      · rename_i kvs e2
        cases ho : aOk kvs with
        | false => rw [ho] at h; cases h
        | true =>
          rw [ho] at h
          obtain ⟨w, e3, h⟩ := Option.map_eq_some_iff.mp h
          cases h
          obtain ⟨dx, slv, es, m, hdx, hoa, hod, al, al2, I⟩ := inst_at R ha e e2
          obtain ⟨W, h1, h2⟩ := av_get hk al2 ho e3
          obtain ⟨mm, F, l⟩ := R.fr
          exact get_own F (R.X Cx.ok) I A.get A.has A.find rfl h1 (handed_vr h2) (q as _ W (List.prefix_refl _) (R.toks _) h2)
      · cases h
    · cases h
  · cases h

noncomputable def slotM (C i : Nat) (v : MV) (st : St) : Option (MV × St) := match v with
  | .ref n => match hget st.H n with
    | some (.inst C' d sl) => if C' = C then (match hget st.H d, sl[i]? with
      | some (.attrs _), some (some v) => some (v, st)
      | _, _ => none) else none
    | _ => none
  | _ => none
theorem getSlot_ok {C i : Nat} {name : Str} (S : SlotK G C name i) {Γ : Fx} (Cx : Cx G D hn cs Γ) {as : List Addr} {st : St} {s : Shared} {v r : MV} {V : Value} {st' : St} {ex : Bool} {E : Value → Shared → Prop} {Q : Value → Shared → Prop} (R : Rel G Γ as st s) (hv : VR as v V)
    (h : slotM C i v st = some (r, st')) (q : Post G Γ as r st' Q) : wpAny (model G.prog G.w) Γ.A (getAttr V name ex) Q E s := by
  cases v <;> first | (cases h; done) | skip
  rename_i n
  obtain ⟨a, ha, rfl⟩ := hv
  simp only [slotM, hget_eq, hset_eq, hlen_eq, happ_eq] at h
  split at h
  · rename_i C' d sl e
    split at h
    · rename_i hC
      subst hC
      split at h
      · rename_i kvs w e2 e3
        cases h
        obtain ⟨dx, slv, es, m, hdx, hoa, hod, al, al2, I⟩ := inst_at R ha e e2
        obtain ⟨W, h1, h2⟩ := al.get e3
        cases W with
        | none => exact h2.elim
        | some W =>
          obtain ⟨mm, F, l⟩ := R.fr
          obtain ⟨p, s1, s2, s3, s4, s5, s6⟩ := S.at_
          have hjn : (slv[i]?).join = some W := by
            have : slv[i]? = some (some W) := by simpa using h1
            rw [this]; rfl
          exact get_slot F (R.X Cx.ok) I S.get S.cls s1 s2 s3 s4 hjn (handed_vr h2) (q as _ W (List.prefix_refl _) (R.toks _) h2)
      · cases h
    · cases h
  · cases h

noncomputable def setAttrM (C k : Nat) (o v : MV) (st : St) : Option St := match o with
  | .ref n => match hget st.H n with
    | some (.inst C' d _) => if C' = C then (match hget st.H d with
      | some (.attrs kvs) => bif aOk kvs && decide (kvs.length < 10) then some { st with H := hset st.H d (.attrs (aput kvs k v)) } else none
      | _ => none) else none
    | _ => none
  | _ => none
theorem aput_len {k : Nat} {v : MV} : ∀ kvs : List (Nat × MV), (aput kvs k v).length ≤ kvs.length + 1
  | [] => by simp [aput]
  | p :: r => by
    unfold aput
    split
    · simp
    · have := aput_len (k := k) (v := v) r
      simp; omega
theorem setAttr_ok {C k : Nat} (hk : k < 4) (A : AttrK G C (anm k)) {Γ : Fx} (Cx : Cx G D hn cs Γ) {as : List Addr} {st : St} {s : Shared} {o v : MV} {O V : Value} {st' : St} {E : Value → Shared → Prop} {Q : Unit → Shared → Prop} (R : Rel G Γ as st s) (ho : VR as o O) (hv : VR as v V)
    (h : setAttrM C k o v st = some st') (q : ∀ s', Rel G Γ as st' s' → Q () s') : wpAny (model G.prog G.w) Γ.A (setAttr O (anm k) V) Q E s := by
  cases o <;> first | (cases h; done) | skip
  rename_i n
  obtain ⟨a, ha, rfl⟩ := ho
  simp only [setAttrM, hget_eq, hset_eq, hlen_eq, happ_eq] at h
  split at h
  · rename_i C' d sl e
    split at h
    · rename_i hC
      subst hC
      split at h
      · rename_i kvs e2
        cases hok : (aOk kvs && decide (kvs.length < 10)) with
        | false => rw [hok] at h; cases h
        | true =>
          rw [hok] at h
          cases h
          rw [Bool.and_eq_true, decide_eq_true_eq] at hok
          obtain ⟨dx, slv, es, m, hdx, hoa, hod, al, al2, I⟩ := inst_at R ha e e2
          obtain ⟨mm, F, l⟩ := R.fr
          have ap := av_put (hs := PyData.keyHash G.w.params (anm k)) (t := s.toks + 1) hk hv al2 hok.1
          obtain ⟨news', U, back⟩ := R.hp.upd hdx e2 rfl hod (dictOf (putL (anm k) (PyData.keyHash G.w.params (anm k)) (.str (anm k) (s.toks + 1)) V es) (putN (anm k) es m))
          refine set_dict F (R.X Cx.ok) R.hp.news I rfl A.setter A.over A.taker A.has (av_some al2) rfl U (by rw [← ap.length]; have := aput_len (k := k) (v := v) kvs; omega) fun h' F' N' => ?_
          exact q _ ⟨R.h₀, R.gd, R.gens, R.drawn, R.os, R.low, ⟨mm, F', l⟩, back N' ⟨_, _, rfl, ap⟩ (by intro z; cases z)⟩
      · cases h
    · cases h
  · cases h

noncomputable def slPut (sl : List (Option MV)) (i : Nat) (v : MV) : List (Option MV) := (sl ++ List.replicate (i + 1 - sl.length) none).set i (some v)
noncomputable def setSlotM (C i : Nat) (o v : MV) (st : St) : Option St := match o with
  | .ref n => match hget st.H n with
    | some (.inst C' d sl) => if C' = C then (match hget st.H d with
      | some (.attrs _) => some { st with H := hset st.H n (.inst C' d (slPut sl i v)) }
      | _ => none) else none
    | _ => none
  | _ => none
theorem sv_none {as : List Addr} : ∀ n : Nat, All2 (SV as) (List.replicate n none) (List.replicate n none)
  | 0 => .nil
  | n + 1 => .cons trivial (sv_none n)
theorem setSlot_ok {C i : Nat} {name : Str} (S : SlotK G C name i) {Γ : Fx} (Cx : Cx G D hn cs Γ) {as : List Addr} {st : St} {s : Shared} {o v : MV} {O V : Value} {st' : St} {E : Value → Shared → Prop} {Q : Unit → Shared → Prop} (R : Rel G Γ as st s) (ho : VR as o O) (hv : VR as v V)
    (h : setSlotM C i o v st = some st') (q : ∀ s', Rel G Γ as st' s' → Q () s') : wpAny (model G.prog G.w) Γ.A (setAttr O name V) Q E s := by
  cases o <;> first | (cases h; done) | skip
  rename_i n
  obtain ⟨a, ha, rfl⟩ := ho
  simp only [setSlotM, hget_eq, hset_eq, hlen_eq, happ_eq] at h
  split at h
  · rename_i C' d sl e
    split at h
    · rename_i hC
      subst hC
      split at h
      · rename_i kvs e2
        cases h
        obtain ⟨dx, slv, es, m, hdx, hoa, hod, al, al2, I⟩ := inst_at R ha e e2
        obtain ⟨mm, F, l⟩ := R.fr
        obtain ⟨p, s1, s2, s3, s4, s5, s6⟩ := S.at_
        obtain ⟨news', U, back⟩ := R.hp.upd ha e rfl hoa { cls := .ref C', dict := some dx, data := .plain, slots := (slv ++ Array.replicate (i + 1 - slv.size) none).setIfInBounds i (some V) }
        refine set_slot F (R.X Cx.ok) R.hp.news I S.setter S.over s5 s6 s4 S.small rfl rfl U fun h' F' N' => ?_
        refine q _ ⟨R.h₀, R.gd, R.gens, R.drawn, R.os, R.low, ⟨mm, F', l⟩, back N' ⟨dx, _, hdx, rfl, ?_⟩ (by intro z; cases z)⟩
        have hz : sl.length = slv.size := by have := al.length; simpa using this
        have e3 : ((slv ++ Array.replicate (i + 1 - slv.size) none).setIfInBounds i (some V)).toList = (slv.toList ++ List.replicate (i + 1 - sl.length) none).set i (some V) := by simp [hz]
        rw [e3]
        exact All2.set (show SV as (some v) (some V) from hv) (All2.append (sv_none _) al) i
      · cases h
    · cases h
  · cases h

theorem ev_attr {o : Expr} {pos : Pos} {name : Str} {C k : Nat} (hk : k < 4) (A : AttrK G C (anm k)) (hname : name = anm k) {f : St → Option (MV × St)} (hf : EvOk G D hn cs o f)
    (he : ∀ env, eval (.Attribute o name pos) env = (do let ov ← eval o env; standAt pos.atName; let r ← holding [ov] (getAttr ov name true); letTemporaryGo o ov r; pure r)) : EvOk G D hn cs (.Attribute o name pos) (un1 f (attrM C k)) := by
  subst hname
  intro Γ C as st s v st' Q R h q
  obtain ⟨⟨u, st₁⟩, e1, h⟩ := bind_some h
  exact Attribute_any_ (hf Γ C as st s u st₁ _ R e1 fun as' s' V p R' hv => getAttr_ok hk A C R' hv h fun as2 s2 W p2 => q as2 s2 W (p.trans p2)) (he _)
theorem ev_slot {o : Expr} {pos : Pos} {name : Str} {C i : Nat} (S : SlotK G C name i) {f : St → Option (MV × St)} (hf : EvOk G D hn cs o f)
    (he : ∀ env, eval (.Attribute o name pos) env = (do let ov ← eval o env; standAt pos.atName; let r ← holding [ov] (getAttr ov name true); letTemporaryGo o ov r; pure r)) : EvOk G D hn cs (.Attribute o name pos) (un1 f (slotM C i)) := by
  intro Γ C as st s v st' Q R h q
  obtain ⟨⟨u, st₁⟩, e1, h⟩ := bind_some h
  exact Attribute_any_ (hf Γ C as st s u st₁ _ R e1 fun as' s' V p R' hv => getSlot_ok S C R' hv h fun as2 s2 W p2 => q as2 s2 W (p.trans p2)) (he _)
end
end
end Mine

set_option Elab.async false
set_option maxRecDepth 100000
set_option maxHeartbeats 1000000
set_option linter.all false
namespace Mine
open PySem PySem.W PySem.Spec PySem.Calls PyProof.Rows
noncomputable section

theorem not_freed {h : Heap} {a : Addr} {o : Obj} (e : h.get? a = some o) : o.isFreed = false := (Heap.get?_some_iff.mp e).2

/-- the outer frames as they are now -/
noncomputable def regr (h : Heap) : List Addr → Heap → Heap
  | [], g => g
  | b :: l, g => regr h l (match g.get? b, h.get? b with | some _, some o => g.update b (fun _ => o) | _, _ => g)
theorem regr_size {h : Heap} : ∀ (l : List Addr) (g : Heap), (regr h l g).objs.size = g.objs.size
  | [], g => rfl
  | b :: l, g => by
    rw [regr, regr_size l]
    split
    · exact Heap.size_update ..
    · rfl
theorem regr_out {h : Heap} {b : Addr} : ∀ (l : List Addr) (g : Heap), b ∉ l → (regr h l g).get? b = g.get? b
  | [], g, _ => rfl
  | c :: l, g, hb => by
    rw [List.mem_cons, not_or] at hb
    rw [regr, regr_out l _ hb.2]
    split
    · exact Heap.get?_update_other _ _ (Ne.symm hb.1)
    · rfl
theorem regr_none {h : Heap} {b : Addr} : ∀ (l : List Addr) (g : Heap), g.get? b = none → (regr h l g).get? b = none
  | [], g, e => e
  | c :: l, g, e => by
    rw [regr]
    refine regr_none l _ ?_
    split
    · rename_i o o' e1 e2
      by_cases q : c = b
      · subst q; rw [e] at e1; cases e1
      · exact (Heap.get?_update_other _ _ q).trans e
    · exact e
theorem regr_same {h : Heap} {b : Addr} {o : Obj} (ho : h.get? b = some o) : ∀ (l : List Addr) (g : Heap), g.get? b = some o → (regr h l g).get? b = some o
  | [], g, e => e
  | c :: l, g, e => by
    rw [regr]
    refine regr_same ho l _ ?_
    split
    · rename_i o₁ o₂ e1 e2
      by_cases q : c = b
      · subst q
        rw [ho] at e2; cases e2
        exact Heap.get?_update_self _ e (not_freed ho)
      · exact (Heap.get?_update_other _ _ q).trans e
    · exact e
theorem regr_in {h : Heap} {b : Addr} {o : Obj} (ho : h.get? b = some o) : ∀ (l : List Addr) (g : Heap) {o₀ : Obj}, g.get? b = some o₀ → b ∈ l → (regr h l g).get? b = some o
  | [], g, _, e, hm => nomatch hm
  | c :: l, g, o₀, e, hm => by
    rw [regr]
    by_cases q : c = b
    · subst q
      refine regr_same ho l _ ?_
      rw [e, ho]
      exact Heap.get?_update_self _ e (not_freed ho)
    · have hm' : b ∈ l := by
        rcases List.mem_cons.mp hm with z | z
        · exact absurd z.symm q
        · exact z
      refine regr_in ho l _ (o₀ := o₀) ?_ hm'
      split
      · exact (Heap.get?_update_other _ _ q).trans e
      · exact e

section
variable {G : Gl} {D : Nat} {hn : Bool} {cs : Scope} {Γ : Fx} {as : List Addr} {st : St} {s : Shared}

theorem reground {h₀ h h' : Heap} {m m' : Str → Option Value} (gd : Ground Γ h₀) (F : Fr h₀ Γ.L h m) (hns : h'.Ns Γ.L m')
    (kp : ∀ b o, h₀.get? b = some o → b ∉ frs Γ.outer → h'.get? b = some o) (sl : ∀ b o, h₀.get? b = some o → ∃ sl, h'.get? b = some { o with slots := sl }) :
    ∃ h₁, Ground Γ h₁ ∧ Fr h₁ Γ.L h' m' ∧ ∀ b, h₀.get? b = none → h₁.get? b = none := by
  refine ⟨regr h' (frs Γ.outer) h₀, ⟨(regr_size _ _).trans gd.sz, fun b e => regr_none _ _ (gd.no b e), fun b o e hb => (regr_out _ _ hb).trans (gd.kp b o e hb), fun b o e => ?_⟩, ⟨hns, fun b o e => ?_, by rw [regr_size]; exact F.above⟩, fun b e => regr_none _ _ e⟩
  · obtain ⟨s1, x⟩ := gd.sl b o e
    by_cases hb : b ∈ frs Γ.outer
    · obtain ⟨s2, y⟩ := sl b _ x
      exact ⟨s2, regr_in y _ _ x hb⟩
    · exact ⟨s1, (regr_out _ _ hb).trans x⟩
  · by_cases hb : b ∈ frs Γ.outer
    · cases q : h₀.get? b with
      | none => rw [regr_none _ _ q] at e; cases e
      | some o₀ =>
        obtain ⟨s2, y⟩ := sl b _ q
        rw [regr_in y _ _ q hb] at e
        cases e
        exact y
    · rw [regr_out _ _ hb] at e
      exact kp b o e hb

theorem HRel.rebase {h₀ h₁ h : Heap} {L L' : Addr} {H : List MO} (R : HRel G h₀ L as H h) (k : ∀ a, a ≠ L → h₀.get? a = none → a ≠ L' ∧ h₁.get? a = none) : HRel G h₁ L' as H h :=
  ⟨R.nod, R.len, fun i a mo e f g => let ⟨o, x, y, z, u, v⟩ := R.ob i a mo e f g; ⟨o, x, y, (k a z u).1, (k a z u).2, v⟩⟩

abbrev hid (s : Shared) (as : List Addr) (H : List MO) : Heap := hideAll s.heap ((newsOf s.heap as H).map (·.1))

/-- what a call begins with -/
theorem Rel.enter (R : Rel G Γ as st s) (ok : FxOk G D Γ) {m : Str → Option Value} (F : Fr R.h₀ Γ.L s.heap m) :
    Fr R.h₀ Γ.L (hid s as st.H) m ∧ Below Γ.A Γ.base (Γ.env :: Γ.outer) (hid s as st.H) ∧ R.h₀.StaysIn (hid s as st.H) := by
  obtain ⟨a, b, c, _⟩ := groundX (R := fun _ _ => True) (R.B ok) F R.hp.news ok.fr rfl ok.kind
  exact ⟨a, b, c⟩

theorem Ground.start (Γ : Fx) : Ground Γ Γ.h₀ := ⟨rfl, fun _ e => e, fun _ _ e _ => e, fun _ o e => ⟨o.slots, e⟩⟩
theorem Rel.start (R : Rel G Γ as st s) {h₁ : Heap} {tk : Nat} {mm : Str → Option Value} {loc : List (Option MV)} (Γ' : Fx) (e1 : Γ'.h₀ = hid s as st.H) (e2 : Γ'.L = s.heap.objs.size) (e3 : Γ'.s₀.gens = s.gens) (e4 : Γ'.s₀.drawn = s.drawn) (e5 : Γ'.s₀.os = s.os)
    (hns : h₁.Ns s.heap.objs.size mm) (hk₁ : ∀ b o, s.heap.get? b = some o → h₁.get? b = some o) (hl : LR Γ'.cs as loc mm) : Rel G Γ' as ⟨loc, st.H⟩ { s with heap := h₁, toks := tk } := by
  have N := R.hp.news
  have N' : News (hid s as st.H) s.heap.objs.size h₁ (newsOf s.heap as st.H) := fun p hp => ⟨hk₁ _ _ (N p hp).1, Nat.ne_of_lt (Heap.lt_size (N p hp).1), hideAll_none _ (List.mem_map_of_mem hp)⟩
  refine ⟨Γ'.h₀, Ground.start Γ', e3.symm, e4.symm, e5.symm, ?_, ⟨mm, ?_, hl⟩, ?_⟩
  · rw [e1, hideAll_size]; exact R.lowNow
  · rw [e1, e2]
    exact ⟨hns, fun b o e => hk₁ b o (of_hideAll _ e), Nat.le_of_eq (hideAll_size _ _)⟩
  · rw [e1, e2]
    exact R.hp.ofNews N'

/-- what a call ends with -/
theorem Rel.leave (R : Rel G Γ as st s) (ok : FxOk G D Γ) {m : Str → Option Value} (F : Fr R.h₀ Γ.L s.heap m) (l : LR Γ.cs as st.loc m) {Γ' : Fx} {g : Heap} (hg : Γ'.h₀ = g) (FG : Fr R.h₀ Γ.L g m) (sg : R.h₀.StaysIn g)
    (ho : Γ'.outer = Γ.env :: Γ.outer) (h1 : Γ'.s₀.gens = s.gens) (h2 : Γ'.s₀.drawn = s.drawn) (h3 : Γ'.s₀.os = s.os)
    {as' : List Addr} {loc₂ : List (Option MV)} {H₂ : List MO} {s' : Shared} (R₂ : Rel G Γ' as' ⟨loc₂, H₂⟩ s') (p : as <+: as') : Rel G Γ as' ⟨st.loc, H₂⟩ s' := by
  subst hg
  obtain ⟨m₂, F₂, l₂⟩ := R₂.fr
  have g2 := R₂.gd
  have sl : ∀ b o, Γ'.h₀.get? b = some o → ∃ sl, s'.heap.get? b = some { o with slots := sl } := fun b o e => let ⟨sl, x⟩ := g2.sl b o e; ⟨sl, F₂.keep _ _ x⟩
  have hns : s'.heap.Ns Γ.L m := Heap.UpToSlots.ns (h := Γ'.h₀) (fun b o e _ => sl b o e) FG.ns
  obtain ⟨oL, _, _, hL, _⟩ := FG.ns
  obtain ⟨h₁, gd, Fr₁, no⟩ := reground R.gd F hns (fun b o e hb => F₂.keep b o (g2.kp b o (sg b o e) (by
      rw [ho]
      intro hm
      have hm' : b ∈ Γ.L :: frs Γ.outer := hm
      rcases List.mem_cons.mp hm' with rfl | z
      · exact absurd (Nat.lt_of_lt_of_le (Heap.lt_size e) F.above) (Nat.lt_irrefl _)
      · exact hb z))) (fun b o e => sl b o (sg b o e))
  refine ⟨h₁, gd, ?_, ?_, ?_, R.low, ⟨m, Fr₁, l.mono p⟩, R₂.hp.rebase fun a _ ha => ⟨?_, ?_⟩⟩
  · rw [R₂.gens, h1]; exact R.gens
  · rw [R₂.drawn, h2]; exact R.drawn
  · rw [R₂.os, h3]; exact R.os
  · rintro rfl
    obtain ⟨_, x⟩ := g2.sl _ _ hL
    rw [ha] at x; cases x
  · cases q : R.h₀.get? a with
    | none => exact no a q
    | some o =>
      obtain ⟨_, x⟩ := g2.sl _ _ (sg _ _ q)
      rw [ha] at x; cases x
end
end
end Mine

set_option Elab.async false
set_option maxRecDepth 100000
set_option maxHeartbeats 1000000
set_option linter.all false
namespace Mine
open PySem PySem.W PySem.Spec PySem.Calls PyProof.Rows
noncomputable section

section
variable {G : Gl} {D : Nat} {hn : Bool} {cs : Scope}

noncomputable def GetOk (G : Gl) (D : Nat) (hn : Bool) (cs : Scope) (name : Str) (g : MV → St → Option (MV × St)) : Prop :=
  ∀ Γ, Cx G D hn cs Γ → ∀ as st s v r V st' Q, Rel G Γ as st s → VR as v V → g v st = some (r, st') → Post G Γ as r st' Q → wpAny (model G.prog G.w) Γ.A (getAttr V name true) Q bot s
noncomputable def SetOk (G : Gl) (D : Nat) (hn : Bool) (cs : Scope) (name : Str) (g : MV → MV → St → Option St) : Prop :=
  ∀ Γ, Cx G D hn cs Γ → ∀ as st s o v O V st' (Q : Unit → Shared → Prop), Rel G Γ as st s → VR as o O → VR as v V → g o v st = some st' → (∀ s', Rel G Γ as st' s' → Q () s') → wpAny (model G.prog G.w) Γ.A (setAttr O name V) Q bot s
theorem get_a {name : Str} {C k : Nat} (hk : k < 4) (A : AttrK G C (anm k)) (hname : name = anm k) : GetOk G D hn cs name (attrM C k) := by
  subst hname
  intro Γ Cx as st s v r V st' Q R hv h q
  exact getAttr_ok hk A Cx R hv h q
theorem set_a {name : Str} {C k : Nat} (hk : k < 4) (A : AttrK G C (anm k)) (hname : name = anm k) : SetOk G D hn cs name (setAttrM C k) := by
  subst hname
  intro Γ Cx as st s o v O V st' Q R ho hv h q
  exact setAttr_ok hk A Cx R ho hv h q
theorem get_s {name : Str} {C i : Nat} (S : SlotK G C name i) : GetOk G D hn cs name (slotM C i) := by
  intro Γ Cx as st s v r V st' Q R hv h q
  exact getSlot_ok S Cx R hv h q
theorem set_s {name : Str} {C i : Nat} (S : SlotK G C name i) : SetOk G D hn cs name (setSlotM C i) := by
  intro Γ Cx as st s o v O V st' Q R ho hv h q
  exact setSlot_ok S Cx R ho hv h q

noncomputable def asgAttrM (f g : St → Option (MV × St)) (p : MV → MV → St → Option St) (st : St) : Option (Fl × St) := (f st).bind fun x => (g x.2).bind fun y => (p y.1 x.1 y.2).map fun r => (.next, r)
theorem s_asgAttr {o e : Expr} {name : Str} {p1 pos : Pos} {f g : St → Option (MV × St)} {p : MV → MV → St → Option St} (hf : EvOk G D hn cs e f) (hg : EvOk G D hn cs o g) (hp : SetOk G D hn cs name p)
    (hs : ∀ env, swapsWith e (some (.Attribute o name p1)) pos.line env = pure false) : SOk G D hn cs (.Assign [.Attribute o name p1] e pos) (asgAttrM f g p) := by
  intro Γ C as st s v st' Q R q0 q
  obtain ⟨⟨u, st₁⟩, e1, q0⟩ := bind_some q0
  obtain ⟨⟨ov, st₂⟩, e2, q0⟩ := bind_some q0
  obtain ⟨r, e4, q0⟩ := Option.map_eq_some_iff.mp q0
  cases q0
  refine plainObj_wpAny_Assign_Attribute (hf Γ C as st s u st₁ _ R e1 fun as₁ s₁ U p₁ R₁ hu => ?_) (hs _)
  refine hg Γ C as₁ st₁ s₁ ov st₂ _ R₁ e2 fun as₂ s₂ O p₂ R₂ ho => ?_
  exact hp Γ C as₂ st₂ s₂ ov u O U _ _ R₂ ho (hu.mono p₂) e4 fun s' R' => q as₂ s' .next (p₁.trans p₂) R' rfl

noncomputable def augAttrM (f h : St → Option (MV × St)) (g : MV → St → Option (MV × St)) (op : MV → MV → St → Option (MV × St)) (p : MV → MV → St → Option St) (st : St) : Option (Fl × St) :=
  (f st).bind fun x => (g x.1 x.2).bind fun old => (h old.2).bind fun z => (op old.1 z.1 z.2).bind fun new => (p x.1 new.1 new.2).map fun r => (.next, r)
theorem s_augAttr {o e : Expr} {name : Str} {p1 pos : Pos} {op : Operator} {f h : St → Option (MV × St)} {g : MV → St → Option (MV × St)} {opm : MV → MV → St → Option (MV × St)} {p : MV → MV → St → Option St}
    (hf : EvOk G D hn cs o f) (hg : GetOk G D hn cs name g) (hh : EvOk G D hn cs e h) (ho : Op2 G D hn cs (inplaceOp op) opm) (hp : SetOk G D hn cs name p) :
    SOk G D hn cs (.AugAssign (.Attribute o name p1) op e pos) (augAttrM f h g opm p) := by
  intro Γ C as st s v st' Q R q0 q
  obtain ⟨⟨ov, st₁⟩, e1, q0⟩ := bind_some q0
  obtain ⟨⟨old, st₃⟩, e3, q0⟩ := bind_some q0
  obtain ⟨⟨z, st₄⟩, e4, q0⟩ := bind_some q0
  obtain ⟨⟨new, st₅⟩, e5, q0⟩ := bind_some q0
  obtain ⟨r, e6, q0⟩ := Option.map_eq_some_iff.mp q0
  cases q0
  refine wpAny_AugAssign_AttributeAny (hf Γ C as st s ov st₁ _ R e1 fun as₁ s₁ O p₁ R₁ ho' => ?_)
  refine hg Γ C as₁ st₁ s₁ ov old O st₃ _ R₁ ho' e3 fun as₃ s₃ W p₃ R₃ hw => ?_
  refine hh Γ C as₃ st₃ s₃ z st₄ _ R₃ e4 fun as₄ s₄ Z p₄ R₄ hz => ?_
  refine ho Γ C as₄ st₄ s₄ old z W Z new st₅ _ R₄ (hw.mono p₄) hz e5 fun as₅ s₅ N p₅ R₅ hnw => ?_
  exact hp Γ C as₅ st₅ s₅ ov new O N _ _ R₅ (ho'.mono (p₃.trans (p₄.trans p₅))) hnw e6 fun s' R' => q as₅ s' .next (p₁.trans (p₃.trans (p₄.trans p₅))) R' rfl

/-- o[i] = x = e -/
noncomputable def asg2M (k : Nat) (f g h : St → Option (MV × St)) (st : St) : Option (Fl × St) := (f st).bind fun x => (g x.2).bind fun y => (h y.2).bind fun z => (putM y.1 z.1 x.1 z.2).bind fun r => (setLoc k x.1 r).map fun r => (.next, r)
theorem s_asg2 (k : Nat) {o i e : Expr} {x : Str} {p1 px pos : Pos} {f g h : St → Option (MV × St)} (hk : cs.names[k]? = some (x, .local)) (hf : EvOk G D hn cs e f) (hg : EvOk G D hn cs o g) (hh : EvOk G D hn cs i h)
    (he : ∀ env, (assignEach [.Subscript o i p1, .Name x px] env).map (·.2) = [assign (.Subscript o i p1) env, assign (.Name x px) env])
    (hw : ∀ env, swappedStores [.Subscript o i p1, .Name x px] e env = pure none)
    (hr : ∀ v ov iv : Value, (match i with | .Slice _ _ none _ => [iv, v, ov] | _ => [v, ov, iv]) = [v, ov, iv]) : SOk G D hn cs (.Assign [.Subscript o i p1, .Name x px] e pos) (asg2M k f g h) := by
  intro Γ C as st s v st' Q R q0 q
  obtain ⟨⟨u, st₁⟩, e1, q0⟩ := bind_some q0
  obtain ⟨⟨ov, st₂⟩, e2, q0⟩ := bind_some q0
  obtain ⟨⟨iv, st₃⟩, e3, q0⟩ := bind_some q0
  obtain ⟨st₄, e4, q0⟩ := bind_some q0
  obtain ⟨r, e5, q0⟩ := Option.map_eq_some_iff.mp q0
  cases q0
  refine wpAny_Assign_two (hf Γ C as st s u st₁ _ R e1 fun as₁ s₁ U p₁ R₁ hu => ?_) (he _) (hw _)
  rw [PySem.assign_Subscript]
  refine wpAny_bind (wpAny_holding (hg Γ C as₁ st₁ s₁ ov st₂ _ R₁ e2 fun as₂ s₂ O p₂ R₂ ho => ?_))
  refine wpAny_bind (wpAny_holding (hh Γ C as₂ st₂ s₂ iv st₃ _ R₂ e3 fun as₃ s₃ I p₃ R₃ hi => ?_))
  refine wpAny_bind (wpAny_standAt (wpAny_bind (wpAny_holding (setItem_ok R₃ (ho.mono p₃) hi (hu.mono (p₂.trans p₃)) e4 fun s' R' => ?_))))
  refine wpAny_release ?_
  unfold setLoc at e5
  try simp only [hget_eq, hset_eq] at e5
  split at e5
  · rename_i hl
    cases e5
    exact wpAny_assign_Name (store_loc hk C R' hl (hu.mono (p₂.trans p₃)) fun s'' R'' => q as₃ s'' .next (p₁.trans (p₂.trans p₃)) R'' rfl)
  · cases e5

/-! the text's own functions -/
noncomputable def FnOk (G : Gl) (D : Nat) (f : Addr) (F : List MV → List MO → Option (MV × List MO)) : Prop :=
  ∀ Γ, FxOk G D Γ → Γ.A.handled = none → ∀ as st s args Vs r H' R, Rel G Γ as st s → All2 (VR as) args Vs → F args st.H = some (r, H') →
    (∀ as' s' V, as <+: as' → Rel G Γ as' { st with H := H' } s' → VR as' r V → R (.ok (.ret V)) s') → codeAny (model G.prog G.w) Γ.A (.call (.ref f) ⟨Vs, []⟩) R s

noncomputable def runFn (n : Nat) (loc0 : List MV → List (Option MV)) (fb : St → Option (Fl × St)) (args : List MV) (H : List MO) : Option (MV × List MO) :=
  if args.length = n then (fb ⟨loc0 args, H⟩).bind fun x => match x.1 with
    | .ret v => some (v, x.2.H)
    | .next => some (.none, x.2.H)
    | _ => none
  else none

theorem FnOk.weak {D D' : Nat} {f : Addr} {F : List MV → List MO → Option (MV × List MO)} (h : FnOk G D f F) (hd : D' ≤ D) (hs : D ≤ 900) : FnOk G D' f F := fun Γ ok hh => h Γ ⟨ok.B, ok.X, ok.T, ok.fr, ok.kind, ok.nd, Nat.le_trans ok.depth hd, Nat.le_trans ok.units (Nat.mul_le_mul_left _ hd), hs, ok.scr⟩ hh

/-- a function's body gives its contract -/
theorem fn_ok {f : Addr} {name qual : Str} {params : Arguments} {body : List Stmt} {scope : Scope} {dV kV doc pm cdv ct oc : Value} {an od : Option Addr} {osl : Array (Option Value)} {n : Nat}
    {binds : List Value → List (Str × Value)} {loc0 : List MV → List (Option MV)} {fb : St → Option (Fl × St)}
    (ho : G.K.lookup f = some ⟨oc, od, .func (fnOf name qual params body scope dV kV doc pm an cdv ct), osl⟩) (hcd : codeIn G.K cdv qual = true) (hsm : D + 1 ≤ 900)
    (hbind : ∀ (s : Shared) (Vs : List Value), G.K.In s.heap → Vs.length = n → BindsTo s (fnOf name qual params body scope dV kV doc pm an cdv ct) ⟨Vs, []⟩ (binds Vs))
    (hloc : ∀ Vs, Vs.length = n → ∀ y ∈ binds Vs, scope.names.lookup y.1 = some .local)
    (hl0 : ∀ as args Vs, All2 (VR as) args Vs → args.length = n → LR scope as (loc0 args) (fun y => (binds Vs).reverse.lookup y))
    (hnd : (scope.names.map (·.1)).Nodup)
    (hb : BOk G (D + 1) true scope body fb)
    (hco : scope.isCoroutine = false) (hgen : scope.isGenerator = false) (hk : scope.kind = .function) (hcell : ∀ x ∈ scope.names, x.2 ≠ .cell) : FnOk G D f (runFn n loc0 fb) := by
  intro Γ ok hh as st s args Vs r H' RR R hv h q
  unfold runFn at h
  split at h
  · rename_i hlen
    obtain ⟨⟨fl, st₁⟩, e1, h⟩ := bind_some h
    obtain ⟨m, F, l⟩ := R.fr
    have hVs : Vs.length = n := by rw [← hv.length]; exact hlen
    have hdep := ok.depth
    have hun := ok.units
    obtain ⟨FG, BG, sg⟩ := R.enter ok F
    have X := (R.X ok).keeps F.keep
    have N := R.hp.news
    refine codeAny_call_def (fd := fnOf name qual params body scope dV kV doc pm an cdv ct) (body := body) (binds := binds Vs) (by unfold recursionLimit; omega) (X _ _ ho) rfl ((R.T ok).nolimit.keeps F.keep) (codeRec_of X hcd) rfl (hbind s Vs X hVs) hcell (hloc Vs hVs) (fun h₁ hns hk₁ => ?_) hco hgen hk
    let Γ' : Fx := ⟨Γ.A, Γ.A.deeper (envOf qual scope s.heap.objs.size f cdv), Γ.base, hid s as st.H, Γ.env :: Γ.outer, qual, scope, s.heap.objs.size, f, cdv, s⟩
    have ok' : FxOk G (D + 1) Γ' := ⟨BG, ok.X, ok.T, by show (Γ.A.frames.map _) = _; rw [ok.fr]; rfl, hk, hnd, by show Γ.A.depth + 1 ≤ _; omega, by show Γ.A.units + 3 ≤ _; omega, hsm, ok.scr⟩
    have N' : News (hid s as st.H) s.heap.objs.size h₁ (newsOf s.heap as st.H) := fun p hp => ⟨hk₁ _ _ (N p hp).1, Nat.ne_of_lt (Heap.lt_size (N p hp).1), hideAll_none _ (List.mem_map_of_mem hp)⟩
    have R' : Rel G Γ' as ⟨loc0 args, st.H⟩ { s with heap := h₁, toks := s.toks + (binds Vs).length } :=
      ⟨hid s as st.H, ⟨rfl, fun _ e => e, fun _ _ e _ => e, fun b o e => ⟨o.slots, e⟩⟩, rfl, rfl, rfl, by show sysModules < (hid s as st.H).objs.size; rw [hideAll_size]; exact R.lowNow,
        ⟨_, ⟨hns, fun b o e => hk₁ b o (of_hideAll _ e), Nat.le_of_eq (hideAll_size _ _)⟩, hl0 as args Vs hv hlen⟩, R.hp.ofNews N'⟩
    have finish : ∀ as' s' V w H₂ loc₂, as <+: as' → Rel G Γ' as' ⟨loc₂, H₂⟩ s' → w = r → H₂ = H' → VR as' w V → RR (.ok (.ret V)) s' := by
      intro as' s' V w H₂ loc₂ p R₂ e2 e3 hw
      subst e2; subst e3
      exact q as' s' V p (R.leave ok F l rfl FG sg rfl rfl rfl rfl R₂ p) hw
    refine botE (hb Γ' ⟨ok', rfl, fun _ => hh⟩ as _ _ fl st₁ _ R' e1 fun as' s' V p R₂ fr => ?_)
    cases fl with
    | ret w =>
      obtain ⟨W, rfl, hw⟩ := fr
      cases h
      exact finish as' s' W _ _ _ p R₂ rfl rfl hw
    | next =>
      cases fr
      cases h
      exact finish as' s' .none .none _ _ p R₂ rfl rfl rfl
    | brk => cases h
    | cont => cases h
  · cases h

/-- calling a function by name -/
noncomputable def callM (g : St → Option (List MV × St)) (F : List MV → List MO → Option (MV × List MO)) (st : St) : Option (MV × St) :=
  (g st).bind fun x => (F x.1 x.2.H).map fun y => (y.1, { x.2 with H := y.2 })
theorem call_ok {Γ : Fx} (C : Cx G D true cs Γ) {f : Addr} {F : List MV → List MO → Option (MV × List MO)} (hF : FnOk G D f F) {as : List Addr} {st : St} {s : Shared} {args : List MV} {Vs : List Value} {r : MV} {H' : List MO} {E : Value → Shared → Prop} {Q : Value → Shared → Prop}
    (R : Rel G Γ as st s) (hv : All2 (VR as) args Vs) (h : F args st.H = some (r, H')) (q : Post G Γ as r { st with H := H' } Q) : wpAny (model G.prog G.w) Γ.A (call (.ref f) Vs) Q E s :=
  wpAny_call (hF Γ C.ok (C.hh rfl) as st s args Vs r H' _ R hv h fun as' s' V p R' hr => q as' s' V p R' hr)
theorem Rel.inK {Γ : Fx} (C : Cx G D hn cs Γ) {as : List Addr} {st : St} {s : Shared} (R : Rel G Γ as st s) : G.K.In s.heap := by
  obtain ⟨m, F, _⟩ := R.fr
  exact (R.X C.ok).keeps F.keep

theorem ev_call {x : Str} {f : Addr} {px pos : Pos} {e : Expr} {es : List Expr} {g : St → Option (List MV × St)} {F : List MV → List MO → Option (MV × List MO)} (b : KName G cs x (.ref f)) (hkeep : keepIn G.K (.ref f) = true) (hg : AOk G D true cs (e :: es) g) (hF : FnOk G D f F)
    (hs : ∀ env, starEach (e :: es) env = (false, eval e env) :: starEach es env) (hst : ∀ env pos, (backTo pos (starEach es env)).any (·.1) = false) (hc : CallEq (.Name x px) (e :: es) pos) : EvOk G D true cs (.Call (.Name x px) (e :: es) [] pos) (callM g F) := by
  intro Γ C as st s v st' Q R h q
  obtain ⟨⟨vs, st₁⟩, e1, h⟩ := bind_some h
  obtain ⟨⟨r, H'⟩, e2, h⟩ := Option.map_eq_some_iff.mp h
  cases h
  refine Call_ (name_k b C R (callWith_K (R.X C.ok) hkeep (hg Γ C as st s vs st₁ pos _ R e1 fun as' s' Vs p R' hv => ⟨R'.inK C, ?_⟩) (hs _) (hst _ _))) (hc _)
  exact call_ok C hF R' hv e2 fun as2 s2 W p2 => q as2 s2 W (p.trans p2)

/-- a method of the text's own class -/
structure MethK (G : Gl) (C : Nat) (name : Str) (f : Addr) : Prop where
  get : plainGet G.K C name = true
  find : findIn G.K (.ref C) name = some (some (.ref f))
  fn : isFn G.K (.ref f) = true
  keep : keepIn G.K (.ref f) = true
  ne : ∀ k, k < 4 → (anm k == name) = false
noncomputable def methM (C : Nat) (f : St → Option (MV × St)) (g : St → Option (List MV × St)) (F : List MV → List MO → Option (MV × List MO)) (st : St) : Option (MV × St) :=
  (f st).bind fun x => match x.1 with
    | .ref n => match hget x.2.H n with
      | some (.inst C' d _) => if C' = C then (match hget x.2.H d with
        | some (.attrs kvs) => bif aOk kvs then (g x.2).bind fun y => (F (.ref n :: y.1) y.2.H).map fun z => (z.1, { y.2 with H := z.2 }) else none
        | _ => none) else none
      | _ => none
    | _ => none
theorem ev_methG {o : Expr} {name : Str} {f : Addr} {C : Nat} {apos pos : Pos} {pl : Env → Sem Bool} {es : List Expr} {fo : St → Option (MV × St)} {g : St → Option (List MV × St)} {F : List MV → List MO → Option (MV × List MO)} (M : MethK G C name f)
    (hf : EvOk G D true cs o fo) (hF : FnOk G D f F) (he : MethEq o name apos pos es pl)
    (hcall : ∀ Γ, Cx G D true cs Γ → ∀ as st s vs st' a Q, Rel G Γ as st s → g st = some (vs, st') →
      (∀ as' s' Vs, as <+: as' → Rel G Γ as' st' s' → All2 (VR as') vs Vs → wpAny (model G.prog G.w) Γ.A (call (.ref f) ([.ref a] ++ Vs)) Q bot s') →
      wpAny (model G.prog G.w) Γ.A (callWith pos (.ref f) [.ref a] (backTo pos (starEach es Γ.env)) []) Q bot s) :
    EvOk G D true cs (.Call (.Attribute o name apos) es [] pos) (methM C fo g F) := by
  intro Γ Cx as st s v st' Q R h0 q
  obtain ⟨⟨u, st₁⟩, e1, h⟩ := bind_some h0
  dsimp only at h
  cases u <;> first | (cases h; done) | skip
  rename_i n
  dsimp only at h
  simp only [hget_eq] at h
  split at h
  · rename_i C' d sl e2
    split at h
    · rename_i hC
      split at h
      · rename_i kvs e3
        cases hok : aOk kvs with
        | false => rw [hok] at h; cases h
        | true =>
          rw [hok] at h
          obtain ⟨⟨vs, st₂⟩, e4, h⟩ := bind_some h
          obtain ⟨⟨r, H'⟩, e5, h⟩ := Option.map_eq_some_iff.mp h
          cases h
          subst hC
          refine MethodCall_ (pl := pl Γ.env) (hf Γ Cx as st s _ st₁ _ R e1 fun as' s' V p R' hv => ?_) (he _)
          obtain ⟨a, ha, rfl⟩ := hv
          obtain ⟨dx, slv, ess, m, hdx, hoa, hod, al, al2, I⟩ := inst_at R' ha e2 e3
          obtain ⟨mm, Fr', l⟩ := R'.fr
          refine method_inst Fr' (R'.X Cx.ok) I M.get M.find M.fn (av_getNone al2 hok M.ne) ?_
          exact hcall Γ Cx as' st₁ s' vs st₂ a Q R' e4 fun as2 s2 Vs p2 R2 hvs =>
            call_ok Cx hF (args := .ref n :: vs) R2 (.cons (show VR as2 (.ref n) (.ref a) from ⟨a, getElem?_pre p2 ha, rfl⟩) hvs) e5 fun as3 s3 W p3 => q as3 s3 W (p.trans (p2.trans p3))
      · cases h
    · cases h
  · cases h
theorem ev_meth0 {o : Expr} {name : Str} {f : Addr} {C : Nat} {apos pos : Pos} {pl : Env → Sem Bool} {fo : St → Option (MV × St)} {F : List MV → List MO → Option (MV × List MO)} (M : MethK G C name f)
    (hf : EvOk G D true cs o fo) (hF : FnOk G D f F) (he : MethEq o name apos pos [] pl) : EvOk G D true cs (.Call (.Attribute o name apos) [] [] pos) (methM C fo (fun st => some ([], st)) F) :=
  ev_methG M hf hF he fun Γ Cx as st s vs st' a Q R h q => by
    cases h
    exact callWith_K0 (R.inK Cx) M.keep (q as s [] (List.prefix_refl _) R .nil)
theorem ev_meth {o e : Expr} {name : Str} {f : Addr} {C : Nat} {apos pos : Pos} {pl : Env → Sem Bool} {es : List Expr} {fo : St → Option (MV × St)} {g : St → Option (List MV × St)} {F : List MV → List MO → Option (MV × List MO)} (M : MethK G C name f)
    (hf : EvOk G D true cs o fo) (hg : AOk G D true cs (e :: es) g) (hF : FnOk G D f F) (he : MethEq o name apos pos (e :: es) pl)
    (hs : ∀ env, starEach (e :: es) env = (false, eval e env) :: starEach es env) (hst : ∀ env pos, (backTo pos (starEach es env)).any (·.1) = false) :
    EvOk G D true cs (.Call (.Attribute o name apos) (e :: es) [] pos) (methM C fo g F) :=
  ev_methG M hf hF he fun Γ Cx as st s vs st' a Q R h q =>
    callWith_K (R.X Cx.ok) M.keep (hg Γ Cx as st s vs st' pos _ R h fun as2 s2 Vs p2 R2 hvs => ⟨R2.inK Cx, q as2 s2 Vs p2 R2 hvs⟩) (hs _) (hst _ _)
end
end
end Mine

set_option Elab.async false
set_option maxRecDepth 100000
set_option maxHeartbeats 1000000
set_option linter.all false
namespace Mine
open PySem PySem.W PySem.Spec PySem.Calls PyProof.Rows
noncomputable section

section
variable {G : Gl} {D : Nat} {hn : Bool} {cs : Scope}

/-! classes -/
structure ClsK (G : Gl) (C fI : Nat) : Prop where
  makes : makesIn G.K C = true
  init : findIn G.K (.ref C) "__init__" = some (some (.ref fI))
  fn : isFn G.K (.ref fI) = true
  keep : keepIn G.K (.ref C) = true
noncomputable def newM (C : Nat) (F : List MV → List MO → Option (MV × List MO)) (args : List MV) (H : List MO) : Option (MV × List MO) :=
  (F (.ref ((hlen H) + 1) :: args) (happ (happ H (.attrs [])) (.inst C (hlen H) []))).bind fun x => match x.1 with | .none => some (.ref ((hlen H) + 1), x.2) | _ => none

theorem Rel.other {Γ : Fx} {as : List Addr} {st : St} {s : Shared} {A' : Around} (R : Rel G Γ as st s) : Rel G { Γ with A := A' } as st s :=
  ⟨R.h₀, ⟨R.gd.sz, R.gd.no, R.gd.kp, R.gd.sl⟩, R.gens, R.drawn, R.os, R.low, R.fr, R.hp⟩
theorem Rel.other' {Γ : Fx} {as : List Addr} {st : St} {s : Shared} {A' : Around} (R : Rel G { Γ with A := A' } as st s) : Rel G Γ as st s :=
  ⟨R.h₀, ⟨R.gd.sz, R.gd.no, R.gd.kp, R.gd.sl⟩, R.gens, R.drawn, R.os, R.low, R.fr, R.hp⟩

theorem new_ok {Γ : Fx} (Cc : Cx G D true cs Γ) {C fI : Nat} (K : ClsK G C fI) {F : List MV → List MO → Option (MV × List MO)} (hF : FnOk G (D + 1) fI F) (hsm : D + 1 ≤ 900) {as : List Addr} {st : St} {s : Shared} {args : List MV} {Vs : List Value} {r : MV} {H' : List MO} {Q : Value → Shared → Prop}
    (R : Rel G Γ as st s) (hv : All2 (VR as) args Vs) (h : newM C F args st.H = some (r, H')) (q : Post G Γ as r { st with H := H' } Q) : wpAny (model G.prog G.w) Γ.A (call (.ref C) Vs) Q bot s := by
  simp only [newM, hlen_eq, happ_eq] at h
  obtain ⟨⟨w, H₂⟩, e1, h⟩ := bind_some h
  cases w <;> first | (cases h; done) | skip
  cases h
  have X := R.inK Cc
  have hdep := Cc.ok.depth
  have hun := Cc.ok.units
  let Γ' : Fx := { Γ with A := Γ.A.under (.builtin "type.__call__" ⟨.ref C :: Vs, []⟩) }
  have ok' : FxOk G (D + 1) Γ' := ⟨Cc.ok.B, Cc.ok.X, Cc.ok.T, Cc.ok.fr, Cc.ok.kind, Cc.ok.nd, by show Γ.A.depth + 1 ≤ _; omega, by show Γ.A.units + 1 ≤ _; omega, hsm, Cc.ok.scr⟩
  have R1 := R.alloc (o := emptyDict) (mo := .attrs []) rfl ⟨[], 0, rfl, .nil⟩
  have hd1 : (as ++ [s.heap.objs.size])[st.H.length]? = some s.heap.objs.size := by rw [← R.len]; simp
  have R2 := R1.alloc (o := instObj C s.heap.objs.size) (mo := .inst C st.H.length []) rfl ⟨s.heap.objs.size, #[], getElem?_pre (List.prefix_append ..) hd1, rfl, .nil⟩
  have sz : (s.heap.push emptyDict).objs.size = s.heap.objs.size + 1 := Heap.size_push ..
  simp only [sz] at R2
  have hp : as <+: as ++ [s.heap.objs.size] ++ [s.heap.objs.size + 1] := by rw [List.append_assoc]; exact List.prefix_append ..
  have hself : VR (as ++ [s.heap.objs.size] ++ [s.heap.objs.size + 1]) (.ref (st.H.length + 1)) (.ref (s.heap.objs.size + 1)) := VR.last (by rw [← R.len]; simp)
  obtain ⟨hh, g, d, t, os⟩ := s
  refine wpAny_call (make_core (makes_of X K.makes) (looks_findIn X K.init) (fun self => bind_fn X self (beq_iff_eq.mp K.fn)) (.inl rfl) ?_)
  refine hF Γ' ok' (Cc.hh rfl) _ _ _ _ _ _ _ _ R2.other (.cons hself (hv.imp fun _ _ => VR.mono hp)) e1 fun as' s' V p R' hr => ?_
  refine ⟨hr, ?_⟩
  exact q as' s' _ (hp.trans p) R'.other' (hself.mono p)

theorem ev_new0 {x : Str} {C fI : Nat} {px pos : Pos} {F : List MV → List MO → Option (MV × List MO)} (b : KName G cs x (.ref C)) (K : ClsK G C fI) (hF : FnOk G (D + 1) fI F) (hsm : D + 1 ≤ 900) (hc : CallEq (.Name x px) [] pos) :
    EvOk G D true cs (.Call (.Name x px) [] [] pos) (callM (fun st => some ([], st)) (newM C F)) := by
  intro Γ Cc as st s v st' Q R h q
  obtain ⟨⟨vs, st₁⟩, e1, h⟩ := bind_some h
  cases e1
  obtain ⟨⟨r, H'⟩, e2, h⟩ := Option.map_eq_some_iff.mp h
  cases h
  exact Call_ (name_k b Cc R (callWith_K0 (R.inK Cc) K.keep (new_ok Cc K hF hsm R .nil e2 q))) (hc _)
theorem ev_new {x : Str} {C fI : Nat} {px pos : Pos} {e : Expr} {es : List Expr} {g : St → Option (List MV × St)} {F : List MV → List MO → Option (MV × List MO)} (b : KName G cs x (.ref C)) (K : ClsK G C fI) (hg : AOk G D true cs (e :: es) g) (hF : FnOk G (D + 1) fI F) (hsm : D + 1 ≤ 900)
    (hs : ∀ env, starEach (e :: es) env = (false, eval e env) :: starEach es env) (hst : ∀ env pos, (backTo pos (starEach es env)).any (·.1) = false) (hc : CallEq (.Name x px) (e :: es) pos) :
    EvOk G D true cs (.Call (.Name x px) (e :: es) [] pos) (callM g (newM C F)) := by
  intro Γ Cc as st s v st' Q R h q
  obtain ⟨⟨vs, st₁⟩, e1, h⟩ := bind_some h
  obtain ⟨⟨r, H'⟩, e2, h⟩ := Option.map_eq_some_iff.mp h
  cases h
  refine Call_ (name_k b Cc R (callWith_K (R.X Cc.ok) K.keep (hg Γ Cc as st s vs st₁ pos _ R e1 fun as' s' Vs p R' hv => ⟨R'.inK Cc, ?_⟩) (hs _) (hst _ _))) (hc _)
  exact new_ok Cc K hF hsm R' hv e2 fun as2 s2 W p2 => q as2 s2 W (p.trans p2)

/-! a function with *rest -/
noncomputable def runStar (n k : Nat) (loc0 : List MV → Nat → List (Option MV)) (fb : St → Option (Fl × St)) (args : List MV) (H : List MO) : Option (MV × List MO) :=
  if n ≤ args.length ∧ args.length ≤ k then (fb ⟨loc0 (args.take n) (hlen H), happ H (.tup (args.drop n))⟩).bind fun x => match x.1 with
    | .ret v => some (v, x.2.H)
    | .next => some (.none, x.2.H)
    | _ => none
  else none
theorem All2.drop {α β : Type} {R : α → β → Prop} : ∀ {l r}, All2 R l r → ∀ n, All2 R (l.drop n) (r.drop n)
  | _, _, h, 0 => by simpa using h
  | _, _, .nil, n + 1 => by simpa using All2.nil
  | _, _, .cons _ h, n + 1 => by simpa using h.drop n
theorem All2.take {α β : Type} {R : α → β → Prop} : ∀ {l r}, All2 R l r → ∀ n, All2 R (l.take n) (r.take n)
  | _, _, _, 0 => by simpa using All2.nil
  | _, _, .nil, n + 1 => by simpa using All2.nil
  | _, _, .cons x h, n + 1 => by simpa using All2.cons x (h.take n)

theorem star_ok {f : Addr} {name qual : Str} {params : Arguments} {body : List Stmt} {scope : Scope} {dV kV doc pm cdv ct oc : Value} {an od : Option Addr} {osl : Array (Option Value)} {n k : Nat}
    {binds : List Value → Addr → List (Str × Value)} {loc0 : List MV → Nat → List (Option MV)} {fb : St → Option (Fl × St)}
    (ho : G.K.lookup f = some ⟨oc, od, .func (fnOf name qual params body scope dV kV doc pm an cdv ct), osl⟩) (hcd : codeIn G.K cdv qual = true) (hsm : D + 1 ≤ 900)
    (hbind : ∀ (Vs : List Value), n ≤ Vs.length → Vs.length ≤ k → params.posonlyargs.length + params.args.length = n ∧ ∃ g₁, peek1 G.K ⟨G.prog, G.w.params⟩ (bindArgs (fnOf name qual params body scope dV kV doc pm an cdv ct) ⟨Vs, []⟩) =
      some (({ cls := .type "tuple", data := .seq (Vs.drop n).toArray } : Obj), g₁) ∧ ∀ B, g₁ B = some (binds (Vs.take n) B))
    (hloc : ∀ Vs B, Vs.length = n → ∀ y ∈ binds Vs B, scope.names.lookup y.1 = some .local)
    (hl0 : ∀ as args Vs j B, All2 (VR as) args Vs → args.length = n → as[j]? = some B → LR scope as (loc0 args j) (fun y => (binds Vs B).reverse.lookup y))
    (hnd : (scope.names.map (·.1)).Nodup)
    (hb : BOk G (D + 1) true scope body fb)
    (hco : scope.isCoroutine = false) (hgen : scope.isGenerator = false) (hk : scope.kind = .function) (hcell : ∀ x ∈ scope.names, x.2 ≠ .cell) : FnOk G D f (runStar n k loc0 fb) := by
  intro Γ ok hh as st s args Vs r H' RR R hv h q
  unfold runStar at h
  simp only [hlen_eq, happ_eq] at h
  split at h
  · rename_i hlen
    obtain ⟨⟨fl, st₁⟩, e1, h⟩ := bind_some h
    obtain ⟨m, F, l⟩ := R.fr
    have hVs : Vs.length = args.length := hv.length.symm
    have hdep := ok.depth
    have hun := ok.units
    obtain ⟨hpn, g₁, hp, hg⟩ := hbind Vs (by omega) (by omega)
    have htk : (Vs.take n).length = n := by simp; omega
    have hta : (args.take n).length = n := by simp; omega
    have X := (R.X ok).keeps F.keep
    refine codeAny_call_function (fd := fnOf name qual params body scope dV kV doc pm an cdv ct) (body := body) (by unfold recursionLimit; omega) (X _ _ ho) rfl hco hgen rfl (codeRec_of X hcd) ?_
    refine wp_of_peek1 (o := ({ cls := .type "tuple", data := .seq (Vs.drop n).toArray } : Obj)) F R.hp.news X rfl (r := fun B => binds (Vs.take n) B) (fun B h' F' N' lt => ?_) _ g₁ hp hg
    have R1 : Rel G Γ (as ++ [B]) { st with H := st.H ++ [.tup (args.drop n)] } { s with heap := h' } := by
      refine ⟨R.h₀, R.gd, R.gens, R.drawn, R.os, R.low, ⟨m, F', l.mono (List.prefix_append ..)⟩, ?_⟩
      have R1 := R.hp.ofNews (fun p hp => N' p (.tail _ hp))
      have z := N' _ (.head _)
      refine R1.add (fun i b mb x1 x2 x3 => ?_) (fun _ _ _ _ e => e) z.1 ⟨_, rfl, ?_⟩ z.2.1 z.2.2 (by intro z; cases z)
      · obtain ⟨ob, hob, _⟩ := R.hp.ob i b mb x1 x2 x3
        exact Nat.ne_of_lt (lt (b, ob) (mem_newsOf x1 x2 x3 hob))
      · simpa using (hv.drop n).imp fun _ _ => VR.mono (List.prefix_append ..)
    clear F' N' lt
    obtain ⟨m1, F1, l1⟩ := R1.fr
    obtain ⟨FG, BG, sg⟩ := R1.enter ok F1
    refine wpAny_newFunctionEnv hcell (hloc _ B htk) (fun h₁ hns hsb => ⟨((R1.T ok).nolimit.keeps F1.keep).fresh _ hsb, codeAny_func ?_⟩) hk
    have hk₁ : ∀ b o, h'.get? b = some o → h₁.get? b = some o := fun b o e => hsb.extBut b o (Nat.ne_of_lt (Heap.lt_size e)) (Heap.get?_push_of_some _ e)
    let Γ' : Fx := ⟨Γ.A, Γ.A.deeper (envOf qual scope h'.objs.size f cdv), Γ.base, hid { s with heap := h' } (as ++ [B]) (st.H ++ [.tup (args.drop n)]), Γ.env :: Γ.outer, qual, scope, h'.objs.size, f, cdv, s⟩
    have ok' : FxOk G (D + 1) Γ' := ⟨BG, ok.X, ok.T, by show (Γ.A.frames.map _) = _; rw [ok.fr]; rfl, hk, hnd, by show Γ.A.depth + 1 ≤ _; omega, by show Γ.A.units + 3 ≤ _; omega, hsm, ok.scr⟩
    have hB : (as ++ [B])[st.H.length]? = some B := by rw [← R.len]; simp
    have hvt : All2 (VR (as ++ [B])) (args.take n) (Vs.take n) := (hv.take n).imp fun _ _ => VR.mono (List.prefix_append ..)
    have hlr : LR scope (as ++ [B]) (loc0 (args.take n) st.H.length) (fun y => (binds (Vs.take n) B).reverse.lookup y) := hl0 _ _ _ _ _ hvt hta hB
    have R' : Rel G Γ' (as ++ [B]) ⟨loc0 (args.take n) st.H.length, st.H ++ [.tup (args.drop n)]⟩ { s with heap := h₁, toks := s.toks + (binds (Vs.take n) B).length } :=
      R1.start Γ' rfl rfl rfl rfl rfl hns hk₁ hlr
    have finish : ∀ as' s' V w H₂ loc₂, as ++ [B] <+: as' → Rel G Γ' as' ⟨loc₂, H₂⟩ s' → w = r → H₂ = H' → VR as' w V → RR (.ok (.ret V)) s' := by
      intro as' s' V w H₂ loc₂ p R₂ e2 e3 hw
      subst e2; subst e3
      exact q as' s' V ((List.prefix_append as [B]).trans p) (R1.leave ok F1 l1 rfl FG sg rfl rfl rfl rfl R₂ p) hw
    show wpAny (model G.prog G.w) Γ'.A (execs body Γ'.env) _ _ _
    refine botE (hb Γ' ⟨ok', rfl, fun _ => hh⟩ _ _ _ fl st₁ _ R' e1 fun as' s' V p R₂ fr => ?_)
    cases fl with
    | ret w =>
      obtain ⟨W, rfl, hw⟩ := fr
      cases h
      exact finish as' s' W _ _ _ p R₂ rfl rfl hw
    | next =>
      cases fr
      cases h
      exact finish as' s' .none .none _ _ p R₂ rfl rfl rfl
    | brk => cases h
    | cont => cases h
  · cases h
end
end
end Mine

set_option Elab.async false
set_option maxRecDepth 100000
set_option maxHeartbeats 1000000
set_option linter.all false
namespace Mine
open PySem PySem.W PySem.Spec PySem.Calls PyProof.Rows
noncomputable section

section
variable {G : Gl} {D : Nat} {hn : Bool} {cs : Scope}

/-! [i.a for i in d.values() if i.b == 0], slots a, b of class C -/
noncomputable def compL (C ia ib : Nat) (st : St) : List (Int × MV) → Option (List MV)
  | [] => some []
  | (_, v) :: r => (slotM C ib v st).bind fun p => match p.1 with
    | .int n => if n == 0 then (slotM C ia v st).bind fun y => (compL C ia ib st r).map (y.1 :: ·) else compL C ia ib st r
    | _ => none
noncomputable def compM (C ia ib : Nat) (v : MV) (st : St) : Option (MV × St) := match v with
  | .ref n => match hget st.H n with
    | some (.dict kvs (some _)) => if kvs.length < 1000 then (compL C ia ib st kvs).map fun vs => (.ref (hlen st.H), { st with H := happ st.H (.list vs) }) else none
    | _ => none
  | _ => none

noncomputable def slotAt (h : Heap) (i : Nat) : Value → Option Value
  | .ref a => (h.get? a).bind fun o => (o.slots[i]?).join
  | _ => none
noncomputable def isZero : Option Value → Bool
  | some (.int n _) => n == 0
  | _ => false

theorem slot_at {Γ : Fx} {as : List Addr} {st : St} {s : Shared} (R : Rel G Γ as st s) {C i : Nat} {v r : MV} {V : Value} {st' : St} (hv : VR as v V) (h : slotM C i v st = some (r, st')) :
    ∃ a slv dx es m W, V = .ref a ∧ slotAt s.heap i V = some W ∧ VR as r W ∧ s.heap.get? a = some { cls := .ref C, dict := some dx, data := .plain, slots := slv } ∧ s.heap.get? dx = some (dictOf es m) ∧ (slv[i]?).join = some W ∧ a < s.heap.objs.size ∧ dx < s.heap.objs.size := by
  cases v <;> first | (cases h; done) | skip
  rename_i n
  obtain ⟨a, ha, rfl⟩ := hv
  simp only [slotM, hget_eq, hset_eq, hlen_eq, happ_eq] at h
  split at h
  · rename_i C' d sl e
    split at h
    · rename_i hC
      split at h
      · rename_i kvs w e2 e3
        cases h
        obtain ⟨dx, slv, es, m, hdx, hoa, hod, al, al2, I⟩ := inst_at R ha e e2
        obtain ⟨W, h1, h2⟩ := al.get e3
        cases W with
        | none => exact h2.elim
        | some W =>
          subst hC
          have hj : (slv[i]?).join = some W := by
            have : slv[i]? = some (some W) := by simpa using h1
            rw [this]; rfl
          exact ⟨a, slv, dx, es, m, W, rfl, by show (s.heap.get? a).bind _ = _; rw [hoa]; exact hj, h2, hoa, hod, hj, Heap.lt_size hoa, Heap.lt_size hod⟩
      · cases h
    · cases h
  · cases h

theorem comp_pairs {Γ : Fx} {as : List Addr} {st : St} {s : Shared} (R : Rel G Γ as st s) {C ia ib : Nat} {kvs : List (Int × MV)} {kvs' : List (Int × Value)} (al : All2 (KV as) kvs kvs') :
    ∀ {vs : List MV} {ys : List Value}, compL C ia ib st kvs = some vs → Paired (fun V Y => slotAt s.heap ia V = some Y) ((kvs'.map (·.2)).filter fun V => isZero (slotAt s.heap ib V)) ys → All2 (VR as) vs ys := by
  induction al with
  | nil => intro vs ys h p; cases h; cases p; exact .nil
  | @cons x y l r xy _ ih =>
    intro vs ys h p
    obtain ⟨k, v⟩ := x
    obtain ⟨k', V⟩ := y
    unfold compL at h
    obtain ⟨⟨pv, st1⟩, e1, h⟩ := bind_some h
    dsimp only at h
    obtain ⟨a, slv, dx, es, m, W, rfl, hW, hr, _⟩ := slot_at R xy.2 e1
    dsimp only at hW
    rw [List.map_cons] at p
    cases pv <;> first | (cases h; done) | skip
    rename_i n
    obtain ⟨t, rfl⟩ := hr
    dsimp only at h
    split at h
    · rename_i hz
      obtain ⟨⟨yv, st2⟩, e2, h⟩ := bind_some h
      obtain ⟨ws, e3, h⟩ := Option.map_eq_some_iff.mp h
      subst h
      rw [List.filter_cons_of_pos (by rw [hW]; exact hz)] at p
      cases p with
      | cons hF pt =>
        obtain ⟨a2, slv2, dx2, es2, m2, W2, e4, hW2, hr2, _⟩ := slot_at R xy.2 e2
        dsimp only at hW2
        rw [hW2] at hF; cases hF
        exact .cons hr2 (ih e3 pt)
    · rename_i hz
      rw [List.filter_cons_of_neg (by rw [hW]; exact hz)] at p
      exact ih h p

/-- every value has its two slots -/
theorem comp_all {C ia ib : Nat} {st : St} : ∀ {kvs : List (Int × MV)} {vs : List MV}, compL C ia ib st kvs = some vs → ∀ kv ∈ kvs, ∃ n st1, slotM C ib kv.2 st = some (.int n, st1) ∧ (n = 0 → ∃ y st2, slotM C ia kv.2 st = some (y, st2))
  | [], _, _, _, h => nomatch h
  | (k, v) :: r, vs, h, kv, hm => by
    unfold compL at h
    obtain ⟨⟨pv, st1⟩, e1, h⟩ := bind_some h
    dsimp only at h
    cases pv <;> first | (cases h; done) | skip
    rename_i n
    dsimp only at h
    split at h
    · rename_i hz
      obtain ⟨⟨yv, st2⟩, e2, h⟩ := bind_some h
      obtain ⟨ws, e3, h⟩ := Option.map_eq_some_iff.mp h
      rcases List.mem_cons.mp hm with rfl | hm
      · exact ⟨n, st1, e1, fun _ => ⟨yv, st2, e2⟩⟩
      · exact comp_all e3 kv hm
    · rename_i hz
      rcases List.mem_cons.mp hm with rfl | hm
      · exact ⟨n, st1, e1, fun q => absurd (by simp [q]) hz⟩
      · exact comp_all h kv hm

theorem isTrue_forIn {M : Model} {A : Around} {E : Value → Shared → Prop} {s : Shared} {env : Env} {c : Expr} {Q : Bool → Shared → Prop} (h : wpAny M A (isTrue c env (eval c env)) Q E s) :
    wpAny M A (forIn [c] true fun c r => if r = true then do let ok ← isTrue c env (eval c env); pure (ForInStep.yield ok) else pure (ForInStep.yield r)) Q E s := by
  rw [List.forIn_cons]
  refine wpAny_bind ?_
  rw [if_pos rfl]
  refine wpAny_bind (wpAny_mono h (fun b s' z => wpAny_pure ?_) fun _ _ z => z)
  show wpAny M A (forIn [] b _) Q E s'
  rw [List.forIn_nil]
  exact wpAny_pure z

theorem Keeps.of {s : Shared} {t : Nat} : Keeps s { s with toks := t } := ⟨s.heap, t, rfl, fun _ _ e => e⟩

theorem ev_comp {o : Expr} {x nA nB : Str} {p1 p2 p3 p4 p5 p6 px apos cpos pos : Pos} {k0 : Nat} {scope : Scope} {pl : Env → Sem Bool} {C ia ib : Nat} {f : St → Option (MV × St)} (SA : SlotK G C nA ia) (SB : SlotK G C nB ib)
    (hf : EvOk G D true cs o f) (he : MethEq o (Str.ofString "values") apos cpos [] pl)
    (hfree : ∀ y ∈ scope.names, y.2 ≠ .free) (hcell : ∀ y ∈ scope.names, y.2 ≠ .cell) (hkind : scope.kind = .function) (hnames : ∀ y ∈ scope.names, y.2 = .local → scope.names.lookup y.1 = some .local) (hx : scope.names.lookup x = some .local) (hd : (x == ("__debug__" : Str)) = false)
    (heA : ∀ env, eval (.Attribute (.Name x p1) nA p2) env = (do let ov ← eval (.Name x p1) env; standAt p2.atName; let r ← holding [ov] (getAttr ov nA true); letTemporaryGo (.Name x p1) ov r; pure r))
    (heB : ∀ env, eval (.Attribute (.Name x p3) nB p4) env = (do let ov ← eval (.Name x p3) env; standAt p4.atName; let r ← holding [ov] (getAttr ov nB true); letTemporaryGo (.Name x p3) ov r; pure r))
    (hs : ∀ env v, foldedSetIterable (.Call (.Attribute o (Str.ofString "values") apos) [] [] cpos) env v = pure v) :
    EvOk G D true cs (.ListComp (.Attribute (.Name x p1) nA p2) [⟨.Name x px, .Call (.Attribute o (Str.ofString "values") apos) [] [] cpos, [.Compare (.Attribute (.Name x p3) nB p4) [.Eq] [.Constant (.int 0) k0 p5] p6], 0⟩] scope pos) (un1 f (compM C ia ib)) := by
  intro Γ Cx as st s v st' Q R h0 q
  obtain ⟨⟨u, st₁⟩, e1, h⟩ := bind_some h0
  cases u <;> first | (cases h; done) | skip
  rename_i n
  simp only [compM, hget_eq, hset_eq, hlen_eq, happ_eq] at h
  split at h
  · rename_i kvs ep e2
    split at h
    · rename_i hlen
      obtain ⟨vs, e3, h⟩ := Option.map_eq_some_iff.mp h
      cases h
      have hh := Cx.hh rfl
      refine wpAny_ListComp hfree hkind hnames ?_ (hs _)
      refine MethodCall_ (pl := pl Γ.env) (hf Γ Cx as st s _ st₁ _ R e1 fun as₁ s₁ V p₁ R₁ hV => ?_) (he _)
      obtain ⟨a, ha, rfl⟩ := hV
      obtain ⟨ob, hob, xx⟩ := R₁.ob ha e2
      obtain ⟨kvs', m, hdict, al, u⟩ := OR.dictAt hob xx
      refine get_dict PySem.F.slot_dict_values PySem.F.type_dict_values R₁ ha (by unfold isDictK; rw [hget_eq, e2]) (callWith_method0 ?_)
      refine call_meetsIn PySem.F.slot_dict_values hdict.dictOf.typeIs PySem.F.entry_dict_values (PySem.F.args_dict_values_1 _) (meets_dict_values (intKind G.prog G.w) a (notMod R₁ ha e2)) ⟨⟨kvs', hdict.dictOf⟩, ?_⟩
      let h₂ := s₁.heap.push { cls := .type "dict_values", data := .fields #[.ref a] }
      have hd2 : h₂.DictAt (intKind G.prog G.w) a kvs' m := hdict.push _
      refine wpAny_pyIter_values (s := { s₁ with heap := h₂ }) ⟨_, Heap.get?_push_size _ rfl, rfl, rfl⟩ hd2 ?_
      let h₃ := h₂.push { cls := .type "dict_valueiterator", data := .fields #[.ref a, .int 0 0, .int kvs'.length 0, .int m 0] }
      have k3 : ∀ b o, s₁.heap.get? b = some o → h₃.get? b = some o := fun b o e => Heap.get?_push_of_some _ (Heap.get?_push_of_some _ e)
      have hI : h₂.objs.size = s₁.heap.objs.size + 1 := Heap.size_push ..
      have hne : a ≠ h₂.objs.size := Nat.ne_of_lt (hd2.lt_size)
      have W := Walks.dictValues (prog := G.prog) (w := G.w) (knd := intKind G.prog G.w) hh h₂.objs.size a hne kvs' m
      obtain ⟨mm, F, l⟩ := R₁.fr
      -- the frame's facts at every later heap
      have later : ∀ h' : Heap, (∀ b o, b ∉ [h₂.objs.size] → h₃.get? b = some o → h'.get? b = some o) → (∀ b o, s₁.heap.get? b = some o → h'.get? b = some o) := fun h' k b o e =>
        k b o (by simp; rw [hI]; exact Nat.ne_of_lt (Nat.lt_succ_of_lt (Heap.lt_size e))) (k3 b o e)
      have slotRule : ∀ {i : Nat} {nm : Str} (S : SlotK G C nm i) {y : MV} {st2 : St} {kv : Int × MV} {kv' : Int × Value} (hkv : KV as₁ kv kv') (hsl : slotM C i kv.2 st₁ = some (y, st2)) (C' : Addr) (s₃ : Shared) (m₃ : Str → Option Value) (pe pa : Pos) (E' : Value → Shared → Prop) (Q' : Value → Shared → Prop),
          s₃.heap.Ns C' m₃ → m₃ x = some kv'.2 → (∀ b o, s₁.heap.get? b = some o → s₃.heap.get? b = some o) →
          (∀ env, eval (.Attribute (.Name x pe) nm pa) env = (do let ov ← eval (.Name x pe) env; standAt pa.atName; let r ← holding [ov] (getAttr ov nm true); letTemporaryGo (.Name x pe) ov r; pure r)) →
          (∀ Y, slotAt s₁.heap i kv'.2 = some Y → VR as₁ y Y → Q' Y { s₃ with toks := s₃.toks + 1 }) →
          wpAny (model G.prog G.w) Γ.A (eval (.Attribute (.Name x pe) nm pa) (compEnv scope C' Γ.env)) Q' E' s₃ := by
        intro i nm S y st2 kv kv' hkv hsl C' s₃ m₃ pe pa E' Q' hns hm3 hk heq hq
        obtain ⟨b, slv, dx, es, m4, W4, hV4, hW4, hr4, ho4, hod4, hj4, hb4, hdx4⟩ := slot_at R₁ hkv.2 hsl
        obtain ⟨p, t1, t2, t3, t4, t5, t6⟩ := S.at_
        have F3 : Fr R₁.h₀ Γ.L s₃.heap mm := ⟨F.ns.at' fun o e => hk _ o e, fun b o e => hk b o (F.keep b o e), F.above⟩
        refine Attribute_any_ (wpAny_Name (wpAny_loadName_local (env := compEnv scope C' Γ.env) hkind hx hns hm3 ?_) hd) (heq _)
        rw [hV4]
        have I : PySem.W.InstAt s₃.heap b { cls := .ref C, dict := some dx, data := .plain, slots := slv } C (some (dictOf es m4)) := ⟨hk _ _ ho4, rfl, rfl, hk _ _ hod4⟩
        exact get_slot F3 (R₁.X Cx.ok) I S.get S.cls t1 t2 t3 t4 hj4 (handed_vr hr4) (hq W4 hW4 hr4)
      have kvAt : ∀ (i : Nat) (V : Value), (∃ k, kvs'[i]? = some (k, V)) → ∃ kv kv', kv ∈ kvs ∧ KV as₁ kv kv' ∧ kv'.2 = V := by
        rintro i V ⟨k, hkV⟩
        have hi : i < kvs.length := by rw [al.length]; exact (List.getElem?_eq_some_iff.mp hkV).1
        obtain ⟨kv', g1, g2⟩ := al.get (i := i) (a := kvs[i]) (by simp [hi])
        rw [hkV] at g1; cases g1
        exact ⟨kvs[i], (k, V), List.getElem_mem hi, g2, rfl⟩
      refine comp_block_walk (RR := fun acc cenv r s' => ∃ m, s'.heap.Ns cenv.locals m ∧ ∀ h', Heap.SameBut cenv.locals s'.heap h' →
        match r with | .ok _ => Q acc { s' with heap := h' } | .error x => wpAny (model G.prog G.w) Γ.A (passOn "comprehension.variables-let-go" x cenv) Q bot { s' with heap := h' })
        W (by rw [← al.length, sizeLine_eq]; omega) (fun V => isZero (slotAt s₁.heap ib V)) (fun V Y => slotAt s₁.heap ia V = some Y) hcell hkind hx ⟨⟨_, Heap.get?_push_size _ rfl, rfl, rfl⟩, hd2.push _⟩ ?_ ?_ ?_
      · intro b hb
        have : h₃.objs.size = h₂.objs.size + 1 := Heap.size_push ..
        rcases List.mem_cons.mp hb with rfl | hb
        · show h₂.objs.size < h₃.objs.size; rw [this]; exact Nat.lt_succ_self _
        · rw [List.mem_singleton.mp hb]
          show a < h₃.objs.size; rw [this]; exact Nat.lt_succ_of_lt hd2.lt_size
      · constructor
        · intro C' i V s₃ m₃ E' hP hns hm3 hk htk
          obtain ⟨kv, kv', hmem, hkv, rfl⟩ := kvAt i V hP
          obtain ⟨nn, st2, g1, g2⟩ := comp_all e3 kv hmem
          refine isTrue_forIn (wpAny_isTrue_Compare1 ?_ rfl)
          refine slotRule SB hkv g1 C' s₃ m₃ p3 p4 E' _ hns hm3 (later _ hk) heB fun Y hY hr => ?_
          obtain ⟨t, rfl⟩ := hr
          refine wpAny_Constant_int (eq_int (wpAny_truthy_bool ⟨?_, s₃.heap, _, rfl, fun _ _ e => e⟩))
          rw [hY]; rfl
        · intro C' i V s₃ m₃ E' hP hz hns hm3 hk htk
          obtain ⟨kv, kv', hmem, hkv, rfl⟩ := kvAt i V hP
          obtain ⟨nn, st2, g1, g2⟩ := comp_all e3 kv hmem
          obtain ⟨b, slv, dx, es, m4, W4, hV4, hW4, hr4, _⟩ := slot_at R₁ hkv.2 g1
          obtain ⟨t, rfl⟩ := hr4
          rw [hW4] at hz
          obtain ⟨y, st3, g3⟩ := g2 (by simpa [isZero] using hz)
          refine slotRule SA hkv g3 C' s₃ m₃ p1 p2 E' _ hns hm3 (later _ hk) heA fun Y hY hr => ?_
          exact ⟨hY, s₃.heap, _, rfl, fun _ _ e => e⟩
      · intro B C' h' tk m' ys ws hB hC' hBC hns hl hpl hlen' hP hF hk
        refine ⟨m', hns, fun h'' hs'' => ?_⟩
        have keep : ∀ b o, s₁.heap.get? b = some o → h''.get? b = some o := fun b o e => by
          refine hs''.extBut b o ?_ (later h' hk b o e)
          rintro rfl
          have := k3 _ _ e
          rw [hC'] at this; cases this
        have hwv : ws = kvs'.map (·.2) := by
          apply List.ext_getElem?
          intro j
          cases hj : ws[j]? with
          | none =>
            have h1 := List.getElem?_eq_none_iff.mp hj
            rw [List.getElem?_eq_none (by simp; omega)]
          | some V =>
            obtain ⟨k, hkV⟩ := hP j V hj
            simp [hkV]
        obtain ⟨nn, hD⟩ := hpl.extBut hs''.extBut hBC
        have hfresh : s₁.heap.get? B = none := by
          cases g : s₁.heap.get? B with
          | none => rfl
          | some o => have := k3 _ _ g; rw [hB] at this; cases this
        have hBL : B ≠ Γ.L := by
          rintro rfl
          obtain ⟨oL, _, _, hL, _⟩ := F.ns
          rw [hfresh] at hL; cases hL
        have hB0 : R₁.h₀.get? B = none := by
          cases g : R₁.h₀.get? B with
          | none => rfl
          | some o => have := F.keep _ _ g; rw [hfresh] at this; cases this
        refine q (as₁ ++ [B]) _ _ (p₁.trans (List.prefix_append ..)) ⟨R₁.h₀, R₁.gd, R₁.gens, R₁.drawn, R₁.os, R₁.low, ⟨mm, ⟨F.ns.at' fun o e => keep _ o e, fun b o e => keep b o (F.keep b o e), F.above⟩, l.mono (List.prefix_append ..)⟩, ?_⟩ (VR.last R₁.len.symm)
        refine R₁.hp.add (fun i b mb x1 x2 x3 => ?_) (fun b _ _ o e => keep b o e) hD ⟨ys, nn, rfl, ?_⟩ hBL hB0 (by intro z; cases z)
        · obtain ⟨ob2, hob2, _⟩ := R₁.hp.ob i b mb x1 x2 x3
          rintro rfl
          rw [hfresh] at hob2; cases hob2
        · rw [hwv] at hF
          exact (comp_pairs R₁ al e3 hF).imp fun _ _ => VR.mono (List.prefix_append ..)
    · cases h
  · cases h
end
end
end Mine

set_option Elab.async false
set_option maxRecDepth 100000
set_option maxHeartbeats 4000000
set_option linter.all false
namespace Mine
open PySem PySem.W PySem.Spec PySem.Calls PyProof.Rows
noncomputable section

/-! it.__next__ of a list iterator -/
theorem li_slot_ga : Slot "list_iterator" "__getattribute__" "object.__getattribute__" :=
  .of (owner := "object") (n := "__getattribute__") (by rw [typeLookup_type, builtinLookup_eq_fast]; kernel_rfl) (by decide +kernel) (by decide +kernel) (by decide +kernel)
    (by first | exact .inl (by decide +kernel) | exact .inr (by decide +kernel)) (by rw [isSubtype_type]; kernel_rfl)
theorem li_entry_ga : entryFor table "object.__getattribute__" = some Builtin.«object.__getattribute__» := entryFor_of_tree (by kernel_rfl)
theorem li_args_ga (a b : Value) : argsOk "object.__getattribute__" ⟨[a, b], []⟩ := by unfold argsOk; kernel_rfl
theorem li_getattr : typeLookup (.type "list_iterator") "__getattr__" = pure none := by rw [typeLookup_type, builtinLookup_eq_fast]; kernel_rfl
theorem li_next_type : typeOf (.builtin "list_iterator.__next__") = pure (.type "wrapper_descriptor") := by show builtinType _ = _; rw [builtinType_eq_fast]; kernel_rfl
theorem wd_slot_get : Slot "wrapper_descriptor" "__get__" "wrapper_descriptor.__get__" :=
  .of (owner := "wrapper_descriptor") (n := "__get__") (by rw [typeLookup_type, builtinLookup_eq_fast]; kernel_rfl) (by decide +kernel) (by decide +kernel) (by decide +kernel)
    (by first | exact .inl (by decide +kernel) | exact .inr (by decide +kernel)) (by rw [isSubtype_type]; kernel_rfl)
theorem wd_entry_get : entryFor table "wrapper_descriptor.__get__" = some Builtin.«wrapper_descriptor.__get__» := entryFor_of_tree (by kernel_rfl)
theorem wd_args_get (a b c : Value) : argsOk "wrapper_descriptor.__get__" ⟨[a, b, c], []⟩ := by unfold argsOk; kernel_rfl
theorem wd_set : typeLookup (.type "wrapper_descriptor") "__set__" = pure none := by rw [typeLookup_type, builtinLookup_eq_fast]; kernel_rfl
theorem wd_delete : typeLookup (.type "wrapper_descriptor") "__delete__" = pure none := by rw [typeLookup_type, builtinLookup_eq_fast]; kernel_rfl
theorem li_sub : isSubtype (.type "list_iterator") (.type "list_iterator") = pure true := by rw [isSubtype_type]; kernel_rfl

abbrev wrapObj (it : Addr) : Obj := { cls := .type "method-wrapper", data := .fields #[.builtin "list_iterator.__next__", .ref it] }

theorem wd_get (it : Addr) : Meets (Builtin.«wrapper_descriptor.__get__» ⟨[.builtin "list_iterator.__next__", .ref it, .type "list_iterator"], []⟩)
    (fun _ R s => s.TypeIs (.ref it) "list_iterator" ∧ R (.ok (.ret (.ref s.heap.objs.size))) { s with heap := s.heap.push (wrapObj it) }) :=
  Meets.of_wp fun prog w A R s hs => by
    obtain ⟨hp, g, d, tk, os⟩ := s
    obtain ⟨hT, hs⟩ := hs
    have f1 := li_sub
    have f7 : (".".intercalate ("list_iterator.__next__".cutAt '.').dropLast) = "list_iterator" := by decide +kernel
    unfold Builtin.«wrapper_descriptor.__get__»
    repeat (any_goals (first | assumption | wp_step))
    rw [f7]
    repeat (any_goals (first | assumption | wp_step))
    exact ⟨_, rfl, hs⟩

theorem ga_next (it : Addr) (tk0 : Tok) (vs : Array Value) : Meets (Builtin.«object.__getattribute__» ⟨[.ref it, .str "__next__" tk0], []⟩)
    (fun _ R s => s.heap.get? it = some { cls := .type "list_iterator", data := .fields vs } ∧ R (.ok (.ret (.ref s.heap.objs.size))) { s with heap := s.heap.push (wrapObj it) }) :=
  Meets.of_wp fun prog w A R s hs => by
    obtain ⟨hp, g, d, tk, os⟩ := s
    obtain ⟨hx, hs⟩ := hs
    have hT : (⟨hp, g, d, tk, os⟩ : Shared).TypeIs (.ref it) "list_iterator" := ⟨_, hx, rfl⟩
    have f1 := li_sub
    have f2 := slot_listiter_next.lookup
    have f3 := li_next_type
    have f4 := wd_slot_get.lookup
    have f5 := wd_set
    have f6 := wd_delete
    have hT2 : (⟨hp, g, d, tk, os⟩ : Shared).TypeIs (.builtin "list_iterator.__next__") "wrapper_descriptor" := by
      show typeOf _ = _
      exact li_next_type
    unfold Builtin.«object.__getattribute__»
    repeat (any_goals (first | assumption | ((with_reducible show wpAny _ _ (call (Value.builtin "wrapper_descriptor.__get__") _ _) _ _ _); refine call_meets wd_slot_get hT2 wd_entry_get (wd_args_get _ _ _) (wd_get it) ⟨hT, ?_⟩) | wp_step))
    exact wpAny_pure ⟨_, rfl, hs⟩
end
end Mine

set_option Elab.async false
set_option maxRecDepth 100000
set_option maxHeartbeats 4000000
set_option linter.all false
namespace Mine
open PySem PySem.W PySem.Spec PySem.Calls PyProof.Rows
noncomputable section

theorem getAttr_next {prog : Program} {w : World} {A : Around} {E : Value → Shared → Prop} {s : Shared} {it : Addr} {vs : Array Value} {Q : Value → Shared → Prop}
    (hx : s.heap.get? it = some { cls := .type "list_iterator", data := .fields vs })
    (h : ∀ tk, Q (.ref s.heap.objs.size) { s with heap := s.heap.push (wrapObj it), toks := tk }) : wpAny (model prog w) A (getAttr (.ref it) "__next__" true) Q E s := by
  obtain ⟨hp, g, d, tk, os⟩ := s
  have hT : ∀ tk', (⟨hp, g, d, tk', os⟩ : Shared).TypeIs (.ref it) "list_iterator" := fun _ => ⟨_, hx, rfl⟩
  have f3 := li_slot_ga.lookup
  have f4 := li_slot_ga.bind (.ref it)
  have f5 := li_getattr
  unfold getAttr getAttrBy
  repeat (any_goals (first | assumption | exact hT _ | ((with_reducible show wpAny _ _ (call (Value.builtin "object.__getattribute__") _ _) _ _ _); refine call_meets li_slot_ga (hT _) li_entry_ga (li_args_ga _ _) (ga_next it _ vs) ⟨hx, ?_⟩) | wp_step))
  show wpAny _ _ (handedOut (.ref _)) Q E _
  exact wpAny_pure (h _)

/-- the raised StopIteration -/
structure Stopped (h₁ h' : Heap) (e : Addr) : Prop where
  keeps : ∀ b o, h₁.get? b = some o → h'.get? b = some o
  new : h₁.get? e = none
  there : ∃ oe vs a0, h'.get? e = some oe ∧ oe.cls = .type "StopIteration" ∧ oe.data = .fields vs ∧ vs[1]? = some .none ∧ vs[0]? = some a0

section
variable {prog : Program} {w : World} {A : Around} {E : Value → Shared → Prop} {s : Shared} {wr it l : Addr} {i : Nat} {items : Array Value}
theorem quiet_next {as : Args} : (Code.builtin "list_iterator.__next__" as).quiet = true := Code.quiet_builtin _ (by decide +kernel)
theorem check_next : checkBoundCall "list_iterator.__next__" ⟨[.ref it], []⟩ = pure () := by first | kernel_rfl | rfl

theorem call_wrap {Q : Value → Shared → Prop} (hw : s.heap.get? wr = some (wrapObj it))
    (tree : wpAny (model prog w) A.in1 (Builtin.«list_iterator.__next__» ⟨[.ref it], []⟩) (fun fin s' => ∃ v, fin = .done (.ret v) ∧ Q v s') E s) : wpAny (model prog w) A (call (.ref wr) []) Q E s := by
  refine wpAny_call (codeAny_of_tree ?_)
  show wpAny _ A.in1 (callAny (.ref wr) ⟨[], []⟩) _ _ s
  simp only [callAny]
  refine wpAny_bind (wpAny_load hw ?_)
  simp only [wrapObj, show (Value.type "method-wrapper" == Value.type "method" || Value.type "method-wrapper" == Value.type "builtin_function_or_method" || Value.type "method-wrapper" == Value.type "method-wrapper") = true by decide, if_true]
  refine KFB.if_so (by decide) ?_
  refine wpAny_bind (wpAny_of_eq (a := ()) check_next ?_)
  refine wpAny_bind (wpAny_pure (wpAny_pure ?_))
  refine ⟨quiet_next, codeAny_builtin entry_listiter_next (wpAny_mono tree (fun fin s' h' => ?_) fun _ _ x => x)⟩
  obtain ⟨v, rfl, hv⟩ := h'
  exact hv

theorem next_item {x : Value} {P : Fin → Shared → Prop} (hit : s.heap.IsListIter it l i) (hl : s.heap.IsList l items) (hx : items[i]? = some x)
    (hQ : ∀ h', h'.IsListIter it l (i + 1) → Heap.SameBut it s.heap h' → P (.done (.ret x)) { s with heap := h' }) :
    wpAny (model prog w) A (Builtin.«list_iterator.__next__» ⟨[.ref it], []⟩) P E s := by
  obtain ⟨o, ho, hc, hd⟩ := id hit
  obtain ⟨ol, hol, _, nl, hdl⟩ := hl
  show wpAny _ _ (field (.ref it) 0 >>= _) _ _ s
  refine wpAny_bind (wpAny_field ho hd (x := .ref l) rfl ?_)
  show wpAny _ _ (if (Value.ref l == Value.none) = true then _ else _) _ _ s
  rw [if_neg (show ¬ ((Value.ref l == Value.none) = true) from Bool.false_ne_true)]
  show wpAny _ _ (field (.ref it) 1 >>= _) _ _ s
  refine wpAny_bind (wpAny_field ho hd (x := .int i 0) rfl ?_)
  show wpAny _ _ (seqItems? (.ref l) >>= _) _ _ s
  refine wpAny_bind (wpAny_seqItems hol hdl ?_)
  simp only [Int.toNat_natCast, hx]
  refine wpAny_bind (wpAny_setField ho hd (by simp) (wpAny_pure (hQ _ ?_ (Heap.SameBut.update ..))))
  exact ⟨_, Heap.get?_update_self _ ho (Obj.isFreed_of_fields (Obj.data_mapFields hd _)), (Obj.cls_mapFields ..).trans hc, by
    rw [Obj.data_mapFields hd]; simp [rawInt]⟩

theorem next_end {P : Fin → Shared → Prop} (hh : A.handled = none) (hit : s.heap.IsListIter it l i) (hl : s.heap.IsList l items) (hx : items[i]? = none)
    (hQ : ∀ h₁ h' e, Heap.SameBut it s.heap h₁ → Stopped h₁ h' e → E (.ref e) { s with heap := h' }) :
    wpAny (model prog w) A (Builtin.«list_iterator.__next__» ⟨[.ref it], []⟩) P E s := by
  obtain ⟨o, ho, hc, hd⟩ := id hit
  obtain ⟨ol, hol, _, nl, hdl⟩ := hl
  show wpAny _ _ (field (.ref it) 0 >>= _) _ _ s
  refine wpAny_bind (wpAny_field ho hd (x := .ref l) rfl ?_)
  show wpAny _ _ (if (Value.ref l == Value.none) = true then _ else _) _ _ s
  rw [if_neg (show ¬ ((Value.ref l == Value.none) = true) from Bool.false_ne_true)]
  show wpAny _ _ (field (.ref it) 1 >>= _) _ _ s
  refine wpAny_bind (wpAny_field ho hd (x := .int i 0) rfl ?_)
  show wpAny _ _ (seqItems? (.ref l) >>= _) _ _ s
  refine wpAny_bind (wpAny_seqItems hol hdl ?_)
  simp only [Int.toNat_natCast, hx]
  refine wpAny_bind (wpAny_rule (wpAny_bind (wpAny_setField ho hd (by simp) ?_)))
  show wpAny _ _ (newExc (.type "StopIteration") [] >>= _) _ _ _
  refine wpAny_bind ?_
  simp only [newExc, newTuple]
  refine wpAny_bind (wpAny_newObj_type ?_ (by size_fits))
  refine wpAny_bind (m := firstArgMember _ _) (wpAny_of_eq (a := Value.none) (by first | rfl | (simp only [firstArgMember]; rfl)) ?_)
  refine wpAny_newObj_type ?_ (by size_fits)
  simp only [raiseNew]
  refine wpAny_bind (wpAny_handled ?_)
  rw [hh]
  refine wpAny_bind (wpAny_pure (wpAny_throw ?_))
  refine hQ _ _ _ (Heap.SameBut.update ..) ⟨fun b o hb => Heap.get?_push_of_some _ (Heap.get?_push_of_some _ hb), Heap.get?_none_of_le (by simp), _, _, _, Heap.get?_push_size _ rfl, rfl, rfl, rfl, rfl⟩
end
end
end Mine

set_option Elab.async false
set_option maxRecDepth 100000
set_option maxHeartbeats 1000000
set_option linter.all false
namespace Mine
open PySem PySem.W PySem.Spec PySem.Calls PyProof.Rows
noncomputable section

section
variable {G : Gl} {D : Nat} {hn : Bool} {cs : Scope}

/-! iter(..).__next__ -/
noncomputable def wrapM (v : MV) (st : St) : Option (MV × St) := match v with
  | .ref n => match hget st.H n with
    | some (.freshIt l) => some (.ref (hlen st.H), { st with H := happ (hset st.H n (.listIt l 0)) (.wrap n) })
    | _ => none
  | _ => none
theorem ev_next {o : Expr} {pos : Pos} {f : St → Option (MV × St)} (hf : EvOk G D hn cs o f)
    (he : ∀ env, eval (.Attribute o (Str.ofString "__next__") pos) env = (do let ov ← eval o env; standAt pos.atName; let r ← holding [ov] (getAttr ov "__next__" true); letTemporaryGo o ov r; pure r)) : EvOk G D hn cs (.Attribute o (Str.ofString "__next__") pos) (un1 f wrapM) := by
  intro Γ C as st s v st' Q R h q
  obtain ⟨⟨u, st₁⟩, e1, h⟩ := bind_some h
  refine Attribute_any_ (hf Γ C as st s u st₁ _ R e1 fun as' s' V p R' hv => ?_) (he _)
  cases u <;> first | (cases h; done) | skip
  rename_i n
  obtain ⟨a, ha, rfl⟩ := hv
  simp only [wrapM, hget_eq, hset_eq, hlen_eq, happ_eq] at h
  split at h
  · rename_i l e
    cases h
    obtain ⟨ob, hob, b, hb, rfl⟩ := R'.ob ha e
    refine getAttr_next hob fun tk => ?_
    have R1 := R'.change (s := s') (h' := s'.heap) ha e (fun _ _ _ x => x) hob (mo := .listIt l 0) ⟨b, hb, rfl, rfl⟩
    have R2 := R1.alloc (o := wrapObj a) (mo := .wrap n) rfl ⟨a, getElem?_pre (List.prefix_append ..) ha, rfl⟩
    refine q _ _ _ (p.trans (List.prefix_append ..)) (R2.toks tk) ?_
    have := VR.last (as := as') (a := s'.heap.objs.size) (n := st₁.H.length) R'.len.symm
    exact this
  · cases h

theorem HRel.keepIn {h₀ h h' : Heap} {L : Addr} {as : List Addr} {H : List MO} (R : HRel G h₀ L as H h) (k : ∀ a, a ≠ L → h₀.get? a = none → ∀ o, h.get? a = some o → h'.get? a = some o) : HRel G h₀ L as H h' :=
  ⟨R.nod, R.len, fun i a mo e f g => let ⟨o, x, y, z, u, v⟩ := R.ob i a mo e f g; ⟨o, k a z u o x, y, z, u, v⟩⟩

/-- what stays when the frames were looked at -/
theorem Rel.looked {Γ : Fx} (ok : FxOk G D Γ) {as : List Addr} {st : St} {s : Shared} (R : Rel G Γ as st s) {h₆ : Heap} (hs : (hideAll s.heap (frs (Γ.env :: Γ.outer))).StaysIn h₆) (hu : s.heap.UpToSlots h₆) : Rel G Γ as st { s with heap := h₆ } := by
  obtain ⟨m, F, l⟩ := R.fr
  have B := R.B ok
  have kp : ∀ b o, R.h₀.get? b = some o → b ∉ frs Γ.outer → h₆.get? b = some o := fun b o e hb => hs b o (hideAll_get _ (F.keep b o e) fun hm => by
    have hm' : b ∈ Γ.L :: frs Γ.outer := hm
    rcases List.mem_cons.mp hm' with rfl | z
    · exact absurd (Nat.lt_of_lt_of_le (Heap.lt_size e) F.above) (Nat.lt_irrefl _)
    · exact hb z)
  obtain ⟨h₁, gd, F₁, no⟩ := reground R.gd F (hu.ns F.ns) kp (fun b o e => by
    by_cases hb : b ∈ frs Γ.outer
    · obtain ⟨_, o', ho', hd⟩ := B.frames.mem hb
      rw [e] at ho'; cases ho'
      exact hu b o (F.keep b o e) hd
    · exact ⟨o.slots, kp b o e hb⟩)
  refine ⟨h₁, gd, R.gens, R.drawn, R.os, R.low, ⟨m, F₁, l⟩, (R.hp.keepIn fun a ha h0 o ho => ?_).rebase fun a ha h0 => ⟨ha, no a h0⟩⟩
  refine hs a o (hideAll_get _ ho fun hm => ?_)
  have hm' : a ∈ Γ.L :: frs Γ.outer := hm
  rcases List.mem_cons.mp hm' with rfl | z
  · exact ha rfl
  · obtain ⟨_, o', ho', _⟩ := B.frames.mem z
    rw [h0] at ho'; cases ho'

theorem st_isExc : isSubtype (.type "StopIteration") (.type "BaseException") = pure true := by rw [isSubtype_type]; kernel_rfl
theorem st_notTuple : isSubtype (.type ((Manifest.find? "StopIteration").elim "type" fun x => x.metatype)) (.type "tuple") = pure false := by
  rw [isSubtype_type]; kernel_rfl
theorem st_self : isSubtype (.type "StopIteration") (.type "StopIteration") = pure true := by rw [isSubtype_type]; kernel_rfl

theorem Cx.marked {Γ : Fx} (C : Cx G D true cs Γ) (x : Option Value) : Cx G D false cs { Γ with A := Γ.A.mark x } :=
  ⟨⟨C.ok.B, C.ok.X, C.ok.T, C.ok.fr, C.ok.kind, C.ok.nd, C.ok.depth, C.ok.units, C.ok.small, C.ok.scr⟩, C.sc, fun h => by cases h⟩

theorem caught_stop {Γ : Fx} (C : Cx G D true cs Γ) {as : List Addr} {st : St} {s : Shared} (R : Rel G Γ as st s) {h' : Heap} {e : Addr} {x : Str} {np pos : Pos} {b₀ : Stmt} {suite : List Stmt} {rest : List ExceptHandler} {Q : Flow → Shared → Prop} {E : Value → Shared → Prop}
    (b : BName G cs x (.type "StopIteration")) (S : Stopped s.heap h' e)
    (k : ∀ h₆, Rel G Γ as st { s with heap := h₆ } → wpAny (model G.prog G.w) (Γ.A.mark (some (.ref e))) (execs (b₀ :: suite) Γ.env) Q bot { s with heap := h₆ }) :
    wpAny (model G.prog G.w) Γ.A (noteFrame (.ref e) Γ.env) (fun _ s₂ => wpAny (model G.prog G.w) Γ.A (setFlight (.ref e) none) (fun _ s₃ =>
      wpAny (model G.prog G.w) Γ.A (handleBy (.ref e) Γ.env (.ExceptHandler (some (.Name x np)) none (b₀ :: suite) pos :: rest)) Q E s₃) E s₂) E { s with heap := h' } := by
  obtain ⟨m, F, l⟩ := R.fr
  have ok := C.ok
  obtain ⟨oe, vs, a0, he, hc, hd, h1, h0⟩ := S.there
  have K' := pushX (env := Γ.env) (R.B ok) F rfl ok.kind
  have hin : ∀ env ∈ (Γ.env :: Γ.outer), ∀ b, env.frame = some b → b ∈ frs (Γ.env :: Γ.outer) := fun env he b hb => List.mem_filterMap.mpr ⟨env, he, hb⟩
  have hl : s.heap.FunFrames (hideAll s.heap (frs (Γ.env :: Γ.outer))) (Γ.env :: Γ.outer) := funFrames_hide K'.frames hin
  have hl' : h'.FunFrames (hideAll s.heap (frs (Γ.env :: Γ.outer))) (Γ.env :: Γ.outer) := hl.of_keeps fun b o hb _ => ⟨o, S.keeps b o hb, rfl⟩
  have hkb : (hideAll s.heap (frs (Γ.env :: Γ.outer))).StaysIn h' := fun b o q => S.keeps b o (of_hideAll _ q)
  have hen : (hideAll s.heap (frs (Γ.env :: Γ.outer))).get? e = none := by
    cases q : (hideAll s.heap (frs (Γ.env :: Γ.outer))).get? e with
    | none => rfl
    | some o => have := of_hideAll _ q; rw [S.new] at this; cases this
  unfold noteFrame
  simp only [show Γ.env.frame = some Γ.L from rfl]
  refine wpAny_bind (wpAny_field he hd h1 ?_)
  rw [if_neg (by decide)]
  refine wpAny_entryW ok.fr hl' rfl he hkb hen hd (Array.getElem?_eq_some_iff.mp h1).1 h0 fun h₄ hN => ?_
  obtain ⟨k1, k2, k3, k4⟩ := hN
  have u4 : s.heap.UpToSlots h₄ := (Heap.UpToSlots.of_keeps S.keeps).trans k4
  have held : Heap.HeldW (hideAll s.heap (frs (Γ.env :: Γ.outer))) (Γ.env :: Γ.outer) e oe.cls a0 Γ.L h₄ := ⟨k1, hen, k2, k3⟩
  refine wpAny_landsW held fun h₅ hfl u5 => ?_
  have u5' := u4.trans u5
  obtain ⟨ob, hob, hobc⟩ := hfl.there
  rw [hc] at hobc
  have R5 := R.looked ok hfl.1 u5'
  refine wpAny_handleBy_builtin (X := "StopIteration") (T := "StopIteration") (b := true) st_isExc st_notTuple st_self ?_
  refine name_b b (C.marked (some (.ref e))) (R5.other (A' := Γ.A.mark (some (.ref e)))) ⟨rfl, ⟨ob, hob, hobc⟩, ?_⟩
  rw [if_pos rfl]
  refine lands_againW hfl fun h₆ hfl6 u6 => ?_
  exact botE (k h₆ (R.looked ok hfl6.1 (u5'.trans u6)))
end
end
end Mine

set_option Elab.async false
set_option maxRecDepth 100000
set_option maxHeartbeats 1000000
set_option linter.all false
namespace Mine
open PySem PySem.W PySem.Spec PySem.Calls PyProof.Rows
noncomputable section

section
variable {G : Gl} {D : Nat} {hn : Bool} {cs : Scope}

theorem callWith_wrap {M : Model} {A : Around} {E : Value → Shared → Prop} {s : Shared} {pos : Pos} {u it : Addr} {env : Env} {Q : Value → Shared → Prop} (ho : s.heap.get? u = some (wrapObj it))
    (hcall : wpAny M A (call (.ref u) []) Q E s) : wpAny M A (callWith pos (.ref u) [] (backTo pos (starEach [] env)) []) Q E s := by
  unfold callWith
  refine wpAny_bind (wpAny_holding (evalArgs_nil3 (wpAny_bind (wpAny_standAt ?_))))
  refine wpAny_bind (m := keeperOf (.ref u)) ?_
  unfold keeperOf
  refine wpAny_bind (wpAny_load ho ?_)
  simp only [wrapObj, show (Value.type "method-wrapper" != Value.type "method") = true by decide, show (Value.type "method-wrapper" == Value.type "builtin_function_or_method" || Value.type "method-wrapper" == Value.type "method-wrapper") = true by decide, if_true]
  refine wpAny_pure ?_
  exact wpAny_bind (wpAny_mono hcall (fun r s₂ hr => wpAny_bind (wpAny_holding (wpAny_point (wpAny_pure hr)))) fun _ _ x => x)

noncomputable def tryM (k : Nat) (f : St → Option (MV × St)) (hb : St → Option (Fl × St)) (st : St) : Option (Fl × St) := (f st).bind fun x => match x.1 with
  | .ref n => match hget x.2.H n with
    | some (.wrap it) => match hget x.2.H it with
      | some (.listIt l i) => match hget x.2.H l with
        | some (.list vs) => match vs[i]? with
          | some v => (setLoc k v { x.2 with H := hset x.2.H it (.listIt l (i + 1)) }).map fun r => (.brk, r)
          | none => hb { x.2 with H := hset x.2.H it .junk }
        | _ => none
      | _ => none
    | _ => none
  | _ => none

theorem s_tryNext (k : Nat) {x y : Str} {px pa pc pb ph np pos : Pos} {e : Expr} {b₀ : Stmt} {suite : List Stmt} {f : St → Option (MV × St)} {hb : St → Option (Fl × St)} (hk : cs.names[k]? = some (x, .local)) (hf : EvOk G D true cs e f) (hc : CallEq e [] pc)
    (hs : ∀ env, swapsWith (.Call e [] [] pc) (some (.Name x px)) pa.line env = pure false) (b : BName G cs y (.type "StopIteration")) (hh : BOk G D false cs (b₀ :: suite) hb) :
    SOk G D true cs (.Try [.Assign [.Name x px] (.Call e [] [] pc) pa, .Break pb] [.ExceptHandler (some (.Name y np)) none (b₀ :: suite) ph] [] [] pos) (tryM k f hb) := by
  intro Γ C as st s v st' Q R h q
  obtain ⟨⟨u, st₁⟩, e1, h⟩ := bind_some h
  dsimp only at h
  cases u <;> first | (cases h; done) | skip
  rename_i n
  dsimp only at h
  simp only [hget_eq, hset_eq] at h
  split at h
  · rename_i it e2
    split at h
    · rename_i l i e3
      split at h
      · rename_i vs e4
        refine wpAny_Try_except (wpAny_execs_cons (wpAny_Assign_Name (Call_ (botE (hf Γ C as st s _ st₁ _ R e1 fun as' s' V p R' hv => ?_)) (hc _)) (hs _)))
        obtain ⟨wr, hwr, rfl⟩ := hv
        obtain ⟨ow, how, I, hI, rfl⟩ := R'.ob hwr e2
        obtain ⟨oi, hoi, a, ha, c1, c2⟩ := R'.ob hI e3
        obtain ⟨ol, hol, items, n', rfl, al⟩ := R'.ob ha e4
        have hit : s'.heap.IsListIter I a i := ⟨oi, hoi, c1, c2⟩
        have hl : s'.heap.IsList a items := ⟨_, hol, rfl, n', rfl⟩
        refine callWith_wrap how (call_wrap how ?_)
        cases q1 : vs[i]? with
        | some w =>
          rw [q1] at h
          obtain ⟨st₂, e5, h⟩ := Option.map_eq_some_iff.mp h
          cases h
          obtain ⟨W, hW, hw⟩ := al.get q1
          refine next_item hit hl (by simpa using hW) fun h' hit' hsb => ⟨W, rfl, ?_⟩
          obtain ⟨o', ho', r1, r2⟩ := hit'
          unfold setLoc at e5
          try simp only [hget_eq, hset_eq] at e5
          split at e5
          · rename_i hlt
            cases e5
            refine store_loc hk C (R'.change (mo := .listIt l (i + 1)) hI e3 hsb.extBut ho' ⟨a, ha, r1, r2⟩) hlt hw fun s'' R'' => ?_
            exact wpAny_execs_cons (wpAny_Break (q as' s'' .brk p R'' rfl))
          · cases e5
        | none =>
          rw [q1] at h
          refine next_end (C.hh rfl) hit hl (by simpa using al.get_none q1) fun h₁ h' e hsb S => ?_
          have R1 := R'.kill hI e3 hsb.extBut
          refine caught_stop (s := { s' with heap := h₁ }) C R1 b S fun h₆ R6 => ?_
          exact hh { Γ with A := Γ.A.mark (some (.ref e)) } (C.marked _) as' _ _ v st' _ R6.other h fun as2 s2 V p2 R2 fr => q as2 s2 V (p.trans p2) R2.other' fr
      · cases h
    · cases h
  · cases h

/-! small things -/
theorem b_none {es : List Stmt} : BOk G D hn cs es (fun _ => none) := by
  intro Γ C as st s v st' Q R h q
  cases h
theorem s_none {e : Stmt} : SOk G D hn cs e (fun _ => none) := by
  intro Γ C as st s v st' Q R h q
  cases h
end
end
end Mine

set_option Elab.async false
set_option maxRecDepth 100000
set_option maxHeartbeats 1000000
set_option linter.all false
namespace Mine
open PySem PySem.W PySem.Spec PySem.Calls PyProof.Rows
noncomputable section

section
variable {G : Gl} {D : Nat} {hn : Bool} {cs : Scope}

noncomputable def dputM (n : Nat) (i v : MV) (st : St) : Option St := match i with
  | .int k => match hget st.H n with
    | some (.dict kvs e) => if kvs.length < 1000 then some { st with H := hset st.H n (.dict (putKV kvs k v) (e.map fun e => if kvs.any (fun kv => kv.1 = k) then e else e + 1)) } else none
    | _ => none
  | _ => none
theorem dictSet_ok {Γ : Fx} {as : List Addr} {st : St} {s : Shared} {n : Nat} {a : Addr} {i v : MV} {I V : Value} {st' : St} {E : Value → Shared → Prop} {Q : Unit → Shared → Prop} (R : Rel G Γ as st s) (ha : as[n]? = some a) (hi : VR as i I) (hv : VR as v V) (h : dputM n i v st = some st')
    (q : ∀ s', Rel G Γ as st' s' → Q () s') : wpAny (model G.prog G.w) Γ.A (dictSet a I V) Q E s := by
  cases i <;> first | (cases h; done) | skip
  rename_i k
  obtain ⟨t, rfl⟩ := hi
  simp only [dputM, hget_eq, hset_eq, hlen_eq, happ_eq] at h
  split at h
  · rename_i kvs e hm
    split at h
    · rename_i hl
      cases h
      obtain ⟨ob, hob, x⟩ := R.ob ha hm
      obtain ⟨kvs', m, hd, al, u⟩ := OR.dictAt hob x
      refine dictSet_at hd (fun h' hd' hs => ?_) (by rw [← al.length]; exact hl)
      obtain ⟨o', ho', r'⟩ := OR.ofDict (G := G) (as := as) (e := e.map fun e => if kvs.any (fun kv => kv.1 = k) then e else e + 1) hd' (kv_put hv al) (by
        intro e' he
        obtain ⟨e0, rfl, rfl⟩ := Option.map_eq_some_iff.mp he
        rw [u e0 rfl, kv_any al])
      exact q _ ((R.toks (s.toks + 1)).change (s := { s with toks := s.toks + 1 }) ha hm hs.extBut ho' r')
    · cases h
  · cases h

noncomputable def dict1M (f g : St → Option (MV × St)) (st : St) : Option (MV × St) :=
  (f { st with H := happ st.H (.dict [] (some 0)) }).bind fun x => (g x.2).bind fun y => (dputM (hlen st.H) x.1 y.1 y.2).map fun r => (.ref (hlen st.H), r)
theorem ev_dict1 {k e : Expr} {pos : Pos} {f g : St → Option (MV × St)} (hf : EvOk G D hn cs k f) (hg : EvOk G D hn cs e g) : EvOk G D hn cs (.Dict [some k] [e] pos) (dict1M f g) := by
  intro Γ C as st s v st' Q R h q
  simp only [dict1M, hlen_eq, happ_eq] at h
  obtain ⟨⟨x, st₁⟩, e1, h⟩ := bind_some h
  obtain ⟨⟨y, st₂⟩, e2, h⟩ := bind_some h
  obtain ⟨st₃, e3, h⟩ := Option.map_eq_some_iff.mp h
  cases h
  have R0 := R.alloc (o := { cls := .type "dict", data := .dict #[] }) (mo := .dict [] (some 0)) rfl or_empty
  have h0 : (as ++ [s.heap.objs.size])[st.H.length]? = some s.heap.objs.size := by rw [← R.len]; simp
  refine wpAny_Dict_any rfl rfl (by simp) (by simp) (pairTrees_cons_walk ?_)
  refine hf Γ C _ _ _ x st₁ _ R0 e1 fun as₁ s₁ X p₁ R₁ hx => hg Γ C as₁ st₁ s₁ y st₂ _ R₁ e2 fun as₂ s₂ Y p₂ R₂ hy => evalPairs_nil ?_
  have h2 := getElem?_pre (p₁.trans p₂) h0
  show wpAny _ _ (storeAll _ [(X, Y)]) _ _ _
  unfold storeAll
  rw [List.forIn_cons]
  refine wpAny_bind (wpAny_bind (dictSet_ok R₂ h2 (hx.mono p₂) hy e3 fun s' R' => wpAny_pure ?_))
  show wpAny _ _ (forIn [] PUnit.unit _) _ _ _
  rw [List.forIn_nil]
  exact wpAny_pure (q as₂ s' _ ((List.prefix_append ..).trans (p₁.trans p₂)) R' ⟨_, h2, rfl⟩)

noncomputable def negM (v : MV) (st : St) : Option (MV × St) := match v with
  | .int i => some (.int (-i), st)
  | _ => none
theorem ev_neg {e : Expr} {pos : Pos} {f : St → Option (MV × St)} (hf : EvOk G D hn cs e f) : EvOk G D hn cs (.UnaryOp .USub e pos) (un1 f negM) := by
  intro Γ C as st s v st' Q R h q
  obtain ⟨⟨u, st₁⟩, e1, h⟩ := bind_some h
  refine UnaryOp_ (hf Γ C as st s u st₁ _ R e1 fun as' s' V p R' hv => ?_)
  cases u <;> first | (cases h; done) | skip
  rename_i i
  obtain ⟨t, rfl⟩ := hv
  cases h
  exact neg_int (q as' _ _ p (R'.toks _) ⟨_, rfl⟩)
end
end
end Mine

open PySem PySem.W PyProof.Rows
set_option Elab.async false
set_option maxRecDepth 100000
set_option maxHeartbeats 8000000
set_option linter.all false
namespace Mine
open_top hd for PySem.Challenge.rw_mq0030_01
end Mine

set_option Elab.async false
set_option maxRecDepth 100000
set_option maxHeartbeats 4000000
set_option linter.all false
namespace Mine
open PySem PySem.W PySem.Spec PySem.Calls PyProof.Rows
noncomputable section

noncomputable abbrev GG (w : World) (mean : ExcName → Option Value) (mg mb : Str → Option Value) (S : Heap → Prop) : Gl :=
  { prog := PySem.Challenge.rw_mq0030_01.row.prog, w, K := hd.heap_39 w.params, p := hd.view_39, loose := looseW hd.view_39 [Str.ofString "_NodeInfo"], mean, mg, mb, S }

section
variable {w : World} {mean : ExcName → Option Value} {mg mb : Str → Option Value} {S : Heap → Prop}
theorem AK0 : AttrK (GG w mean mg mb S) 137 (anm 0) := ⟨rfl, rfl, rfl, rfl, rfl, rfl⟩
theorem AK1 : AttrK (GG w mean mg mb S) 137 (anm 1) := ⟨rfl, rfl, rfl, rfl, rfl, rfl⟩
theorem AK2 : AttrK (GG w mean mg mb S) 137 (anm 2) := ⟨rfl, rfl, rfl, rfl, rfl, rfl⟩
theorem AK3 : AttrK (GG w mean mg mb S) 137 (anm 3) := ⟨rfl, rfl, rfl, rfl, rfl, rfl⟩
theorem SK0 : SlotK (GG w mean mg mb S) 40 (Str.ofString "node") 0 := ⟨rfl, rfl, rfl, rfl, ⟨41, rfl, rfl, rfl, rfl, rfl, rfl⟩, by decide⟩
theorem SK1 : SlotK (GG w mean mg mb S) 40 (Str.ofString "npredecessors") 1 := ⟨rfl, rfl, rfl, rfl, ⟨42, rfl, rfl, rfl, rfl, rfl, rfl⟩, by decide⟩
theorem SK2 : SlotK (GG w mean mg mb S) 40 (Str.ofString "successors") 2 := ⟨rfl, rfl, rfl, rfl, ⟨43, rfl, rfl, rfl, rfl, rfl, rfl⟩, by decide⟩
theorem ne_of {name : Str} (h : ((anm 0 == name) || (anm 1 == name) || (anm 2 == name) || (anm 3 == name)) = false) : ∀ k, k < 4 → (anm k == name) = false := by
  simp only [Bool.or_eq_false_iff] at h
  intro k hk
  rcases k with _ | _ | _ | _ | k
  · exact h.1.1.1
  · exact h.1.1.2
  · exact h.1.2
  · exact h.2
  · omega
theorem CKN : ClsK (GG w mean mg mb S) 40 36 := ⟨rfl, rfl, rfl, rfl⟩
theorem CKS : ClsK (GG w mean mg mb S) 137 73 := ⟨rfl, rfl, rfl, rfl⟩
theorem MKget : MethK (GG w mean mg mb S) 137 (Str.ofString "_get_nodeinfo") 80 := ⟨rfl, rfl, rfl, rfl, ne_of (by decide)⟩
theorem MKadd : MethK (GG w mean mg mb S) 137 (Str.ofString "add") 87 := ⟨rfl, rfl, rfl, rfl, ne_of (by decide)⟩
theorem MKprep : MethK (GG w mean mg mb S) 137 (Str.ofString "prepare") 92 := ⟨rfl, rfl, rfl, rfl, ne_of (by decide)⟩
theorem MKready : MethK (GG w mean mg mb S) 137 (Str.ofString "get_ready") 99 := ⟨rfl, rfl, rfl, rfl, ne_of (by decide)⟩
theorem MKact : MethK (GG w mean mg mb S) 137 (Str.ofString "is_active") 106 := ⟨rfl, rfl, rfl, rfl, ne_of (by decide)⟩
theorem MKdone : MethK (GG w mean mg mb S) 137 (Str.ofString "done") 120 := ⟨rfl, rfl, rfl, rfl, ne_of (by decide)⟩
theorem MKcyc : MethK (GG w mean mg mb S) 137 (Str.ofString "_find_cycle") 127 := ⟨rfl, rfl, rfl, rfl, ne_of (by decide)⟩
end

/-- the locals at a function's start -/
noncomputable def loc0 (k : Nat) (args : List MV) : List (Option MV) := args.map some ++ List.replicate k none
theorem lr_params {scope : Scope} {as : List Addr} {args : List MV} {Vs : List Value} {names : List Str} {k : Nat} (h : All2 (VR as) args Vs) (hlen : args.length = names.length) (nd : names.Nodup)
    (hsc : (scope.names.map (·.1)).take names.length = names) : LR scope as (loc0 k args) (fun y => (names.zip Vs).reverse.lookup y) := by
  intro j x kd v hx hv
  unfold loc0 at hv
  by_cases hj : j < args.length
  · rw [List.getElem?_append_left (by simpa using hj)] at hv
    simp only [List.getElem?_map] at hv
    have hv' : args[j]? = some v := by
      cases q : args[j]? with
      | none => rw [q] at hv; cases hv
      | some u => rw [q] at hv; cases hv; rfl
    obtain ⟨V, hV, hr⟩ := h.get hv'
    have hnj : names[j]? = some x := by
      rw [← hsc, List.getElem?_take_of_lt (by omega)]
      simp [hx]
    have hz : (names.zip Vs)[j]? = some (x, V) := by
      rw [List.getElem?_zip_eq_some]
      exact ⟨hnj, hV⟩
    refine ⟨V, ?_, hr⟩
    have hl : (names.zip Vs).length = names.length := by
      rw [List.length_zip, ← h.length, hlen]; simp
    have hndz : ((names.zip Vs).reverse.map (·.1)).Nodup := by
      rw [List.map_reverse, List.map_fst_zip (by rw [← h.length, hlen]; exact Nat.le_refl _)]
      unfold List.Nodup
      rw [List.pairwise_reverse]
      exact List.Pairwise.imp (fun h => Ne.symm h) nd
    refine lookup_of_nodup (k := names.length - 1 - j) hndz ?_
    rw [List.getElem?_reverse (by rw [hl]; omega), hl]
    rw [show names.length - 1 - (names.length - 1 - j) = j by omega]
    exact hz
  · rw [List.getElem?_append_right (by simpa using hj)] at hv
    rw [List.getElem?_replicate] at hv
    split at hv <;> cases hv

end
end Mine

set_option Elab.async false
set_option maxRecDepth 100000
set_option maxHeartbeats 4000000
set_option linter.all false
namespace Mine
open PySem PySem.W PySem.Spec PySem.Calls PyProof.Rows
noncomputable section

noncomputable def t36 : { f : St → Option (Fl × St) // ∀ (w : World) (mean : ExcName → Option Value) (mg mb : Str → Option Value) (S : Heap → Prop), FnOk (GG w mean mg mb S) 308 36 (runFn 2 (loc0 0) f) } := by
  refine' ⟨_, fun w mean mg mb S => fn_ok (binds := fun Vs => [Str.ofString "self", Str.ofString "node"].zip Vs) rfl rfl (by decide) ?_ ?_ ?_ (by decide)
    (b_cons (s_asgAttr (ev_loc 1 rfl rfl) (ev_loc 0 rfl rfl) (set_s SK0) (fun _ => rfl))
    (b_cons (s_asgAttr ev_int (ev_loc 0 rfl rfl) (set_s SK1) (fun _ => rfl))
    (b_cons (s_asgAttr (ev_list a_nil) (ev_loc 0 rfl rfl) (set_s SK2) (fun _ => rfl))
    b_nil))) rfl rfl rfl (by decide)⟩
  · intro s Vs X hl
    match Vs, hl with
    | [a, b], _ => exact BindsTo.of_eq rfl
  · intro Vs hl
    match Vs, hl with
    | [a, b], _ =>
      intro y hy
      simp at hy
      rcases hy with rfl | rfl <;> rfl
  · intro as args Vs h hl
    exact lr_params h hl (by decide) rfl

noncomputable def t80 : { f : St → Option (Fl × St) // ∀ (w : World) (mean : ExcName → Option Value) (mg mb : Str → Option Value) (S : Heap → Prop), FnOk (GG w mean mg mb S) 306 80 (runFn 2 (loc0 1) f) } := by
  refine' ⟨_, fun w mean mg mb S => fn_ok (binds := fun Vs => [Str.ofString "self", Str.ofString "node"].zip Vs) rfl rfl (by decide) ?_ ?_ ?_ (by decide)
    (b_cons (s_if (tr_cmp (ev_named 2 rfl (ev_bm1 (ev_attr (by decide) AK0 rfl (ev_loc 0 rfl rfl) (fun _ => rfl)) (ev_loc 1 rfl rfl) get_dget o_dget (fun _ => rfl) (fun _ => rfl))) ev_none o_is rfl)
     (b_cons (s_asg2 2 rfl (ev_new ⟨rfl, rfl, rfl⟩ CKN (a_cons (ev_loc 1 rfl rfl) a_nil (fun _ => rfl)) (t36.2 w mean mg mb S) (by decide) (fun _ => rfl) (fun _ _ => rfl) (fun _ => rfl)) (ev_attr (by decide) AK0 rfl (ev_loc 0 rfl rfl) (fun _ => rfl)) (ev_loc 1 rfl rfl) (fun _ => rfl) (fun _ => rfl) (fun _ _ _ => rfl))
     b_nil)
     b_nil)
    (b_cons (s_ret (ev_loc 2 rfl rfl))
    b_nil)) rfl rfl rfl (by decide)⟩
  · intro s Vs X hl
    match Vs, hl with
    | [a, b], _ => exact BindsTo.of_eq rfl
  · intro Vs hl
    match Vs, hl with
    | [a, b], _ =>
      intro y hy
      simp at hy
      rcases hy with rfl | rfl <;> rfl
  · intro as args Vs h hl
    exact lr_params h hl (by decide) rfl

noncomputable def t73 : { f : St → Option (Fl × St) // ∀ (w : World) (mean : ExcName → Option Value) (mg mb : Str → Option Value) (S : Heap → Prop), FnOk (GG w mean mg mb S) 306 73 (runFn 1 (fun args => loc0 2 (args ++ [.none])) f) } := by
  refine' ⟨_, fun w mean mg mb S => fn_ok (binds := fun Vs => [Str.ofString "self", Str.ofString "graph"].zip (Vs ++ [.none])) rfl rfl (by decide) ?_ ?_ ?_ (by decide)
    (b_cons (s_asgAttr ev_dict0 (ev_loc 0 rfl rfl) (set_a (by decide) AK0 rfl) (fun _ => rfl))
    (b_cons (s_asgAttr ev_none (ev_loc 0 rfl rfl) (set_a (by decide) AK1 rfl) (fun _ => rfl))
    (b_cons (s_asgAttr ev_int (ev_loc 0 rfl rfl) (set_a (by decide) AK2 rfl) (fun _ => rfl))
    (b_cons (s_asgAttr ev_int (ev_loc 0 rfl rfl) (set_a (by decide) AK3 rfl) (fun _ => rfl))
    (b_cons (s_if (tr_cmp (ev_loc 1 rfl rfl) ev_none o_isNot rfl)
     b_none
     b_nil)
    b_nil))))) rfl rfl rfl (by decide)⟩
  · intro s Vs X hl
    match Vs, hl with
    | [a], _ => exact binds_K X rfl rfl rfl rfl rfl
  · intro Vs hl
    match Vs, hl with
    | [a], _ =>
      intro y hy
      simp at hy
      rcases hy with rfl | rfl <;> rfl
  · intro as args Vs h hl
    exact lr_params (All2.append (.cons (show VR as .none .none from rfl) .nil) h) (by simp [hl]) (by decide) rfl

end
end Mine

set_option Elab.async false
set_option maxRecDepth 100000
set_option maxHeartbeats 4000000
set_option linter.all false
namespace Mine
open PySem PySem.W PySem.Spec PySem.Calls PyProof.Rows
noncomputable section

noncomputable def t87 : { f : St → Option (Fl × St) // ∀ (w : World) (mean : ExcName → Option Value) (mg mb : Str → Option Value) (S : Heap → Prop), FnOk (GG w mean mg mb S) 305 87 (runStar 2 3 (fun args j => loc0 3 (args ++ [.ref j])) f) } := by
  refine' ⟨_, fun w mean mg mb S => star_ok (binds := fun Vs B => [Str.ofString "self", Str.ofString "node", Str.ofString "predecessors"].zip (Vs ++ [.ref B])) rfl rfl (by decide) ?_ ?_ ?_ (by decide)
    (b_cons (s_if (tr_cmp (ev_attr (by decide) AK1 rfl (ev_loc 0 rfl rfl) (fun _ => rfl)) ev_none o_isNot rfl)
     b_none
     b_nil)
    (b_cons (s_asg 3 rfl (ev_meth MKget (ev_loc 0 rfl rfl) (a_cons (ev_loc 1 rfl rfl) a_nil (fun _ => rfl)) (t80.2 w mean mg mb S) (fun _ => rfl) (fun _ => rfl) (fun _ _ => rfl)) (fun _ => rfl))
    (b_cons (s_augAttr (ev_loc 3 rfl rfl) (get_s SK1) (ev_fn1 (id := "len") ⟨rfl, rfl, rfl, by decide, rfl⟩ (ev_loc 2 rfl rfl) f_len (fun _ => rfl) (fun _ => rfl)) o_iadd (set_s SK1))
    (b_cons (s_for 4 50 rfl (ev_loc 2 rfl rfl)
     (b_cons (s_asg 5 rfl (ev_meth MKget (ev_loc 0 rfl rfl) (a_cons (ev_loc 4 rfl rfl) a_nil (fun _ => rfl)) (t80.2 w mean mg mb S) (fun _ => rfl) (fun _ => rfl) (fun _ _ => rfl)) (fun _ => rfl))
     (b_cons (s_expr (ev_bm1 (ev_slot SK2 (ev_loc 5 rfl rfl) (fun _ => rfl)) (ev_loc 1 rfl rfl) get_append o_append (fun _ => rfl) (fun _ => rfl)) (fun _ => rfl))
     b_nil)) (fun _ _ => rfl))
    b_nil)))) rfl rfl rfl (by decide)⟩
  · intro Vs h1 h2
    match Vs, h1, h2 with
    | [a, b], _, _ => exact ⟨rfl, _, rfl, fun _ => rfl⟩
    | [a, b, c], _, _ => exact ⟨rfl, _, rfl, fun _ => rfl⟩
    | _ :: _ :: _ :: _ :: _, _, h2 => simp at h2 <;> omega
  · intro Vs B hl
    match Vs, hl with
    | [a, b], _ =>
      intro y hy
      simp at hy
      rcases hy with rfl | rfl | rfl <;> rfl
  · intro as args Vs j B h hl hj
    exact lr_params (All2.append (.cons (show VR as (.ref j) (.ref B) from ⟨B, hj, rfl⟩) .nil) h) (by simp [hl]) (by decide) rfl

noncomputable def t127 : { f : St → Option (Fl × St) // ∀ (w : World) (mean : ExcName → Option Value) (mg mb : Str → Option Value) (S : Heap → Prop), FnOk (GG w mean mg mb S) 306 127 (runFn 1 (loc0 6) f) } := by
  refine' ⟨_, fun w mean mg mb S => fn_ok (binds := fun Vs => [Str.ofString "self"].zip Vs) rfl rfl (by decide) ?_ ?_ ?_ (by decide)
    (b_cons (s_asg 1 rfl (ev_attr (by decide) AK0 rfl (ev_loc 0 rfl rfl) (fun _ => rfl)) (fun _ => rfl))
    (b_cons (s_asg 2 rfl (ev_list a_nil) (fun _ => rfl))
    (b_cons (s_asg 3 rfl (ev_list a_nil) (fun _ => rfl))
    (b_cons (s_asg 4 rfl (ev_set0 ⟨rfl, rfl, rfl, by decide, rfl⟩ (fun _ => rfl)) (fun _ => rfl))
    (b_cons (s_asg 5 rfl ev_dict0 (fun _ => rfl))
    (b_cons (s_for 6 50 rfl (ev_loc 1 rfl rfl)
     (b_cons (s_if (tr_cmp (ev_loc 6 rfl rfl) (ev_loc 4 rfl rfl) o_in rfl)
      (b_cons s_cont
      b_nil)
      b_nil)
     (b_cons (s_while 50 (tr_plain ev_bool (fun _ _ => rfl))
      (b_cons (s_if (tr_cmp (ev_loc 6 rfl rfl) (ev_loc 4 rfl rfl) o_in rfl)
       (b_cons (s_if (tr_cmp (ev_loc 6 rfl rfl) (ev_loc 5 rfl rfl) o_in rfl)
        b_none
        b_nil)
       b_nil)
       (b_cons (s_expr (ev_bm1 (ev_loc 4 rfl rfl) (ev_loc 6 rfl rfl) get_sadd o_sadd (fun _ => rfl) (fun _ => rfl)) (fun _ => rfl))
       (b_cons (s_expr (ev_bm1 (ev_loc 3 rfl rfl) (ev_next (ev_fn1 (id := "iter") ⟨rfl, rfl, rfl, by decide, rfl⟩ (ev_slot SK2 (ev_item (ev_loc 1 rfl rfl) (ev_loc 6 rfl rfl) (fun _ _ => rfl)) (fun _ => rfl)) f_iter (fun _ => rfl) (fun _ => rfl)) (fun _ => rfl)) get_append o_append (fun _ => rfl) (fun _ => rfl)) (fun _ => rfl))
       (b_cons (s_asgItem (ev_fn1 (id := "len") ⟨rfl, rfl, rfl, by decide, rfl⟩ (ev_loc 2 rfl rfl) f_len (fun _ => rfl) (fun _ => rfl)) (ev_loc 5 rfl rfl) (ev_loc 6 rfl rfl) (fun _ => rfl))
       (b_cons (s_expr (ev_bm1 (ev_loc 2 rfl rfl) (ev_loc 6 rfl rfl) get_append o_append (fun _ => rfl) (fun _ => rfl)) (fun _ => rfl))
       b_nil)))))
      (b_cons (s_while 50 (tr_plain (ev_loc 2 rfl rfl) (fun _ _ => rfl))
       (b_cons (s_tryNext 6 rfl (ev_item (ev_loc 3 rfl rfl) (ev_neg ev_int) (fun _ _ => rfl)) (fun _ => rfl) (fun _ => rfl) ⟨rfl, rfl, rfl, by decide, rfl⟩
        (b_cons (s_del (ev_loc 5 rfl rfl) (ev_bm0 (ev_loc 2 rfl rfl) get_pop o_pop (fun _ => rfl)))
        (b_cons (s_expr (ev_bm0 (ev_loc 3 rfl rfl) get_pop o_pop (fun _ => rfl)) (fun _ => rfl))
        b_nil)))
       b_nil)
       (b_cons s_break
       b_nil))
      b_nil))
      b_nil)
     b_nil)) (fun _ _ => rfl))
    (b_cons (s_ret ev_none)
    b_nil))))))) rfl rfl rfl (by decide)⟩
  · intro s Vs X hl
    match Vs, hl with
    | [a], _ => exact BindsTo.of_eq rfl
  · intro Vs hl
    match Vs, hl with
    | [a], _ =>
      intro y hy
      simp at hy
      rcases hy with rfl <;> rfl
  · intro as args Vs h hl
    exact lr_params h hl (by decide) rfl

end
end Mine

set_option Elab.async false
set_option maxRecDepth 100000
set_option maxHeartbeats 4000000
set_option linter.all false
namespace Mine
open PySem PySem.W PySem.Spec PySem.Calls PyProof.Rows
noncomputable section

noncomputable def t92 : { f : St → Option (Fl × St) // ∀ (w : World) (mean : ExcName → Option Value) (mg mb : Str → Option Value) (S : Heap → Prop), FnOk (GG w mean mg mb S) 305 92 (runFn 1 (loc0 1) f) } := by
  refine' ⟨_, fun w mean mg mb S => fn_ok (binds := fun Vs => [Str.ofString "self"].zip Vs) rfl rfl (by decide) ?_ ?_ ?_ (by decide)
    (b_cons (s_if (tr_cmp (ev_attr (by decide) AK1 rfl (ev_loc 0 rfl rfl) (fun _ => rfl)) ev_none o_isNot rfl)
     b_none
     b_nil)
    (b_cons (s_asgAttr (ev_comp SK0 SK1 (ev_attr (by decide) AK0 rfl (ev_loc 0 rfl rfl) (fun _ => rfl)) (fun _ => rfl) (by decide) (by decide) rfl (by decide) rfl rfl (fun _ => rfl) (fun _ => rfl) (fun _ _ => rfl)) (ev_loc 0 rfl rfl) (set_a (by decide) AK1 rfl) (fun _ => rfl))
    (b_cons (s_asg 1 rfl (ev_meth0 MKcyc (ev_loc 0 rfl rfl) (t127.2 w mean mg mb S) (fun _ => rfl)) (fun _ => rfl))
    (b_cons (s_if (tr_plain (ev_loc 1 rfl rfl) (fun _ _ => rfl))
     b_none
     b_nil)
    b_nil)))) rfl rfl rfl (by decide)⟩
  · intro s Vs X hl
    match Vs, hl with
    | [a], _ => exact BindsTo.of_eq rfl
  · intro Vs hl
    match Vs, hl with
    | [a], _ =>
      intro y hy
      simp at hy
      rcases hy with rfl <;> rfl
  · intro as args Vs h hl
    exact lr_params h hl (by decide) rfl

noncomputable def t99 : { f : St → Option (Fl × St) // ∀ (w : World) (mean : ExcName → Option Value) (mg mb : Str → Option Value) (S : Heap → Prop), FnOk (GG w mean mg mb S) 305 99 (runFn 1 (loc0 3) f) } := by
  refine' ⟨_, fun w mean mg mb S => fn_ok (binds := fun Vs => [Str.ofString "self"].zip Vs) rfl rfl (by decide) ?_ ?_ ?_ (by decide)
    (b_cons (s_if (tr_cmp (ev_attr (by decide) AK1 rfl (ev_loc 0 rfl rfl) (fun _ => rfl)) ev_none o_is rfl)
     b_none
     b_nil)
    (b_cons (s_asg 1 rfl (ev_ty1 (T := "tuple") ⟨rfl, rfl, rfl, by decide, rfl⟩ (ev_attr (by decide) AK1 rfl (ev_loc 0 rfl rfl) (fun _ => rfl)) f_tuple (fun _ => rfl) (fun _ => rfl)) (fun _ => rfl))
    (b_cons (s_asg 2 rfl (ev_attr (by decide) AK0 rfl (ev_loc 0 rfl rfl) (fun _ => rfl)) (fun _ => rfl))
    (b_cons (s_for 3 50 rfl (ev_loc 1 rfl rfl)
     (b_cons (s_asgAttr (ev_gint ⟨rfl, rfl, rfl⟩) (ev_item (ev_loc 2 rfl rfl) (ev_loc 3 rfl rfl) (fun _ _ => rfl)) (set_s SK1) (fun _ => rfl))
     b_nil) (fun _ _ => rfl))
    (b_cons (s_expr (ev_bm0 (ev_attr (by decide) AK1 rfl (ev_loc 0 rfl rfl) (fun _ => rfl)) get_clear o_clear (fun _ => rfl)) (fun _ => rfl))
    (b_cons (s_augAttr (ev_loc 0 rfl rfl) (get_a (by decide) AK2 rfl) (ev_fn1 (id := "len") ⟨rfl, rfl, rfl, by decide, rfl⟩ (ev_loc 1 rfl rfl) f_len (fun _ => rfl) (fun _ => rfl)) o_iadd (set_a (by decide) AK2 rfl))
    (b_cons (s_ret (ev_loc 1 rfl rfl))
    b_nil))))))) rfl rfl rfl (by decide)⟩
  · intro s Vs X hl
    match Vs, hl with
    | [a], _ => exact BindsTo.of_eq rfl
  · intro Vs hl
    match Vs, hl with
    | [a], _ =>
      intro y hy
      simp at hy
      rcases hy with rfl <;> rfl
  · intro as args Vs h hl
    exact lr_params h hl (by decide) rfl

noncomputable def t106 : { f : St → Option (Fl × St) // ∀ (w : World) (mean : ExcName → Option Value) (mg mb : Str → Option Value) (S : Heap → Prop), FnOk (GG w mean mg mb S) 305 106 (runFn 1 (loc0 0) f) } := by
  refine' ⟨_, fun w mean mg mb S => fn_ok (binds := fun Vs => [Str.ofString "self"].zip Vs) rfl rfl (by decide) ?_ ?_ ?_ (by decide)
    (b_cons (s_if (tr_cmp (ev_attr (by decide) AK1 rfl (ev_loc 0 rfl rfl) (fun _ => rfl)) ev_none o_is rfl)
     b_none
     b_nil)
    (b_cons (s_ret (ev_or2 (ev_cmp (ev_attr (by decide) AK3 rfl (ev_loc 0 rfl rfl) (fun _ => rfl)) (ev_attr (by decide) AK2 rfl (ev_loc 0 rfl rfl) (fun _ => rfl)) o_lt rfl) (ev_ty1 (T := "bool") ⟨rfl, rfl, rfl, by decide, rfl⟩ (ev_attr (by decide) AK1 rfl (ev_loc 0 rfl rfl) (fun _ => rfl)) f_bool (fun _ => rfl) (fun _ => rfl))))
    b_nil)) rfl rfl rfl (by decide)⟩
  · intro s Vs X hl
    match Vs, hl with
    | [a], _ => exact BindsTo.of_eq rfl
  · intro Vs hl
    match Vs, hl with
    | [a], _ =>
      intro y hy
      simp at hy
      rcases hy with rfl <;> rfl
  · intro as args Vs h hl
    exact lr_params h hl (by decide) rfl

noncomputable def t120 : { f : St → Option (Fl × St) // ∀ (w : World) (mean : ExcName → Option Value) (mg mb : Str → Option Value) (S : Heap → Prop), FnOk (GG w mean mg mb S) 305 120 (runStar 1 2 (fun args j => loc0 6 (args ++ [.ref j])) f) } := by
  refine' ⟨_, fun w mean mg mb S => star_ok (binds := fun Vs B => [Str.ofString "self", Str.ofString "nodes"].zip (Vs ++ [.ref B])) rfl rfl (by decide) ?_ ?_ ?_ (by decide)
    (b_cons (s_if (tr_cmp (ev_attr (by decide) AK1 rfl (ev_loc 0 rfl rfl) (fun _ => rfl)) ev_none o_is rfl)
     b_none
     b_nil)
    (b_cons (s_asg 2 rfl (ev_attr (by decide) AK0 rfl (ev_loc 0 rfl rfl) (fun _ => rfl)) (fun _ => rfl))
    (b_cons (s_for 3 50 rfl (ev_loc 1 rfl rfl)
     (b_cons (s_if (tr_cmp (ev_named 4 rfl (ev_bm1 (ev_loc 2 rfl rfl) (ev_loc 3 rfl rfl) get_dget o_dget (fun _ => rfl) (fun _ => rfl))) ev_none o_is rfl)
      b_none
      b_nil)
     (b_cons (s_asg 5 rfl (ev_slot SK1 (ev_loc 4 rfl rfl) (fun _ => rfl)) (fun _ => rfl))
     (b_cons (s_if (tr_cmp (ev_loc 5 rfl rfl) (ev_gint ⟨rfl, rfl, rfl⟩) o_ne rfl)
      (b_cons (s_if (tr_cmp (ev_loc 5 rfl rfl) ev_int o_ge rfl)
       b_none
       (b_cons (s_if (tr_cmp (ev_loc 5 rfl rfl) (ev_gint ⟨rfl, rfl, rfl⟩) o_eq rfl)
        b_none
        b_none)
       b_nil))
      b_nil)
      b_nil)
     (b_cons (s_asgAttr (ev_gint ⟨rfl, rfl, rfl⟩) (ev_loc 4 rfl rfl) (set_s SK1) (fun _ => rfl))
     (b_cons (s_for 6 50 rfl (ev_slot SK2 (ev_loc 4 rfl rfl) (fun _ => rfl))
      (b_cons (s_asg 7 rfl (ev_item (ev_loc 2 rfl rfl) (ev_loc 6 rfl rfl) (fun _ _ => rfl)) (fun _ => rfl))
      (b_cons (s_augAttr (ev_loc 7 rfl rfl) (get_s SK1) ev_int o_isub (set_s SK1))
      (b_cons (s_if (tr_cmp (ev_slot SK1 (ev_loc 7 rfl rfl) (fun _ => rfl)) ev_int o_eq rfl)
       (b_cons (s_expr (ev_bm1 (ev_attr (by decide) AK1 rfl (ev_loc 0 rfl rfl) (fun _ => rfl)) (ev_loc 6 rfl rfl) get_append o_append (fun _ => rfl) (fun _ => rfl)) (fun _ => rfl))
       b_nil)
       b_nil)
      b_nil))) (fun _ _ => rfl))
     (b_cons (s_augAttr (ev_loc 0 rfl rfl) (get_a (by decide) AK3 rfl) ev_int o_iadd (set_a (by decide) AK3 rfl))
     b_nil)))))) (fun _ _ => rfl))
    b_nil))) rfl rfl rfl (by decide)⟩
  · intro Vs h1 h2
    match Vs, h1, h2 with
    | [a], _, _ => exact ⟨rfl, _, rfl, fun _ => rfl⟩
    | [a, b], _, _ => exact ⟨rfl, _, rfl, fun _ => rfl⟩
    | _ :: _ :: _ :: _, _, h2 => simp at h2 <;> omega
  · intro Vs B hl
    match Vs, hl with
    | [a], _ =>
      intro y hy
      simp at hy
      rcases hy with rfl | rfl <;> rfl
  · intro as args Vs j B h hl hj
    exact lr_params (All2.append (.cons (show VR as (.ref j) (.ref B) from ⟨B, hj, rfl⟩) .nil) h) (by simp [hl]) (by decide) rfl

end
end Mine

set_option Elab.async false
set_option maxRecDepth 100000
set_option maxHeartbeats 4000000
set_option linter.all false
namespace Mine
open PySem PySem.W PySem.Spec PySem.Calls PyProof.Rows
noncomputable section

/-! a call that sees two lists of ints and a bool alone, and gives back a new list of ints -/
noncomputable def selEnd (ia io : List Int) (x : Fl × St) : Option (List Int) := match x.1 with
  | .ret (.ref n) => match hget x.2.H 0, hget x.2.H 1, hget x.2.H n with
    | some (.list v0), some (.list v1), some (.list vs) => if 2 ≤ n ∧ intsOf v0 = some ia ∧ intsOf v1 = some io then intsOf vs else none
    | _, _, _ => none
  | _ => none
noncomputable def selW (loc0 : List MV → List (Option MV)) (fb : St → Option (Fl × St)) (ia io : List Int) (b : Bool) : Option (List Int) :=
  (fb ⟨loc0 [.ref 0, .ref 1, .bool b], [.list (ia.map .int), .list (io.map .int)]⟩).bind (selEnd ia io)
noncomputable def selRun (loc0 : List MV → List (Option MV)) (fb : St → Option (Fl × St)) (args : List MV) (H : List MO) : Option (MV × List MO) := match args with
  | [.ref a, .ref o, .bool b] => match H[a]?, H[o]? with
    | some (.list va), some (.list vo) => if a = o then none else (intsOf va).bind fun ia => (intsOf vo).bind fun io => (selW loc0 fb ia io b).map fun r => (.ref (hlen H), happ H (.list (r.map .int)))
    | _, _ => none
  | _ => none
theorem intsOf_map : ∀ {vs : List MV} {is : List Int}, intsOf vs = some is → vs = is.map .int
  | [], _, h => by cases h; rfl
  | .int i :: r, is, h => by
    obtain ⟨js, e, h⟩ := Option.map_eq_some_iff.mp h
    subst h
    rw [intsOf_map e]; rfl
  | .none :: _, _, h => nomatch h
  | .bool _ :: _, _, h => nomatch h
  | .ref _ :: _, _, h => nomatch h
  | .out _ :: _, _, h => nomatch h

section
variable {G : Gl} {D : Nat}

theorem fn_sel {f : Addr} {name qual : Str} {params : Arguments} {body : List Stmt} {scope : Scope} {dV kV doc pm cdv ct oc : Value} {an od : Option Addr} {osl : Array (Option Value)}
    {binds : List Value → List (Str × Value)} {loc0 : List MV → List (Option MV)} {fb : St → Option (Fl × St)}
    (ho : G.K.lookup f = some ⟨oc, od, .func (fnOf name qual params body scope dV kV doc pm an cdv ct), osl⟩) (hcd : codeIn G.K cdv qual = true) (hsm : D + 1 ≤ 900)
    (hbind : ∀ (s : Shared) (Vs : List Value), G.K.In s.heap → Vs.length = 3 → BindsTo s (fnOf name qual params body scope dV kV doc pm an cdv ct) ⟨Vs, []⟩ (binds Vs))
    (hloc : ∀ Vs, Vs.length = 3 → ∀ y ∈ binds Vs, scope.names.lookup y.1 = some .local)
    (hl0 : ∀ as args Vs, All2 (VR as) args Vs → args.length = 3 → LR scope as (loc0 args) (fun y => (binds Vs).reverse.lookup y))
    (hnd : (scope.names.map (·.1)).Nodup)
    (hb : BOk G (D + 1) true scope body fb)
    (hco : scope.isCoroutine = false) (hgen : scope.isGenerator = false) (hk : scope.kind = .function) (hcell : ∀ x ∈ scope.names, x.2 ≠ .cell) : FnOk G D f (selRun loc0 fb) := by
  intro Γ ok hh as st s args Vs r H' RR R hv h q
  unfold selRun at h
  simp only [hlen_eq, happ_eq] at h
  split at h
  · rename_i args' a o b
    split at h
    · rename_i va vo ea eo
      split at h
      · cases h
      · rename_i hao
        obtain ⟨ia, eia, h⟩ := bind_some h
        obtain ⟨io, eio, h⟩ := bind_some h
        obtain ⟨res, ew, h⟩ := Option.map_eq_some_iff.mp h
        cases h
        have eva := intsOf_map eia
        have evo := intsOf_map eio
        subst eva; subst evo
        unfold selW at ew
        obtain ⟨⟨fl, st₁⟩, e1, ew⟩ := bind_some ew
        simp only [selEnd, hget_eq] at ew
        split at ew
        · rename_i n
          split at ew
          · rename_i v0 v1 vs f0 f1 fn
            split at ew
            · rename_i hc
              obtain ⟨hn2, h0, h1⟩ := hc
              have ev0 := intsOf_map h0
              have ev1 := intsOf_map h1
              have evs := intsOf_map ew
              subst ev0; subst ev1; subst evs
              have hlen3 : Vs.length = 3 := by rw [← hv.length]; rfl
              -- the arguments
              cases hv with
              | @cons _ Va _ _ hva hv =>
              cases hv with
              | @cons _ Vo _ _ hvo hv =>
              cases hv with
              | @cons _ Vb _ _ hvb hv =>
              cases hv
              obtain ⟨xa, hxa, rfl⟩ := hva
              obtain ⟨xo, hxo, rfl⟩ := hvo
              cases hvb
              obtain ⟨m, F, l⟩ := R.fr
              have hdep := ok.depth
              have hun := ok.units
              -- the selection
              have hsel : ∀ (i : Nat) (y : Addr) (mo : MO), [xa, xo][i]? = some y → [MO.list (ia.map .int), MO.list (io.map .int)][i]? = some mo → ∃ j, as[j]? = some y ∧ st.H[j]? = some mo ∧ isJunk mo = false ∧ (i = 0 → j = a) ∧ (i = 1 → j = o) ∧ i < 2 := by
                intro i y mo h1 h2
                match i, h1, h2 with
                | 0, h1, h2 => cases h1; cases h2; exact ⟨a, hxa, ea, rfl, fun _ => rfl, (fun z => by cases z), by decide⟩
                | 1, h1, h2 => cases h1; cases h2; exact ⟨o, hxo, eo, rfl, (fun z => by cases z), fun _ => rfl, by decide⟩
                | i + 2, h1, h2 => cases h1
              have intsR : ∀ (as₁ as₂ : List Addr) (is : List Int) (ob : Obj), OR G as₁ (.list (is.map .int)) ob → OR G as₂ (.list (is.map .int)) ob := by
                intro as₁ as₂ is ob hor
                obtain ⟨items, k, e, al⟩ := hor
                refine ⟨items, k, e, ?_⟩
                clear e
                revert al
                generalize items.toList = L
                intro al
                induction is generalizing L with
                | nil => cases al; exact .nil
                | cons i is ih =>
                  cases al with
                  | cons x y => exact .cons x (ih _ y)
              have R2 : HRel G R.h₀ Γ.L [xa, xo] [MO.list (ia.map .int), MO.list (io.map .int)] s.heap := by
                refine ⟨fun i j y mi mj e1 e2 f1 f2 g1 g2 => ?_, rfl, fun i y mo e f g => ?_⟩
                · obtain ⟨i', a1, a2, _, a3, a4, a5⟩ := hsel i y mi e1 f1
                  obtain ⟨j', b1, b2, _, b3, b4, b5⟩ := hsel j y mj e2 f2
                  have e := R.hp.nod i' j' y mi mj a1 b1 a2 b2 g1 g2
                  have hi : i = 0 ∨ i = 1 := by omega
                  have hj : j = 0 ∨ j = 1 := by omega
                  rcases hi with rfl | rfl <;> rcases hj with rfl | rfl
                  · rfl
                  · exact absurd ((a3 rfl).symm.trans (e.trans (b4 rfl))) hao
                  · exact absurd ((b3 rfl).symm.trans (e.symm.trans (a4 rfl))) hao
                  · rfl
                · obtain ⟨i', a1, a2, _, _, _, a5⟩ := hsel i y mo e f
                  obtain ⟨ob, x1, x2, x3, x4, x5⟩ := R.hp.ob i' y mo a1 a2 g
                  refine ⟨ob, x1, ?_, x3, x4, x5⟩
                  have hi : i = 0 ∨ i = 1 := by omega
                  rcases hi with rfl | rfl <;> cases f <;> exact intsR _ _ _ _ x2
              obtain ⟨FG, BG, sg, _⟩ := groundX (R := fun _ _ => True) (R.B ok) F R2.news ok.fr rfl ok.kind
              have X := (R.X ok).keeps F.keep
              have N := R2.news
              refine codeAny_call_def (fd := fnOf name qual params body scope dV kV doc pm an cdv ct) (body := body) (binds := binds [.ref xa, .ref xo, .bool b]) (by unfold recursionLimit; omega) (X _ _ ho) rfl ((R.T ok).nolimit.keeps F.keep) (codeRec_of X hcd) rfl (hbind s _ X rfl) hcell (hloc _ rfl) (fun h₁ hns hk₁ => ?_) hco hgen hk
              let g := hid s [xa, xo] [MO.list (ia.map .int), MO.list (io.map .int)]
              let Γ' : Fx := ⟨Γ.A, Γ.A.deeper (envOf qual scope s.heap.objs.size f cdv), Γ.base, g, Γ.env :: Γ.outer, qual, scope, s.heap.objs.size, f, cdv, s⟩
              have ok' : FxOk G (D + 1) Γ' := ⟨BG, ok.X, ok.T, by show (Γ.A.frames.map _) = _; rw [ok.fr]; rfl, hk, hnd, by show Γ.A.depth + 1 ≤ _; omega, by show Γ.A.units + 3 ≤ _; omega, hsm, ok.scr⟩
              have N' : News g s.heap.objs.size h₁ (newsOf s.heap [xa, xo] [MO.list (ia.map .int), MO.list (io.map .int)]) := fun p hp => ⟨hk₁ _ _ (N p hp).1, Nat.ne_of_lt (Heap.lt_size (N p hp).1), hideAll_none _ (List.mem_map_of_mem hp)⟩
              have R' : Rel G Γ' [xa, xo] ⟨loc0 [.ref 0, .ref 1, .bool b], [MO.list (ia.map .int), MO.list (io.map .int)]⟩ { s with heap := h₁, toks := s.toks + (binds [.ref xa, .ref xo, .bool b]).length } :=
                ⟨g, ⟨rfl, fun _ e => e, fun _ _ e _ => e, fun b o e => ⟨o.slots, e⟩⟩, rfl, rfl, rfl, by show sysModules < (hid s _ _).objs.size; rw [hideAll_size]; exact R.lowNow,
                  ⟨_, ⟨hns, fun b o e => hk₁ b o (of_hideAll _ e), Nat.le_of_eq (hideAll_size _ _)⟩, hl0 _ _ _ (.cons ⟨xa, rfl, rfl⟩ (.cons ⟨xo, rfl, rfl⟩ (.cons rfl .nil))) rfl⟩, R2.ofNews N'⟩
              refine botE (hb Γ' ⟨ok', rfl, fun _ => hh⟩ _ _ _ _ st₁ _ R' e1 fun as' s' V p R₂ fr => ?_)
              obtain ⟨W, rfl, hw⟩ := fr
              obtain ⟨xr, hxr, rfl⟩ := hw
              -- back
              obtain ⟨m₂, F₂, l₂⟩ := R₂.fr
              have g2 := R₂.gd
              have sl : ∀ b o, g.get? b = some o → ∃ sl, s'.heap.get? b = some { o with slots := sl } := fun b o e => let ⟨sl, x⟩ := g2.sl b o e; ⟨sl, F₂.keep _ _ x⟩
              have hns' : s'.heap.Ns Γ.L m := Heap.UpToSlots.ns (h := g) (fun b o e _ => sl b o e) FG.ns
              obtain ⟨oL, _, _, hL, _⟩ := FG.ns
              have notFrame : ∀ b, R.h₀.get? b = none → b ∉ frs Γ.outer := fun b hb hm => by
                obtain ⟨_, o', ho', _⟩ := (R.B ok).frames.mem hm
                rw [hb] at ho'; cases ho'
              obtain ⟨h₁', gd, Fr₁, no⟩ := reground R.gd F hns' (fun b o e hb => F₂.keep b o (g2.kp b o (sg b o e) (by
                  intro hm
                  have hm' : b ∈ Γ.L :: frs Γ.outer := hm
                  rcases List.mem_cons.mp hm' with rfl | z
                  · exact absurd (Nat.lt_of_lt_of_le (Heap.lt_size e) F.above) (Nat.lt_irrefl _)
                  · exact hb z))) (fun b o e => sl b o (sg b o e))
              have p0 : as'[0]? = some xa := getElem?_pre p rfl
              have p1 : as'[1]? = some xo := getElem?_pre p rfl
              -- an object as it is now
              have now : ∀ (i : Nat) (y : Addr) (mo : MO), as[i]? = some y → st.H[i]? = some mo → isJunk mo = false → ∃ ob, s'.heap.get? y = some ob ∧ OR G as mo ob ∧ y ≠ Γ.L ∧ h₁'.get? y = none ∧ (isDictO mo = true → sysModules < y) ∧ y ≠ xr := by
                intro i y mo hy hmo hj
                obtain ⟨ob, x1, x2, x3, x4, x5⟩ := R.hp.ob i y mo hy hmo hj
                by_cases ya : y = xa
                · subst ya
                  have : i = a := R.hp.nod i a y mo _ hy hxa hmo ea hj rfl
                  subst this
                  rw [ea] at hmo; cases hmo
                  obtain ⟨ob', z1, z2, _⟩ := R₂.hp.ob 0 y _ p0 f0 rfl
                  refine ⟨ob', z1, intsR _ _ _ _ z2, x3, no y x4, x5, ?_⟩
                  rintro rfl
                  have := R₂.hp.nod 0 n y _ _ p0 hxr f0 fn rfl rfl
                  omega
                · by_cases yo : y = xo
                  · subst yo
                    have : i = o := R.hp.nod i o y mo _ hy hxo hmo eo hj rfl
                    subst this
                    rw [eo] at hmo; cases hmo
                    obtain ⟨ob', z1, z2, _⟩ := R₂.hp.ob 1 y _ p1 f1 rfl
                    refine ⟨ob', z1, intsR _ _ _ _ z2, x3, no y x4, x5, ?_⟩
                    rintro rfl
                    have := R₂.hp.nod 1 n y _ _ p1 hxr f1 fn rfl rfl
                    omega
                  · have hg : g.get? y = some ob := hideAll_get _ x1 (by
                      intro hm
                      obtain ⟨pr, hp1, hp2⟩ := List.mem_map.mp hm
                      obtain ⟨k, _, hk2⟩ := List.mem_filterMap.mp hp1
                      obtain ⟨mk, q1, q2, _⟩ := newsAt_some hk2
                      rw [hp2] at q1
                      obtain ⟨k', _, _, _, k3, k4, k5⟩ := hsel k y mk q1 q2
                      have hk : k = 0 ∨ k = 1 := by omega
                      rcases hk with rfl | rfl
                      · cases q1; exact ya rfl
                      · cases q1; exact yo rfl)
                    refine ⟨ob, F₂.keep _ _ (g2.kp y ob hg ?_), x2, x3, no y x4, x5, ?_⟩
                    · intro hm
                      have hm' : y ∈ Γ.L :: frs Γ.outer := hm
                      rcases List.mem_cons.mp hm' with z | z
                      · exact x3 z
                      · exact notFrame y x4 z
                    · rintro rfl
                      obtain ⟨_, _, _, _, z4, _⟩ := R₂.hp.ob n y _ hxr fn rfl
                      obtain ⟨_, z5⟩ := g2.sl y ob hg
                      rw [z4] at z5; cases z5
              obtain ⟨obr, r1, r2, _, r4, _⟩ := R₂.hp.ob n xr _ hxr fn rfl
              have rL : xr ≠ Γ.L := by
                rintro rfl
                obtain ⟨_, x⟩ := g2.sl _ _ hL
                rw [r4] at x; cases x
              have r0 : h₁'.get? xr = none := by
                cases qq : R.h₀.get? xr with
                | none => exact no xr qq
                | some o =>
                  obtain ⟨_, x⟩ := g2.sl _ _ (sg _ _ qq)
                  rw [r4] at x; cases x
              have Hold : HRel G h₁' Γ.L as st.H s'.heap := ⟨R.hp.nod, R.hp.len, fun i y mo e f g => let ⟨ob, z1, z2, z3, z4, z5, _⟩ := now i y mo e f g; ⟨ob, z1, z2, z3, z4, z5⟩⟩
              refine q (as ++ [xr]) s' _ (List.prefix_append ..) ⟨h₁', gd, ?_, ?_, ?_, R.low, ⟨m, Fr₁, l.mono (List.prefix_append ..)⟩, ?_⟩ (VR.last R.len.symm)
              · rw [R₂.gens]; exact R.gens
              · rw [R₂.drawn]; exact R.drawn
              · rw [R₂.os]; exact R.os
              · exact Hold.add (fun i y mo e f g => let ⟨_, _, _, _, _, _, z⟩ := now i y mo e f g; z) (fun _ _ _ _ e => e) r1 (intsR _ _ _ _ r2) rL r0 (by intro z; cases z)
            · cases ew
          · cases ew
        · cases ew
    · cases h
  · cases h

theorem FnOk.mono {f : Addr} {F F' : List MV → List MO → Option (MV × List MO)} (h : FnOk G D f F) (hm : ∀ args H r, F' args H = some r → F args H = some r) : FnOk G D f F' :=
  fun Γ ok hh as st s args Vs r H' R Rl hv e q => h Γ ok hh as st s args Vs r H' R Rl hv (hm _ _ _ e) q
/-- the same by a table -/
noncomputable def tabRun (ia : List Int) (b : Bool) (T : List (List Int × List Int)) (args : List MV) (H : List MO) : Option (MV × List MO) := match args with
  | [.ref a, .ref o, .bool b'] => match hget H a, hget H o with
    | some (.list va), some (.list vo) => if a = o then none else if b' = b then (if intsOf va = some ia then (intsOf vo).bind fun io => (T.lookup io).map fun r => (.ref (hlen H), happ H (.list (r.map .int))) else none) else none
    | _, _ => none
  | _ => none
theorem lookup_mem {α β : Type} [BEq α] [LawfulBEq α] : ∀ {T : List (α × β)} {x : α} {y : β}, T.lookup x = some y → (x, y) ∈ T
  | [], _, _, h => by cases h
  | (u, v) :: r, x, y, h => by
    rw [List.lookup_cons] at h
    split at h
    · rename_i e
      cases h
      rw [eq_of_beq e]
      exact .head _
    · exact .tail _ (lookup_mem h)
theorem fn_tab {f : Addr} {loc0 : List MV → List (Option MV)} {fb : St → Option (Fl × St)} {ia : List Int} {b : Bool} {T : List (List Int × List Int)} (h : FnOk G D f (selRun loc0 fb)) (hT : ∀ p ∈ T, selW loc0 fb ia p.1 b = some p.2) : FnOk G D f (tabRun ia b T) := by
  refine h.mono fun args H r e => ?_
  unfold tabRun at e
  simp only [hget_eq, hlen_eq, happ_eq] at e
  unfold selRun
  simp only [hlen_eq, happ_eq]
  split at e
  · rename_i args' a o b'
    split at e
    · rename_i va vo ea eo
      split at e
      · cases e
      · rename_i hao
        rw [if_neg hao]
        split at e
        · rename_i hb
          subst hb
          split at e
          · rename_i hi
            rw [hi]
            obtain ⟨io, e1, e⟩ := bind_some e
            rw [e1]
            obtain ⟨res, e2, e⟩ := Option.map_eq_some_iff.mp e
            show (selW loc0 fb ia io b').map _ = _
            rw [hT _ (lookup_mem e2)]
            exact congrArg some e
          · cases e
        · cases e
    · cases e
  · cases e
end
end
end Mine

set_option Elab.async false
set_option maxRecDepth 100000
set_option maxHeartbeats 4000000
set_option linter.all false
namespace Mine
open PySem PySem.W PySem.Spec PySem.Calls PyProof.Rows
noncomputable section

structure Five where
  a : St → Option (Fl × St)
  b : St → Option (Fl × St)
  c : St → Option (Fl × St)
  d : St → Option (Fl × St)
  e : St → Option (Fl × St)
noncomputable def t148 : { f : Five // ∀ (w : World) (mean : ExcName → Option Value) (mg mb : Str → Option Value) (S : Heap → Prop), FnOk (GG w mean mg mb S) 304 148 (selRun (loc0 4) (seqM f.a (seqM f.b (seqM f.c (seqM f.d f.e))))) } := by
  refine' ⟨⟨_, _, _, _, _⟩, ?main⟩
  case main =>
    intro w mean mg mb S
    dsimp only
    refine' fn_sel (binds := fun Vs => [Str.ofString "above", Str.ofString "order", Str.ofString "odd"].zip Vs) rfl rfl (by decide) ?_ ?_ ?_ (by decide)
      (b_cons (s_asg 3 rfl (ev_new0 ⟨rfl, rfl, rfl⟩ CKS (t73.2 w mean mg mb S) (by decide) (fun _ => rfl)) (fun _ => rfl))
    (b_cons (s_for 4 50 rfl (ev_ty1 (T := "range") ⟨rfl, rfl, rfl, by decide, rfl⟩ ev_int f_range (fun _ => rfl) (fun _ => rfl))
     (b_cons (s_asg 5 rfl (ev_ifExp (tr_plain (ev_loc 2 rfl rfl) (fun _ _ => rfl)) (ev_bin ev_int (ev_loc 4 rfl rfl) o_sub) (ev_loc 4 rfl rfl)) (fun _ => rfl))
     (b_cons (s_if (tr_cmp (ev_item (ev_loc 0 rfl rfl) (ev_loc 5 rfl rfl) (fun _ _ => rfl)) ev_int o_lt rfl)
      (b_cons (s_expr (ev_meth MKadd (ev_loc 3 rfl rfl) (a_cons (ev_loc 5 rfl rfl) a_nil (fun _ => rfl)) (t87.2 w mean mg mb S) (fun _ => rfl) (fun _ => rfl) (fun _ _ => rfl)) (fun _ => rfl))
      b_nil)
      (b_cons (s_expr (ev_meth MKadd (ev_loc 3 rfl rfl) (a_cons (ev_loc 5 rfl rfl) (a_cons (ev_item (ev_loc 0 rfl rfl) (ev_loc 5 rfl rfl) (fun _ _ => rfl)) a_nil (fun _ => rfl)) (fun _ => rfl)) (t87.2 w mean mg mb S) (fun _ => rfl) (fun _ => rfl) (fun _ _ => rfl)) (fun _ => rfl))
      b_nil))
     b_nil)) (fun _ _ => rfl))
    (b_cons (s_expr (ev_meth0 MKprep (ev_loc 3 rfl rfl) (t92.2 w mean mg mb S) (fun _ => rfl)) (fun _ => rfl))
    (b_cons (s_asg 6 rfl (ev_ty1 (T := "list") ⟨rfl, rfl, rfl, by decide, rfl⟩ (ev_meth0 MKready (ev_loc 3 rfl rfl) (t99.2 w mean mg mb S) (fun _ => rfl)) f_list (fun _ => rfl) (fun _ => rfl)) (fun _ => rfl))
    (b_cons (s_for 5 50 rfl (ev_loc 1 rfl rfl)
     (b_cons (s_expr (ev_bm1 (ev_loc 6 rfl rfl) (ev_loc 5 rfl rfl) get_remove o_remove (fun _ => rfl) (fun _ => rfl)) (fun _ => rfl))
     (b_cons (s_expr (ev_meth MKdone (ev_loc 3 rfl rfl) (a_cons (ev_loc 5 rfl rfl) a_nil (fun _ => rfl)) (t120.2 w mean mg mb S) (fun _ => rfl) (fun _ => rfl) (fun _ _ => rfl)) (fun _ => rfl))
     (b_cons (s_asg 6 rfl (ev_bin (ev_loc 6 rfl rfl) (ev_ty1 (T := "list") ⟨rfl, rfl, rfl, by decide, rfl⟩ (ev_meth0 MKready (ev_loc 3 rfl rfl) (t99.2 w mean mg mb S) (fun _ => rfl)) f_list (fun _ => rfl) (fun _ => rfl)) o_cat) (fun _ => rfl))
     b_nil))) (fun _ _ => rfl))
    (b_cons (s_ret (ev_ifExp (tr_plain (ev_meth0 MKact (ev_loc 3 rfl rfl) (t106.2 w mean mg mb S) (fun _ => rfl)) (fun _ _ => rfl)) (ev_loc 6 rfl rfl) (ev_list a_nil)))
    b_nil)))))) rfl rfl rfl (by decide)
    · intro s Vs X hl
      match Vs, hl with
      | [a, b, c], _ => exact BindsTo.of_eq rfl
    · intro Vs hl
      match Vs, hl with
      | [a, b, c], _ =>
        intro y hy
        simp at hy
        rcases hy with rfl | rfl | rfl <;> rfl
    · intro as args Vs h hl
      exact lr_params h hl (by decide) rfl

/-! the call in two parts -/
theorem seqM_assoc (f g h : St → Option (Fl × St)) : seqM f (seqM g h) = seqM (seqM f g) h := by
  funext st
  unfold seqM
  cases f st with
  | none => rfl
  | some x =>
    obtain ⟨fl, s⟩ := x
    cases fl <;> rfl
theorem seqM_next {f g : St → Option (Fl × St)} {st st' : St} (h : f st = some (.next, st')) : seqM f g st = g st' := by
  unfold seqM
  rw [h]
  rfl
noncomputable def setup148 : St → Option (Fl × St) := seqM t148.1.a (seqM t148.1.b (seqM t148.1.c t148.1.d))
noncomputable def full148 : St → Option (Fl × St) := seqM t148.1.a (seqM t148.1.b (seqM t148.1.c (seqM t148.1.d t148.1.e)))
theorem full_eq : full148 = seqM setup148 t148.1.e := by
  unfold full148 setup148
  simp only [seqM_assoc]
theorem fn148 (w : World) (mean : ExcName → Option Value) (mg mb : Str → Option Value) (S : Heap → Prop) : FnOk (GG w mean mg mb S) 304 148 (selRun (loc0 4) full148) := t148.2 w mean mg mb S
noncomputable def start148 (ia : List Int) (b : Bool) (X : MO) : St := ⟨loc0 4 [.ref 0, .ref 1, .bool b], [.list (ia.map .int), X]⟩
noncomputable def rest148 (ia io : List Int) (st : St) : Option (List Int) := (t148.1.e st).bind (selEnd ia io)
theorem sel_two {ia io : List Int} {b : Bool} {nf : MO → St} (h : ∀ X, setup148 (start148 ia b X) = some (.next, nf X)) : selW (loc0 4) full148 ia io b = rest148 ia io (nf (.list (io.map .int))) := by
  unfold selW
  rw [full_eq]
  have := seqM_next (g := t148.1.e) (h (.list (io.map .int)))
  unfold start148 at this
  rw [this]
  rfl
/-- a table is right -/
noncomputable def tabOk (ia : List Int) (nf : MO → St) (T : List (List Int × List Int)) : Bool := T.all fun p => decide (rest148 ia p.1 (nf (.list (p.1.map .int))) = some p.2)
theorem tab_fn {ia : List Int} {b : Bool} {nf : MO → St} {T : List (List Int × List Int)} (h : ∀ X, setup148 (start148 ia b X) = some (.next, nf X)) (hT : tabOk ia nf T = true) (w : World) (mean : ExcName → Option Value) (mg mb : Str → Option Value) (S : Heap → Prop) :
    FnOk (GG w mean mg mb S) 304 148 (tabRun ia b T) := by
  refine fn_tab (fn148 w mean mg mb S) fun p hp => ?_
  have := List.all_eq_true.mp hT p hp
  rw [sel_two h]
  exact of_decide_eq_true this
end
end Mine

set_option Elab.async false
set_option maxRecDepth 100000
set_option maxHeartbeats 4000000
set_option linter.all false
namespace Mine
open PySem PySem.W PySem.Spec PySem.Calls PyProof.Rows
noncomputable section

/-! the script: a list of ints that stands below the law's frame -/
noncomputable def scrS (l : Addr) (vs : List Value) (h : Heap) : Prop := h.IsList l vs.toArray ∧ (∀ v ∈ vs, ∃ a t, v = .int a t) ∧ vs.length ≤ 63
noncomputable def sliceSum (vs : List Value) (k : Int) : Int := (numsOf (slicePick vs.toArray (some k) none (some 3)).toList).sum
noncomputable def sumSliceM (l : Addr) (vs : List Value) : MV → MV → St → Option (MV × St)
  | .out a, .int k, st => if a = l then some (.int (sliceSum vs k), st) else none
  | _, _, _ => none
noncomputable def sumOutM (l : Addr) (vs : List Value) : MV → St → Option (MV × St)
  | .out a, st => if a = l then some (.int (numsOf vs).sum, st) else none
  | _, _ => none
noncomputable def range2M : MV → MV → St → Option (MV × St)
  | .int a, .int b, st => some (.ref (hlen st.H), { st with H := happ st.H (.range a b) })
  | _, _, _ => none

section
variable {G : Gl} {D : Nat} {hn : Bool} {cs : Scope} {l : Addr} {vs : List Value}

theorem Rel.scr {Γ : Fx} (ok : FxOk G D Γ) (hS : G.S = scrS l vs) {as : List Addr} {st : St} {s : Shared} (R : Rel G Γ as st s) : s.heap.IsList l vs.toArray := by
  have := ok.scr
  rw [hS] at this
  obtain ⟨⟨o, a, b⟩, _⟩ := this
  obtain ⟨m, F, _⟩ := R.fr
  exact ⟨o, F.keep _ _ (R.gd.base ok _ _ a), b⟩
theorem scr_ints {Γ : Fx} (ok : FxOk G D Γ) (hS : G.S = scrS l vs) : (∀ v ∈ vs, ∃ a t, v = .int a t) ∧ vs.length ≤ 63 := by
  have := ok.scr
  rw [hS] at this
  exact this.2

theorem f_sumOut {Γ : Fx} (hh : Γ.A.handled = none) {as : List Addr} {st : St} {s : Shared} {a : Addr} {us : List Value} (R : Rel G Γ as st s) (hl : s.heap.IsList a us.toArray) (hi : ∀ v ∈ us, ∃ a t, v = .int a t) {Q : Value → Shared → Prop}
    (q : Post G Γ as (.int (numsOf us).sum) st Q) : wpAny (model G.prog G.w) Γ.A (call (.builtin "sum") [.ref a]) Q bot s := by
  obtain ⟨m, F, l⟩ := R.fr
  refine sumK hh F R.hp.news hl (intsAre_ofList _ hi) fun h' tk t' F' N' => ?_
  exact q as _ _ (List.prefix_refl _) ⟨R.h₀, R.gd, R.gens, R.drawn, R.os, R.low, ⟨m, F', l⟩, R.hp.ofNews N'⟩ ⟨_, rfl⟩

theorem ev_sum {x y : Str} {px pe pos : Pos} {f : St → Option (MV × St)} (b : BName G cs x (.builtin "sum")) (hf : EvOk G D true cs (.Name y pe) f) (hs : ∀ env, starEach [.Name y pe] env = (false, eval (.Name y pe) env) :: starEach [] env) (hc : CallEq (.Name x px) [.Name y pe] pos) (hS : G.S = scrS l vs) :
    EvOk G D true cs (.Call (.Name x px) [.Name y pe] [] pos) (un1 f (sumOutM l vs)) := by
  refine ev_fn1 b hf ?_ hs hc
  intro Γ C as st s v V r st' Q R hv h q
  cases v <;> first | (cases h; done) | skip
  rename_i a
  simp only [sumOutM] at h
  split at h
  · rename_i e
    subst e
    cases h
    cases hv
    exact f_sumOut (C.hh rfl) R (R.scr C.ok hS) (scr_ints C.ok hS).1 q
  · cases h

theorem ev_sumSlice {x y : Str} {px py pc ps p1 pos : Pos} {k : Nat} {e : Expr} {f g : St → Option (MV × St)} (b : BName G cs x (.builtin "sum")) (hf : EvOk G D true cs (.Name y py) f) (hg : EvOk G D true cs e g)
    (hs : ∀ env, starEach [.Subscript (.Name y py) (.Slice (some e) none (some (.Constant (.int 3) k pc)) ps) p1] env = (false, eval (.Subscript (.Name y py) (.Slice (some e) none (some (.Constant (.int 3) k pc)) ps) p1) env) :: starEach [] env)
    (hc : CallEq (.Name x px) [.Subscript (.Name y py) (.Slice (some e) none (some (.Constant (.int 3) k pc)) ps) p1] pos) (hS : G.S = scrS l vs) :
    EvOk G D true cs (.Call (.Name x px) [.Subscript (.Name y py) (.Slice (some e) none (some (.Constant (.int 3) k pc)) ps) p1] [] pos) (bin2 f g (sumSliceM l vs)) := by
  intro Γ C as st s v st' Q R q0 q
  obtain ⟨⟨u, st₁⟩, e1, q1⟩ := bind_some q0
  obtain ⟨⟨z, st₂⟩, e2, h⟩ := bind_some q1
  clear q0 q1
  dsimp only at h
  cases u <;> first | (cases h; done) | skip
  rename_i a
  cases z <;> first | (cases h; done) | skip
  rename_i i
  simp only [sumSliceM] at h
  split at h
  · rename_i e
    subst e
    cases h
    refine Call_ (name_b b C R (callWith_builtin1 (args_cons ?_ (hs _)) (hs _) rfl)) (hc _)
    refine Subscript_ (hf Γ C as st s _ st₁ _ R e1 fun as₁ s₁ Va p₁ R₁ va => ?_)
    cases va
    refine wpAny_Slice (evalPart_some_step (hg Γ C as₁ st₁ s₁ _ _ _ R₁ e2 fun as₂ s₂ Vi p₂ R₂ vi => ?_))
    obtain ⟨t, rfl⟩ := vi
    refine evalPart_none_step (evalPart_some_step (wpAny_Constant_int ?_))
    have hi := scr_ints C.ok hS
    have R3 := R₂.toks (s₂.toks + 1)
    obtain ⟨m, F, lr⟩ := R3.fr
    refine slice_list3 (st := some 3) F R3.hp.news (R3.scr C.ok hS) (.int i t) .none (.int 3 _) (by decide) (fun h' F' N' => ?_) (by with_unfolding_all rfl) (by intro _; with_unfolding_all rfl) (by rw [List.size_toArray, sizeLine_eq]; omega)
    refine args_nil ?_
    have R4 : Rel G Γ as₂ _ { s₂ with heap := h', toks := s₂.toks + 1 } := ⟨R3.h₀, R3.gd, R3.gens, R3.drawn, R3.os, R3.low, ⟨m, F', lr⟩, R3.hp.ofNews fun p hp => N' p (.tail _ hp)⟩
    have hnew := (N' _ (.head _)).1
    refine f_sumOut (us := (slicePick vs.toArray (some i) none (some 3)).toList) (C.hh rfl) R4 ⟨_, hnew, rfl, 0, by simp⟩ (fun v hv => ?_) fun as' s' V p R' hV => q as' s' V (p₁.trans (p₂.trans p)) R' hV
    refine hi.1 v ?_
    unfold slicePick at hv
    simp only [List.toList_toArray, List.mem_filterMap] at hv
    obtain ⟨j, _, hj⟩ := hv
    exact List.mem_of_getElem? (by simpa using hj)
  · cases h

theorem ev_range2 {x : Str} {px pos : Pos} {a b : Expr} {f g : St → Option (MV × St)} (bn : BName G cs x (.type "range")) (hf : EvOk G D hn cs a f) (hg : EvOk G D hn cs b g)
    (hs : ∀ env, starEach [a, b] env = (false, eval a env) :: starEach [b] env) (hs2 : ∀ env, starEach [b] env = (false, eval b env) :: starEach [] env) (hc : CallEq (.Name x px) [a, b] pos)
    (hp : ∀ env pos, (backTo pos (starEach [b] env)).any (·.1) = false) : EvOk G D hn cs (.Call (.Name x px) [a, b] [] pos) (bin2 f g range2M) := by
  intro Γ C as st s v st' Q R h q
  obtain ⟨⟨u, st₁⟩, e1, h⟩ := bind_some h
  obtain ⟨⟨z, st₂⟩, e2, h⟩ := bind_some h
  refine Call_ (name_b bn C R (PyProof.Rows.callWith_type1 (args_cons (hf Γ C as st s u st₁ _ R e1 fun as₁ s₁ V p₁ R₁ hv => args_cons (hg Γ C as₁ st₁ s₁ z st₂ _ R₁ e2 fun as₂ s₂ W p₂ R₂ hw => args_nil ?_) (hs2 _)) (hs _)) (hs _) (hp _ _))) (hc _)
  dsimp only at h
  have hv := hv.mono p₂
  cases u <;> cases z <;> first | (cases h; done) | skip
  obtain ⟨t, rfl⟩ := hv
  obtain ⟨t2, rfl⟩ := hw
  simp only [range2M, hlen_eq, happ_eq] at h
  cases h
  exact call_range_2 (q _ _ _ (p₁.trans (p₂.trans (List.prefix_append ..))) ((R₂.toks (s₂.toks + 1)).alloc (s := { s₂ with toks := s₂.toks + 1 }) rfl ⟨_, _, _, rfl⟩) (VR.last R₂.len.symm))
/-- two locals forgotten -/
noncomputable def forget2 (k j : Nat) (st : St) : St := { st with loc := hset (hset st.loc k none) j none }
theorem LR.forget {cs : Scope} {as : List Addr} {loc : List (Option MV)} {m : Str → Option Value} (r : LR cs as loc m) (k : Nat) : LR cs as (loc.set k none) m := by
  intro j x kd v hx hv
  refine r j x kd v hx ?_
  by_cases e : j = k
  · subst e
    rw [List.getElem?_set] at hv
    simp only [if_true] at hv
    split at hv <;> cases hv
  · rw [List.getElem?_set_ne (Ne.symm e)] at hv
    exact hv
theorem b_forget2 (k j : Nat) {e : List Stmt} {g : St → Option (Fl × St)} (h : BOk G D hn cs e g) : BOk G D hn cs e (fun st => g (forget2 k j st)) := by
  intro Γ C as st s v st' Q R hf q
  refine h Γ C as _ s v st' Q ?_ hf q
  unfold forget2
  simp only [hset_eq]
  obtain ⟨m, F, l⟩ := R.fr
  exact ⟨R.h₀, R.gd, R.gens, R.drawn, R.os, R.low, ⟨m, F, (l.forget k).forget j⟩, R.hp⟩
end
end
end Mine

set_option Elab.async false
set_option maxRecDepth 100000
set_option maxHeartbeats 4000000
set_option linter.all false
namespace Mine
open PySem PySem.W PySem.Spec PySem.Calls PyProof.Rows
noncomputable section

/-- the law in the text -/
structure LawOk (G : Gl) (D : Nat) (fb : St → Option (Fl × St)) : Prop where
  ok : ∃ (name qual : Str) (params : Arguments) (body : List Stmt) (scope : Scope) (dV kV doc pm cdv ct oc : Value) (an od : Option Addr) (osl : Array (Option Value)),
    G.K.lookup 155 = some ⟨oc, od, .func (fnOf name qual params body scope dV kV doc pm an cdv ct), osl⟩ ∧ BOk G D true scope body fb ∧ scope.kind = .function ∧ (scope.names.map (·.1)).Nodup
theorem LawOk.get {G : Gl} {D : Nat} {fb : St → Option (Fl × St)} (h : LawOk G D fb) {name qual : Str} {params : Arguments} {body : List Stmt} {scope : Scope} {dV kV doc pm cdv ct oc : Value} {an od : Option Addr} {osl : Array (Option Value)}
    (e : G.K.lookup 155 = some ⟨oc, od, .func (fnOf name qual params body scope dV kV doc pm an cdv ct), osl⟩) : BOk G D true scope body fb ∧ scope.kind = .function ∧ (scope.names.map (·.1)).Nodup := by
  obtain ⟨_, _, _, _, _, _, _, _, _, _, _, _, _, _, _, h1, h2⟩ := h.ok
  rw [h1] at e
  cases e
  exact h2
structure Four where
  a : St → Option (Fl × St)
  b : St → Option (Fl × St)
  c : St → Option (Fl × St)
  d : St → Option (Fl × St)
noncomputable def tLaw (l : Addr) (vs : List Value) (F : List MV → List MO → Option (MV × List MO)) : { f : Four // ∀ (w : World) (mean : ExcName → Option Value) (mg mb : Str → Option Value), FnOk (GG w mean mg mb (scrS l vs)) 304 148 F → LawOk (GG w mean mg mb (scrS l vs)) 304 (seqM f.a (seqM f.b (seqM f.c (fun st => f.d (forget2 3 0 st))))) } := by
  refine' ⟨⟨_, _, _, _⟩, ?main⟩
  case main =>
  intro w mean mg mb hF
  dsimp only
  refine' ⟨_, _, _, _, _, _, _, _, _, _, _, _, _, _, _, rfl,
    (b_cons (s_asg 1 rfl (ev_list (a_cons (ev_neg ev_int) a_nil (fun _ => rfl))) (fun _ => rfl))
    (b_cons (s_for 2 50 rfl (ev_range2 ⟨rfl, rfl, rfl, by decide, rfl⟩ ev_int ev_int (fun _ => rfl) (fun _ => rfl) (fun _ => rfl) (fun _ _ => rfl))
     (b_cons (s_asg 3 rfl (ev_bin (ev_item (ev_list (a_cons ev_int (a_cons ev_int (a_cons ev_int a_nil (fun _ => rfl)) (fun _ => rfl)) (fun _ => rfl))) (ev_bin (ev_loc 2 rfl rfl) ev_int o_sub) (fun _ _ => rfl)) (ev_sumSlice ⟨rfl, rfl, rfl, by decide, rfl⟩ (ev_loc 0 rfl rfl) (ev_bin (ev_loc 2 rfl rfl) ev_int o_sub) (fun _ => rfl) (fun _ => rfl) rfl) o_add) (fun _ => rfl))
     (b_cons (s_expr (ev_bm1 (ev_loc 1 rfl rfl) (ev_bin (ev_bin (ev_loc 3 rfl rfl) (ev_bin (ev_loc 2 rfl rfl) ev_int o_add) o_fmod) ev_int o_sub) get_append o_append (fun _ => rfl) (fun _ => rfl)) (fun _ => rfl))
     b_nil)) (fun _ _ => rfl))
    (b_cons (s_asg 4 rfl (ev_cmp (ev_bin (ev_sum ⟨rfl, rfl, rfl, by decide, rfl⟩ (ev_loc 0 rfl rfl) (fun _ => rfl) (fun _ => rfl) rfl) ev_int o_fmod) ev_int o_eq rfl) (fun _ => rfl))
    (@b_forget2 _ _ _ _ 3 0 _ _ (@b_cons _ _ _ _ _ _ _ _ (@s_asg _ _ _ _ 5 _ _ _ _ _ rfl (@ev_dict1 _ _ _ _ _ _ _ _ _ ev_int ev_int) (fun _ => rfl))
    (@b_cons _ _ _ _ _ _ _ _ (@s_asg _ _ _ _ 6 _ _ _ _ _ rfl (@ev_dict1 _ _ _ _ _ _ _ _ _ ev_int (ev_list a_nil)) (fun _ => rfl))
    (b_cons (s_for 7 50 rfl (ev_ty1 (T := "range") ⟨rfl, rfl, rfl, by decide, rfl⟩ ev_int f_range (fun _ => rfl) (fun _ => rfl))
     (b_cons (s_asg 8 rfl ev_dict0 (fun _ => rfl))
     (b_cons (s_for 9 50 rfl (ev_loc 5 rfl rfl)
      (b_cons (s_asg 10 rfl (ev_call ⟨rfl, rfl, rfl⟩ rfl (a_cons (ev_loc 1 rfl rfl) (a_cons (ev_item (ev_loc 6 rfl rfl) (ev_loc 9 rfl rfl) (fun _ _ => rfl)) (a_cons (ev_loc 4 rfl rfl) a_nil (fun _ => rfl)) (fun _ => rfl)) (fun _ => rfl)) hF (fun _ => rfl) (fun _ _ => rfl) (fun _ => rfl)) (fun _ => rfl))
      (b_cons (s_for 2 50 rfl (ev_loc 10 rfl rfl)
       (b_cons (s_if (tr_or2 (tr_cmp (ev_bin (ev_bin (ev_loc 9 rfl rfl) (ev_bin ev_int (ev_loc 2 rfl rfl) o_pow) o_fdiv) ev_int o_fmod) ev_int o_eq rfl) (tr_cmp (ev_bm1 (ev_loc 10 rfl rfl) (ev_loc 2 rfl rfl) get_count o_count (fun _ => rfl) (fun _ => rfl)) ev_int o_ne rfl))
        (b_cons (s_ret ev_bool)
        b_nil)
        b_nil)
       (b_cons (s_asg 11 rfl (ev_bin (ev_loc 9 rfl rfl) (ev_bin ev_int (ev_loc 2 rfl rfl) o_pow) o_add) (fun _ => rfl))
       (b_cons (s_if (tr_cmp (ev_loc 11 rfl rfl) (ev_loc 8 rfl rfl) o_notIn rfl)
        (b_cons (s_asgItem ev_int (ev_loc 8 rfl rfl) (ev_loc 11 rfl rfl) (fun _ => rfl))
        (b_cons (s_asgItem (ev_bin (ev_item (ev_loc 6 rfl rfl) (ev_loc 9 rfl rfl) (fun _ _ => rfl)) (ev_list (a_cons (ev_loc 2 rfl rfl) a_nil (fun _ => rfl))) o_cat) (ev_loc 6 rfl rfl) (ev_loc 11 rfl rfl) (fun _ => rfl))
        b_nil))
        b_nil)
       (b_cons (s_augItem (ev_loc 8 rfl rfl) (ev_loc 11 rfl rfl) (ev_item (ev_loc 5 rfl rfl) (ev_loc 9 rfl rfl) (fun _ _ => rfl)) o_iadd (fun _ _ _ => rfl))
       b_nil)))) (fun _ _ => rfl))
      b_nil)) (fun _ _ => rfl))
     (b_cons (s_asg 5 rfl (ev_loc 8 rfl rfl) (fun _ => rfl))
     b_nil))) (fun _ _ => rfl))
    (b_cons (s_asg 12 rfl (ev_list (a_cons ev_int (a_cons ev_int (a_cons ev_int (a_cons ev_int a_nil (fun _ => rfl)) (fun _ => rfl)) (fun _ => rfl)) (fun _ => rfl))) (fun _ => rfl))
    (b_cons (s_for 7 50 rfl (ev_ty1 (T := "range") ⟨rfl, rfl, rfl, by decide, rfl⟩ ev_int f_range (fun _ => rfl) (fun _ => rfl))
     (b_cons (s_asg 2 rfl (ev_bin ev_int (ev_loc 7 rfl rfl) o_sub) (fun _ => rfl))
     (b_cons (s_if (tr_cmp (ev_item (ev_loc 1 rfl rfl) (ev_loc 2 rfl rfl) (fun _ _ => rfl)) ev_int o_ge rfl)
      (b_cons (s_augItem (ev_loc 12 rfl rfl) (ev_item (ev_loc 1 rfl rfl) (ev_loc 2 rfl rfl) (fun _ _ => rfl)) (ev_item (ev_loc 12 rfl rfl) (ev_loc 2 rfl rfl) (fun _ _ => rfl)) o_iadd (fun _ _ _ => rfl))
      b_nil)
      b_nil)
     b_nil)) (fun _ _ => rfl))
    (b_cons (s_ret (ev_and2 (ev_cmp (ev_fn1 (id := "sorted") ⟨rfl, rfl, rfl, by decide, rfl⟩ (ev_loc 5 rfl rfl) f_sorted (fun _ => rfl) (fun _ => rfl)) (ev_list (a_cons ev_int a_nil (fun _ => rfl))) o_eqL rfl) (ev_cmp (ev_bin (ev_bin (ev_bin (ev_bin (ev_item (ev_loc 5 rfl rfl) ev_int (fun _ _ => rfl)) (ev_item (ev_loc 12 rfl rfl) ev_int (fun _ _ => rfl)) o_mul) (ev_item (ev_loc 12 rfl rfl) ev_int (fun _ _ => rfl)) o_mul) (ev_item (ev_loc 12 rfl rfl) ev_int (fun _ _ => rfl)) o_mul) (ev_item (ev_loc 12 rfl rfl) ev_int (fun _ _ => rfl)) o_mul) ev_int o_eq rfl)))
    b_nil)))))))))), rfl, by decide⟩
end
end Mine

set_option Elab.async false
set_option maxRecDepth 100000
set_option maxHeartbeats 4000000
set_option linter.all false
namespace Mine
open PySem PySem.W PySem.Spec PySem.Calls PyProof.Rows
noncomputable section

/-- the law's state behind its first three statements -/
noncomputable def st3 (l : Addr) (a1 a2 a3 c : Int) (b : Bool) : St :=
  ⟨[some (.out l), some (.ref 0), some (.int 3), some (.int c), some (.bool b), none, none, none, none, none, none, none, none],
   [.list [.int (-1), .int a1, .int a2, .int a3], .range 1 4, .junk, .list [.int 1, .int 1, .int 0], .list [.int 1, .int 1, .int 0], .list [.int 1, .int 1, .int 0]]⟩
/-- the same, the script and the cell forgotten -/
noncomputable def st4 (a1 a2 a3 : Int) (b : Bool) : St :=
  ⟨[none, some (.ref 0), some (.int 3), none, some (.bool b), none, none, none, none, none, none, none, none],
   [.list [.int (-1), .int a1, .int a2, .int a3], .range 1 4, .junk, .list [.int 1, .int 1, .int 0], .list [.int 1, .int 1, .int 0], .list [.int 1, .int 1, .int 0]]⟩
theorem st4_eq (l : Addr) (a1 a2 a3 c : Int) (b : Bool) : forget2 3 0 (st3 l a1 a2 a3 c b) = st4 a1 a2 a3 b := rfl
noncomputable def lawStart (l : Addr) : St := ⟨loc0 12 [.out l], []⟩
noncomputable def lawS1 (l : Addr) : St := ⟨[some (.out l), some (.ref 0), none, none, none, none, none, none, none, none, none, none, none], [.list [.int (-1)]]⟩
noncomputable def lawS2 (l : Addr) (a1 a2 a3 c : Int) : St :=
  ⟨[some (.out l), some (.ref 0), some (.int 3), some (.int c), none, none, none, none, none, none, none, none, none],
   [.list [.int (-1), .int a1, .int a2, .int a3], .range 1 4, .junk, .list [.int 1, .int 1, .int 0], .list [.int 1, .int 1, .int 0], .list [.int 1, .int 1, .int 0]]⟩
noncomputable def lawBody (g : MV → MV → St → Option (MV × St)) : St → Option (Fl × St) := seqM
    (asgM 3
      (bin2
        (bin2
          (newListM
            (consM (fun st => some (MV.int 1, st))
              (consM (fun st => some (MV.int 1, st)) (consM (fun st => some (MV.int 0, st)) fun st => some ([], st)))))
          (bin2 (getLoc 2) (fun st => some (MV.int 1, st)) subM) itemM)
        (bin2 (getLoc 0) (bin2 (getLoc 2) (fun st => some (MV.int 1, st)) subM) g) addM))
    (seqM
      (exprM
        (bm1 isListK (getLoc 1)
          (bin2 (bin2 (getLoc 3) (bin2 (getLoc 2) (fun st => some (MV.int 1, st)) addM) fmodM)
            (fun st => some (MV.int 1, st)) subM)
          appendM))
      fun st => some (Fl.next, st))

section
variable {l : Addr} {vs : List Value} {F : List MV → List MO → Option (MV × List MO)}
theorem law_a : (tLaw l vs F).1.a (lawStart l) = some (.next, lawS1 l) := by kernel_rfl
theorem law_b0 : (tLaw l vs F).1.b = forS 2 50 (bin2 (fun st => some (MV.int 1, st)) (fun st => some (MV.int 4, st)) range2M) (lawBody (sumSliceM l vs)) := by kernel_rfl
theorem sumSlice_self {k : Int} {st : St} : sumSliceM l vs (.out l) (.int k) st = some (.int (sliceSum vs k), st) := if_pos rfl

theorem forM_step {k it n : Nat} {body : St → Option (Fl × St)} {v : MV} {st st1 st2 st3 : St} (h1 : nextM it st = some (some v, st1)) (h2 : setLoc k v st1 = some st2) (h3 : body st2 = some (.next, st3)) : forM k it body (n + 1) st = forM k it body n st3 := by
  show (nextM it st).bind _ = _
  rw [h1]
  show (setLoc k v st1).bind _ = _
  rw [h2]
  show (body st2).bind _ = _
  rw [h3]
  rfl
theorem forM_end {k it n : Nat} {body : St → Option (Fl × St)} {st st1 : St} (h1 : nextM it st = some (none, st1)) : forM k it body (n + 1) st = some (.next, st1) := by
  show (nextM it st).bind _ = _
  rw [h1]
  rfl
/-- between the turns: node's place n, cell's place c, the list's items, the rest of the heap -/
noncomputable def lawMid (l : Addr) (n c : Option MV) (xs : List MV) (H : List MO) : St := ⟨[some (.out l), some (.ref 0), n, c, none, none, none, none, none, none, none, none, none], .list xs :: H⟩
theorem law_b : (tLaw l vs F).1.b (lawS1 l) = some (.next, lawS2 l ((1 + sliceSum vs 0).fmod 2 - 1) ((1 + sliceSum vs 1).fmod 3 - 1) ((0 + sliceSum vs 2).fmod 4 - 1) (0 + sliceSum vs 2)) := by
  rw [law_b0]
  have t1 : lawBody (sumSliceM l vs) (lawMid l (some (.int 1)) none [.int (-1)] [.range 1 4, .rangeIt 2 2]) = some (.next, lawMid l (some (.int 1)) (some (.int (1 + sliceSum vs 0))) [.int (-1), .int ((1 + sliceSum vs 0).fmod 2 - 1)] [.range 1 4, .rangeIt 2 2, .list [.int 1, .int 1, .int 0]]) := by
    simp [lawBody, lawMid, bin2, hget_eq, hset_eq, setLoc, seqM, asgM, newListM, consM, getLoc, subM, itemM, addM, exprM, bm1, isListK, fmodM, appendM, sumSlice_self, hlen_eq, happ_eq]
  have t2 : ∀ a, lawBody (sumSliceM l vs) (lawMid l (some (.int 2)) (some (.int (1 + sliceSum vs 0))) [.int (-1), .int a] [.range 1 4, .rangeIt 3 1, .list [.int 1, .int 1, .int 0]]) = some (.next, lawMid l (some (.int 2)) (some (.int (1 + sliceSum vs 1))) [.int (-1), .int a, .int ((1 + sliceSum vs 1).fmod 3 - 1)] [.range 1 4, .rangeIt 3 1, .list [.int 1, .int 1, .int 0], .list [.int 1, .int 1, .int 0]]) := by
    intro a
    simp [lawBody, lawMid, bin2, hget_eq, hset_eq, setLoc, seqM, asgM, newListM, consM, getLoc, subM, itemM, addM, exprM, bm1, isListK, fmodM, appendM, sumSlice_self, hlen_eq, happ_eq]
  have t3 : ∀ a b, lawBody (sumSliceM l vs) (lawMid l (some (.int 3)) (some (.int (1 + sliceSum vs 1))) [.int (-1), .int a, .int b] [.range 1 4, .rangeIt 4 0, .list [.int 1, .int 1, .int 0], .list [.int 1, .int 1, .int 0]]) = some (.next, lawMid l (some (.int 3)) (some (.int (0 + sliceSum vs 2))) [.int (-1), .int a, .int b, .int ((0 + sliceSum vs 2).fmod 4 - 1)] [.range 1 4, .rangeIt 4 0, .list [.int 1, .int 1, .int 0], .list [.int 1, .int 1, .int 0], .list [.int 1, .int 1, .int 0]]) := by
    intro a b
    simp [lawBody, lawMid, bin2, hget_eq, hset_eq, setLoc, seqM, asgM, newListM, consM, getLoc, subM, itemM, addM, exprM, bm1, isListK, fmodM, appendM, sumSlice_self, hlen_eq, happ_eq]
  show forM 2 2 (lawBody (sumSliceM l vs)) 50 (lawMid l none none [.int (-1)] [.range 1 4, .rangeIt 1 3]) = _
  refine (forM_step (v := .int 1) (st1 := lawMid l none none [.int (-1)] [.range 1 4, .rangeIt 2 2]) (by rfl) (by rfl) t1).trans ?_
  refine (forM_step (v := .int 2) (st1 := lawMid l (some (.int 1)) (some (.int (1 + sliceSum vs 0))) [.int (-1), .int ((1 + sliceSum vs 0).fmod 2 - 1)] [.range 1 4, .rangeIt 3 1, .list [.int 1, .int 1, .int 0]]) (by rfl) (by rfl) (t2 _)).trans ?_
  refine (forM_step (v := .int 3) (st1 := lawMid l (some (.int 2)) (some (.int (1 + sliceSum vs 1))) [.int (-1), .int ((1 + sliceSum vs 0).fmod 2 - 1), .int ((1 + sliceSum vs 1).fmod 3 - 1)] [.range 1 4, .rangeIt 4 0, .list [.int 1, .int 1, .int 0], .list [.int 1, .int 1, .int 0]]) (by rfl) (by rfl) (t3 _ _)).trans ?_
  exact forM_end (by rfl)

theorem law_c : (tLaw l vs F).1.c (lawS2 l a1 a2 a3 c) = some (.next, st3 l a1 a2 a3 c ((numsOf vs).sum.fmod 2 == 1)) := by
  show asgM 4 (bin2 (bin2 (un1 (getLoc 0) (sumOutM l vs)) (fun st => some (MV.int 2, st)) fmodM) (fun st => some (MV.int 1, st)) eqM) _ = _
  simp [asgM, bin2, un1, getLoc, hget_eq, hset_eq, sumOutM, fmodM, eqM, setLoc, lawS2, st3]
end
end
end Mine

set_option Elab.async false
set_option maxRecDepth 100000
set_option maxHeartbeats 4000000
set_option linter.all false

namespace Mine
open PySem PySem.W PySem.Spec PySem.Calls PyProof.Rows
noncomputable section

structure Case (a1 a2 a3 : Int) (b : Bool) where
  T : List (List Int × List Int)
  fn : ∀ (w : World) (mean : ExcName → Option Value) (mg mb : Str → Option Value) (S : Heap → Prop), FnOk (GG w mean mg mb S) 304 148 (tabRun [-1, a1, a2, a3] b T)
  law : ∀ (l : Addr) (vs : List Value), ((tLaw l vs (tabRun [-1, a1, a2, a3] b T)).1.d (st4 a1 a2 a3 b)).map (fun x => x.1) = some (.ret (.bool true))
noncomputable def nf0 (X : MO) : St := ⟨[(some (.ref 0)), (some (.ref 1)), (some (.bool false)), (some (.ref 3)), (some (.int 3)), (some (.int 3)), (some (.ref 43))], [(.list [(.int (-1)), (.int (-1)), (.int (-1)), (.int (-1))]), X, (.attrs [(0, (.ref 4)), (1, (.ref 27)), (2, (.int 4)), (3, (.int 0))]), (.inst 137 2 []), (.dict [(0, (.ref 9)), (1, (.ref 14)), (2, (.ref 19)), (3, (.ref 24))] (some 4)), (.range 0 4), .junk, (.tup []), (.attrs []), (.inst 40 8 [(some (.int 0)), (some (.int (-1))), (some (.ref 10))]), (.list []), .junk, (.tup []), (.attrs []), (.inst 40 13 [(some (.int 1)), (some (.int (-1))), (some (.ref 15))]), (.list []), .junk, (.tup []), (.attrs []), (.inst 40 18 [(some (.int 2)), (some (.int (-1))), (some (.ref 20))]), (.list []), .junk, (.tup []), (.attrs []), (.inst 40 23 [(some (.int 3)), (some (.int (-1))), (some (.ref 25))]), (.list []), .junk, (.list []), (.list []), (.list []), (.set [0, 1, 2, 3]), (.dict [] none), .junk, .junk, (.wrap 33), .junk, (.wrap 35), .junk, (.wrap 37), .junk, (.wrap 39), (.tup [(.int 0), (.int 1), (.int 2), (.int 3)]), .junk, (.list [(.int 0), (.int 1), (.int 2), (.int 3)])]⟩
noncomputable def T0 : List (List Int × List Int) := [([], [0, 1, 2, 3]), ([0], [1, 2, 3]), ([1], [0, 2, 3]), ([2], [0, 1, 3]), ([3], [0, 1, 2]), ([0, 1], [2, 3]), ([0, 2], [1, 3]), ([0, 3], [1, 2]), ([1, 2], [0, 3]), ([1, 3], [0, 2]), ([2, 3], [0, 1]), ([0, 1, 2], [3]), ([0, 1, 3], [2]), ([0, 2, 3], [1]), ([1, 2, 3], [0])]
theorem ns0 : ∀ X, setup148 (start148 [-1, -1, -1, -1] false X) = some (.next, nf0 X) := fun X => by kernel_rfl
theorem tk0 : tabOk [-1, -1, -1, -1] nf0 T0 = true := by kernel_rfl
theorem lw0 : ((tLaw 0 [] (tabRun [-1, -1, -1, -1] false T0)).1.d (st4 (-1) (-1) (-1) false)).map (fun x => x.1) = some (.ret (.bool true)) := by kernel_rfl
noncomputable def case0 : Case (-1) (-1) (-1) false := ⟨T0, tab_fn ns0 tk0, fun _ _ => lw0⟩

noncomputable def nf1 (X : MO) : St := ⟨[(some (.ref 0)), (some (.ref 1)), (some (.bool true)), (some (.ref 3)), (some (.int 3)), (some (.int 0)), (some (.ref 43))], [(.list [(.int (-1)), (.int (-1)), (.int (-1)), (.int (-1))]), X, (.attrs [(0, (.ref 4)), (1, (.ref 27)), (2, (.int 4)), (3, (.int 0))]), (.inst 137 2 []), (.dict [(3, (.ref 9)), (2, (.ref 14)), (1, (.ref 19)), (0, (.ref 24))] (some 4)), (.range 0 4), .junk, (.tup []), (.attrs []), (.inst 40 8 [(some (.int 3)), (some (.int (-1))), (some (.ref 10))]), (.list []), .junk, (.tup []), (.attrs []), (.inst 40 13 [(some (.int 2)), (some (.int (-1))), (some (.ref 15))]), (.list []), .junk, (.tup []), (.attrs []), (.inst 40 18 [(some (.int 1)), (some (.int (-1))), (some (.ref 20))]), (.list []), .junk, (.tup []), (.attrs []), (.inst 40 23 [(some (.int 0)), (some (.int (-1))), (some (.ref 25))]), (.list []), .junk, (.list []), (.list []), (.list []), (.set [3, 2, 1, 0]), (.dict [] none), .junk, .junk, (.wrap 33), .junk, (.wrap 35), .junk, (.wrap 37), .junk, (.wrap 39), (.tup [(.int 3), (.int 2), (.int 1), (.int 0)]), .junk, (.list [(.int 3), (.int 2), (.int 1), (.int 0)])]⟩
noncomputable def T1 : List (List Int × List Int) := [([], [3, 2, 1, 0]), ([3], [2, 1, 0]), ([2], [3, 1, 0]), ([1], [3, 2, 0]), ([0], [3, 2, 1]), ([3, 2], [1, 0]), ([3, 1], [2, 0]), ([3, 0], [2, 1]), ([2, 1], [3, 0]), ([2, 0], [3, 1]), ([1, 0], [3, 2]), ([3, 2, 1], [0]), ([3, 2, 0], [1]), ([3, 1, 0], [2]), ([2, 1, 0], [3])]
theorem ns1 : ∀ X, setup148 (start148 [-1, -1, -1, -1] true X) = some (.next, nf1 X) := fun X => by kernel_rfl
theorem tk1 : tabOk [-1, -1, -1, -1] nf1 T1 = true := by kernel_rfl
theorem lw1 : ((tLaw 0 [] (tabRun [-1, -1, -1, -1] true T1)).1.d (st4 (-1) (-1) (-1) true)).map (fun x => x.1) = some (.ret (.bool true)) := by kernel_rfl
noncomputable def case1 : Case (-1) (-1) (-1) true := ⟨T1, tab_fn ns1 tk1, fun _ _ => lw1⟩

noncomputable def nf2 (X : MO) : St := ⟨[(some (.ref 0)), (some (.ref 1)), (some (.bool false)), (some (.ref 3)), (some (.int 3)), (some (.int 3)), (some (.ref 43))], [(.list [(.int (-1)), (.int (-1)), (.int (-1)), (.int 0)]), X, (.attrs [(0, (.ref 4)), (1, (.ref 27)), (2, (.int 3)), (3, (.int 0))]), (.inst 137 2 []), (.dict [(0, (.ref 9)), (1, (.ref 14)), (2, (.ref 19)), (3, (.ref 24))] (some 4)), (.range 0 4), .junk, (.tup []), (.attrs []), (.inst 40 8 [(some (.int 0)), (some (.int (-1))), (some (.ref 10))]), (.list [(.int 3)]), .junk, (.tup []), (.attrs []), (.inst 40 13 [(some (.int 1)), (some (.int (-1))), (some (.ref 15))]), (.list []), .junk, (.tup []), (.attrs []), (.inst 40 18 [(some (.int 2)), (some (.int (-1))), (some (.ref 20))]), (.list []), .junk, (.tup [(.int 0)]), (.attrs []), (.inst 40 23 [(some (.int 3)), (some (.int 1)), (some (.ref 25))]), (.list []), .junk, (.list []), (.list []), (.list []), (.set [0, 3, 1, 2]), (.dict [] none), .junk, .junk, (.wrap 33), .junk, (.wrap 35), .junk, (.wrap 37), .junk, (.wrap 39), (.tup [(.int 0), (.int 1), (.int 2)]), .junk, (.list [(.int 0), (.int 1), (.int 2)])]⟩
noncomputable def T2 : List (List Int × List Int) := [([], [0, 1, 2]), ([0], [1, 2, 3]), ([1], [0, 2]), ([2], [0, 1]), ([0, 1], [2, 3]), ([0, 2], [1, 3]), ([0, 3], [1, 2]), ([1, 2], [0]), ([0, 1, 2], [3]), ([0, 1, 3], [2]), ([0, 2, 3], [1])]
theorem ns2 : ∀ X, setup148 (start148 [-1, -1, -1, 0] false X) = some (.next, nf2 X) := fun X => by kernel_rfl
theorem tk2 : tabOk [-1, -1, -1, 0] nf2 T2 = true := by kernel_rfl
theorem lw2 : ((tLaw 0 [] (tabRun [-1, -1, -1, 0] false T2)).1.d (st4 (-1) (-1) (0) false)).map (fun x => x.1) = some (.ret (.bool true)) := by kernel_rfl
noncomputable def case2 : Case (-1) (-1) (0) false := ⟨T2, tab_fn ns2 tk2, fun _ _ => lw2⟩

noncomputable def nf3 (X : MO) : St := ⟨[(some (.ref 0)), (some (.ref 1)), (some (.bool true)), (some (.ref 3)), (some (.int 3)), (some (.int 0)), (some (.ref 43))], [(.list [(.int (-1)), (.int (-1)), (.int (-1)), (.int 0)]), X, (.attrs [(0, (.ref 4)), (1, (.ref 27)), (2, (.int 3)), (3, (.int 0))]), (.inst 137 2 []), (.dict [(3, (.ref 9)), (0, (.ref 13)), (2, (.ref 17)), (1, (.ref 22))] (some 4)), (.range 0 4), .junk, (.tup [(.int 0)]), (.attrs []), (.inst 40 8 [(some (.int 3)), (some (.int 1)), (some (.ref 10))]), (.list []), .junk, (.attrs []), (.inst 40 12 [(some (.int 0)), (some (.int (-1))), (some (.ref 14))]), (.list [(.int 3)]), (.tup []), (.attrs []), (.inst 40 16 [(some (.int 2)), (some (.int (-1))), (some (.ref 18))]), (.list []), .junk, (.tup []), (.attrs []), (.inst 40 21 [(some (.int 1)), (some (.int (-1))), (some (.ref 23))]), (.list []), .junk, (.tup []), .junk, (.list []), (.list []), (.list []), (.set [3, 0, 2, 1]), (.dict [] none), .junk, .junk, (.wrap 33), .junk, (.wrap 35), .junk, (.wrap 37), .junk, (.wrap 39), (.tup [(.int 0), (.int 2), (.int 1)]), .junk, (.list [(.int 0), (.int 2), (.int 1)])]⟩
noncomputable def T3 : List (List Int × List Int) := [([], [0, 2, 1]), ([0], [2, 1, 3]), ([2], [0, 1]), ([1], [0, 2]), ([0, 2], [1, 3]), ([0, 1], [2, 3]), ([0, 3], [2, 1]), ([2, 1], [0]), ([0, 2, 1], [3]), ([0, 2, 3], [1]), ([0, 1, 3], [2])]
theorem ns3 : ∀ X, setup148 (start148 [-1, -1, -1, 0] true X) = some (.next, nf3 X) := fun X => by kernel_rfl
theorem tk3 : tabOk [-1, -1, -1, 0] nf3 T3 = true := by kernel_rfl
theorem lw3 : ((tLaw 0 [] (tabRun [-1, -1, -1, 0] true T3)).1.d (st4 (-1) (-1) (0) true)).map (fun x => x.1) = some (.ret (.bool true)) := by kernel_rfl
noncomputable def case3 : Case (-1) (-1) (0) true := ⟨T3, tab_fn ns3 tk3, fun _ _ => lw3⟩

noncomputable def nf4 (X : MO) : St := ⟨[(some (.ref 0)), (some (.ref 1)), (some (.bool false)), (some (.ref 3)), (some (.int 3)), (some (.int 3)), (some (.ref 43))], [(.list [(.int (-1)), (.int (-1)), (.int (-1)), (.int 1)]), X, (.attrs [(0, (.ref 4)), (1, (.ref 27)), (2, (.int 3)), (3, (.int 0))]), (.inst 137 2 []), (.dict [(0, (.ref 9)), (1, (.ref 14)), (2, (.ref 19)), (3, (.ref 24))] (some 4)), (.range 0 4), .junk, (.tup []), (.attrs []), (.inst 40 8 [(some (.int 0)), (some (.int (-1))), (some (.ref 10))]), (.list []), .junk, (.tup []), (.attrs []), (.inst 40 13 [(some (.int 1)), (some (.int (-1))), (some (.ref 15))]), (.list [(.int 3)]), .junk, (.tup []), (.attrs []), (.inst 40 18 [(some (.int 2)), (some (.int (-1))), (some (.ref 20))]), (.list []), .junk, (.tup [(.int 1)]), (.attrs []), (.inst 40 23 [(some (.int 3)), (some (.int 1)), (some (.ref 25))]), (.list []), .junk, (.list []), (.list []), (.list []), (.set [0, 1, 3, 2]), (.dict [] none), .junk, .junk, (.wrap 33), .junk, (.wrap 35), .junk, (.wrap 37), .junk, (.wrap 39), (.tup [(.int 0), (.int 1), (.int 2)]), .junk, (.list [(.int 0), (.int 1), (.int 2)])]⟩
noncomputable def T4 : List (List Int × List Int) := [([], [0, 1, 2]), ([0], [1, 2]), ([1], [0, 2, 3]), ([2], [0, 1]), ([0, 1], [2, 3]), ([0, 2], [1]), ([1, 2], [0, 3]), ([1, 3], [0, 2]), ([0, 1, 2], [3]), ([0, 1, 3], [2]), ([1, 2, 3], [0])]
theorem ns4 : ∀ X, setup148 (start148 [-1, -1, -1, 1] false X) = some (.next, nf4 X) := fun X => by kernel_rfl
theorem tk4 : tabOk [-1, -1, -1, 1] nf4 T4 = true := by kernel_rfl
theorem lw4 : ((tLaw 0 [] (tabRun [-1, -1, -1, 1] false T4)).1.d (st4 (-1) (-1) (1) false)).map (fun x => x.1) = some (.ret (.bool true)) := by kernel_rfl
noncomputable def case4 : Case (-1) (-1) (1) false := ⟨T4, tab_fn ns4 tk4, fun _ _ => lw4⟩

noncomputable def nf5 (X : MO) : St := ⟨[(some (.ref 0)), (some (.ref 1)), (some (.bool true)), (some (.ref 3)), (some (.int 3)), (some (.int 0)), (some (.ref 43))], [(.list [(.int (-1)), (.int (-1)), (.int (-1)), (.int 1)]), X, (.attrs [(0, (.ref 4)), (1, (.ref 27)), (2, (.int 3)), (3, (.int 0))]), (.inst 137 2 []), (.dict [(3, (.ref 9)), (1, (.ref 13)), (2, (.ref 17)), (0, (.ref 24))] (some 4)), (.range 0 4), .junk, (.tup [(.int 1)]), (.attrs []), (.inst 40 8 [(some (.int 3)), (some (.int 1)), (some (.ref 10))]), (.list []), .junk, (.attrs []), (.inst 40 12 [(some (.int 1)), (some (.int (-1))), (some (.ref 14))]), (.list [(.int 3)]), (.tup []), (.attrs []), (.inst 40 16 [(some (.int 2)), (some (.int (-1))), (some (.ref 18))]), (.list []), .junk, (.tup []), .junk, (.tup []), (.attrs []), (.inst 40 23 [(some (.int 0)), (some (.int (-1))), (some (.ref 25))]), (.list []), .junk, (.list []), (.list []), (.list []), (.set [3, 1, 2, 0]), (.dict [] none), .junk, .junk, (.wrap 33), .junk, (.wrap 35), .junk, (.wrap 37), .junk, (.wrap 39), (.tup [(.int 1), (.int 2), (.int 0)]), .junk, (.list [(.int 1), (.int 2), (.int 0)])]⟩
noncomputable def T5 : List (List Int × List Int) := [([], [1, 2, 0]), ([1], [2, 0, 3]), ([2], [1, 0]), ([0], [1, 2]), ([1, 2], [0, 3]), ([1, 0], [2, 3]), ([1, 3], [2, 0]), ([2, 0], [1]), ([1, 2, 0], [3]), ([1, 2, 3], [0]), ([1, 0, 3], [2])]
theorem ns5 : ∀ X, setup148 (start148 [-1, -1, -1, 1] true X) = some (.next, nf5 X) := fun X => by kernel_rfl
theorem tk5 : tabOk [-1, -1, -1, 1] nf5 T5 = true := by kernel_rfl
theorem lw5 : ((tLaw 0 [] (tabRun [-1, -1, -1, 1] true T5)).1.d (st4 (-1) (-1) (1) true)).map (fun x => x.1) = some (.ret (.bool true)) := by kernel_rfl
noncomputable def case5 : Case (-1) (-1) (1) true := ⟨T5, tab_fn ns5 tk5, fun _ _ => lw5⟩

noncomputable def nf6 (X : MO) : St := ⟨[(some (.ref 0)), (some (.ref 1)), (some (.bool false)), (some (.ref 3)), (some (.int 3)), (some (.int 3)), (some (.ref 43))], [(.list [(.int (-1)), (.int (-1)), (.int (-1)), (.int 2)]), X, (.attrs [(0, (.ref 4)), (1, (.ref 27)), (2, (.int 3)), (3, (.int 0))]), (.inst 137 2 []), (.dict [(0, (.ref 9)), (1, (.ref 14)), (2, (.ref 19)), (3, (.ref 24))] (some 4)), (.range 0 4), .junk, (.tup []), (.attrs []), (.inst 40 8 [(some (.int 0)), (some (.int (-1))), (some (.ref 10))]), (.list []), .junk, (.tup []), (.attrs []), (.inst 40 13 [(some (.int 1)), (some (.int (-1))), (some (.ref 15))]), (.list []), .junk, (.tup []), (.attrs []), (.inst 40 18 [(some (.int 2)), (some (.int (-1))), (some (.ref 20))]), (.list [(.int 3)]), .junk, (.tup [(.int 2)]), (.attrs []), (.inst 40 23 [(some (.int 3)), (some (.int 1)), (some (.ref 25))]), (.list []), .junk, (.list []), (.list []), (.list []), (.set [0, 1, 2, 3]), (.dict [] none), .junk, .junk, (.wrap 33), .junk, (.wrap 35), .junk, (.wrap 37), .junk, (.wrap 39), (.tup [(.int 0), (.int 1), (.int 2)]), .junk, (.list [(.int 0), (.int 1), (.int 2)])]⟩
noncomputable def T6 : List (List Int × List Int) := [([], [0, 1, 2]), ([0], [1, 2]), ([1], [0, 2]), ([2], [0, 1, 3]), ([0, 1], [2]), ([0, 2], [1, 3]), ([1, 2], [0, 3]), ([2, 3], [0, 1]), ([0, 1, 2], [3]), ([0, 2, 3], [1]), ([1, 2, 3], [0])]
theorem ns6 : ∀ X, setup148 (start148 [-1, -1, -1, 2] false X) = some (.next, nf6 X) := fun X => by kernel_rfl
theorem tk6 : tabOk [-1, -1, -1, 2] nf6 T6 = true := by kernel_rfl
theorem lw6 : ((tLaw 0 [] (tabRun [-1, -1, -1, 2] false T6)).1.d (st4 (-1) (-1) (2) false)).map (fun x => x.1) = some (.ret (.bool true)) := by kernel_rfl
noncomputable def case6 : Case (-1) (-1) (2) false := ⟨T6, tab_fn ns6 tk6, fun _ _ => lw6⟩

noncomputable def nf7 (X : MO) : St := ⟨[(some (.ref 0)), (some (.ref 1)), (some (.bool true)), (some (.ref 3)), (some (.int 3)), (some (.int 0)), (some (.ref 43))], [(.list [(.int (-1)), (.int (-1)), (.int (-1)), (.int 2)]), X, (.attrs [(0, (.ref 4)), (1, (.ref 27)), (2, (.int 3)), (3, (.int 0))]), (.inst 137 2 []), (.dict [(3, (.ref 9)), (2, (.ref 13)), (1, (.ref 19)), (0, (.ref 24))] (some 4)), (.range 0 4), .junk, (.tup [(.int 2)]), (.attrs []), (.inst 40 8 [(some (.int 3)), (some (.int 1)), (some (.ref 10))]), (.list []), .junk, (.attrs []), (.inst 40 12 [(some (.int 2)), (some (.int (-1))), (some (.ref 14))]), (.list [(.int 3)]), (.tup []), .junk, (.tup []), (.attrs []), (.inst 40 18 [(some (.int 1)), (some (.int (-1))), (some (.ref 20))]), (.list []), .junk, (.tup []), (.attrs []), (.inst 40 23 [(some (.int 0)), (some (.int (-1))), (some (.ref 25))]), (.list []), .junk, (.list []), (.list []), (.list []), (.set [3, 2, 1, 0]), (.dict [] none), .junk, .junk, (.wrap 33), .junk, (.wrap 35), .junk, (.wrap 37), .junk, (.wrap 39), (.tup [(.int 2), (.int 1), (.int 0)]), .junk, (.list [(.int 2), (.int 1), (.int 0)])]⟩
noncomputable def T7 : List (List Int × List Int) := [([], [2, 1, 0]), ([2], [1, 0, 3]), ([1], [2, 0]), ([0], [2, 1]), ([2, 1], [0, 3]), ([2, 0], [1, 3]), ([2, 3], [1, 0]), ([1, 0], [2]), ([2, 1, 0], [3]), ([2, 1, 3], [0]), ([2, 0, 3], [1])]
theorem ns7 : ∀ X, setup148 (start148 [-1, -1, -1, 2] true X) = some (.next, nf7 X) := fun X => by kernel_rfl
theorem tk7 : tabOk [-1, -1, -1, 2] nf7 T7 = true := by kernel_rfl
theorem lw7 : ((tLaw 0 [] (tabRun [-1, -1, -1, 2] true T7)).1.d (st4 (-1) (-1) (2) true)).map (fun x => x.1) = some (.ret (.bool true)) := by kernel_rfl
noncomputable def case7 : Case (-1) (-1) (2) true := ⟨T7, tab_fn ns7 tk7, fun _ _ => lw7⟩

noncomputable def nf8 (X : MO) : St := ⟨[(some (.ref 0)), (some (.ref 1)), (some (.bool false)), (some (.ref 3)), (some (.int 3)), (some (.int 3)), (some (.ref 43))], [(.list [(.int (-1)), (.int (-1)), (.int 0), (.int (-1))]), X, (.attrs [(0, (.ref 4)), (1, (.ref 27)), (2, (.int 3)), (3, (.int 0))]), (.inst 137 2 []), (.dict [(0, (.ref 9)), (1, (.ref 14)), (2, (.ref 19)), (3, (.ref 24))] (some 4)), (.range 0 4), .junk, (.tup []), (.attrs []), (.inst 40 8 [(some (.int 0)), (some (.int (-1))), (some (.ref 10))]), (.list [(.int 2)]), .junk, (.tup []), (.attrs []), (.inst 40 13 [(some (.int 1)), (some (.int (-1))), (some (.ref 15))]), (.list []), .junk, (.tup [(.int 0)]), (.attrs []), (.inst 40 18 [(some (.int 2)), (some (.int 1)), (some (.ref 20))]), (.list []), .junk, (.tup []), (.attrs []), (.inst 40 23 [(some (.int 3)), (some (.int (-1))), (some (.ref 25))]), (.list []), .junk, (.list []), (.list []), (.list []), (.set [0, 2, 1, 3]), (.dict [] none), .junk, .junk, (.wrap 33), .junk, (.wrap 35), .junk, (.wrap 37), .junk, (.wrap 39), (.tup [(.int 0), (.int 1), (.int 3)]), .junk, (.list [(.int 0), (.int 1), (.int 3)])]⟩
noncomputable def T8 : List (List Int × List Int) := [([], [0, 1, 3]), ([0], [1, 3, 2]), ([1], [0, 3]), ([3], [0, 1]), ([0, 1], [3, 2]), ([0, 3], [1, 2]), ([0, 2], [1, 3]), ([1, 3], [0]), ([0, 1, 3], [2]), ([0, 1, 2], [3]), ([0, 3, 2], [1])]
theorem ns8 : ∀ X, setup148 (start148 [-1, -1, 0, -1] false X) = some (.next, nf8 X) := fun X => by kernel_rfl
theorem tk8 : tabOk [-1, -1, 0, -1] nf8 T8 = true := by kernel_rfl
theorem lw8 : ((tLaw 0 [] (tabRun [-1, -1, 0, -1] false T8)).1.d (st4 (-1) (0) (-1) false)).map (fun x => x.1) = some (.ret (.bool true)) := by kernel_rfl
noncomputable def case8 : Case (-1) (0) (-1) false := ⟨T8, tab_fn ns8 tk8, fun _ _ => lw8⟩

noncomputable def nf9 (X : MO) : St := ⟨[(some (.ref 0)), (some (.ref 1)), (some (.bool true)), (some (.ref 3)), (some (.int 3)), (some (.int 0)), (some (.ref 43))], [(.list [(.int (-1)), (.int (-1)), (.int 0), (.int (-1))]), X, (.attrs [(0, (.ref 4)), (1, (.ref 27)), (2, (.int 3)), (3, (.int 0))]), (.inst 137 2 []), (.dict [(3, (.ref 9)), (2, (.ref 14)), (0, (.ref 18)), (1, (.ref 22))] (some 4)), (.range 0 4), .junk, (.tup []), (.attrs []), (.inst 40 8 [(some (.int 3)), (some (.int (-1))), (some (.ref 10))]), (.list []), .junk, (.tup [(.int 0)]), (.attrs []), (.inst 40 13 [(some (.int 2)), (some (.int 1)), (some (.ref 15))]), (.list []), .junk, (.attrs []), (.inst 40 17 [(some (.int 0)), (some (.int (-1))), (some (.ref 19))]), (.list [(.int 2)]), (.tup []), (.attrs []), (.inst 40 21 [(some (.int 1)), (some (.int (-1))), (some (.ref 23))]), (.list []), .junk, (.tup []), .junk, (.list []), (.list []), (.list []), (.set [3, 2, 0, 1]), (.dict [] none), .junk, .junk, (.wrap 33), .junk, (.wrap 35), .junk, (.wrap 37), .junk, (.wrap 39), (.tup [(.int 3), (.int 0), (.int 1)]), .junk, (.list [(.int 3), (.int 0), (.int 1)])]⟩
noncomputable def T9 : List (List Int × List Int) := [([], [3, 0, 1]), ([3], [0, 1]), ([0], [3, 1, 2]), ([1], [3, 0]), ([3, 0], [1, 2]), ([3, 1], [0]), ([0, 1], [3, 2]), ([0, 2], [3, 1]), ([3, 0, 1], [2]), ([3, 0, 2], [1]), ([0, 1, 2], [3])]
theorem ns9 : ∀ X, setup148 (start148 [-1, -1, 0, -1] true X) = some (.next, nf9 X) := fun X => by kernel_rfl
theorem tk9 : tabOk [-1, -1, 0, -1] nf9 T9 = true := by kernel_rfl
theorem lw9 : ((tLaw 0 [] (tabRun [-1, -1, 0, -1] true T9)).1.d (st4 (-1) (0) (-1) true)).map (fun x => x.1) = some (.ret (.bool true)) := by kernel_rfl
noncomputable def case9 : Case (-1) (0) (-1) true := ⟨T9, tab_fn ns9 tk9, fun _ _ => lw9⟩

noncomputable def nf10 (X : MO) : St := ⟨[(some (.ref 0)), (some (.ref 1)), (some (.bool false)), (some (.ref 3)), (some (.int 3)), (some (.int 3)), (some (.ref 43))], [(.list [(.int (-1)), (.int (-1)), (.int 0), (.int 0)]), X, (.attrs [(0, (.ref 4)), (1, (.ref 27)), (2, (.int 2)), (3, (.int 0))]), (.inst 137 2 []), (.dict [(0, (.ref 9)), (1, (.ref 14)), (2, (.ref 19)), (3, (.ref 24))] (some 4)), (.range 0 4), .junk, (.tup []), (.attrs []), (.inst 40 8 [(some (.int 0)), (some (.int (-1))), (some (.ref 10))]), (.list [(.int 2), (.int 3)]), .junk, (.tup []), (.attrs []), (.inst 40 13 [(some (.int 1)), (some (.int (-1))), (some (.ref 15))]), (.list []), .junk, (.tup [(.int 0)]), (.attrs []), (.inst 40 18 [(some (.int 2)), (some (.int 1)), (some (.ref 20))]), (.list []), .junk, (.tup [(.int 0)]), (.attrs []), (.inst 40 23 [(some (.int 3)), (some (.int 1)), (some (.ref 25))]), (.list []), .junk, (.list []), (.list []), (.list []), (.set [0, 2, 3, 1]), (.dict [] none), .junk, .junk, (.wrap 33), .junk, (.wrap 35), .junk, (.wrap 37), .junk, (.wrap 39), (.tup [(.int 0), (.int 1)]), .junk, (.list [(.int 0), (.int 1)])]⟩
noncomputable def T10 : List (List Int × List Int) := [([], [0, 1]), ([0], [1, 2, 3]), ([1], [0]), ([0, 1], [2, 3]), ([0, 2], [1, 3]), ([0, 3], [1, 2]), ([0, 1, 2], [3]), ([0, 1, 3], [2]), ([0, 2, 3], [1])]
theorem ns10 : ∀ X, setup148 (start148 [-1, -1, 0, 0] false X) = some (.next, nf10 X) := fun X => by kernel_rfl
theorem tk10 : tabOk [-1, -1, 0, 0] nf10 T10 = true := by kernel_rfl
theorem lw10 : ((tLaw 0 [] (tabRun [-1, -1, 0, 0] false T10)).1.d (st4 (-1) (0) (0) false)).map (fun x => x.1) = some (.ret (.bool true)) := by kernel_rfl
noncomputable def case10 : Case (-1) (0) (0) false := ⟨T10, tab_fn ns10 tk10, fun _ _ => lw10⟩

noncomputable def nf11 (X : MO) : St := ⟨[(some (.ref 0)), (some (.ref 1)), (some (.bool true)), (some (.ref 3)), (some (.int 3)), (some (.int 0)), (some (.ref 43))], [(.list [(.int (-1)), (.int (-1)), (.int 0), (.int 0)]), X, (.attrs [(0, (.ref 4)), (1, (.ref 27)), (2, (.int 2)), (3, (.int 0))]), (.inst 137 2 []), (.dict [(3, (.ref 9)), (0, (.ref 13)), (2, (.ref 17)), (1, (.ref 22))] (some 4)), (.range 0 4), .junk, (.tup [(.int 0)]), (.attrs []), (.inst 40 8 [(some (.int 3)), (some (.int 1)), (some (.ref 10))]), (.list []), .junk, (.attrs []), (.inst 40 12 [(some (.int 0)), (some (.int (-1))), (some (.ref 14))]), (.list [(.int 3), (.int 2)]), (.tup [(.int 0)]), (.attrs []), (.inst 40 16 [(some (.int 2)), (some (.int 1)), (some (.ref 18))]), (.list []), .junk, (.tup []), (.attrs []), (.inst 40 21 [(some (.int 1)), (some (.int (-1))), (some (.ref 23))]), (.list []), .junk, (.tup []), .junk, (.list []), (.list []), (.list []), (.set [3, 0, 2, 1]), (.dict [] none), .junk, .junk, (.wrap 33), .junk, (.wrap 35), .junk, (.wrap 37), .junk, (.wrap 39), (.tup [(.int 0), (.int 1)]), .junk, (.list [(.int 0), (.int 1)])]⟩
noncomputable def T11 : List (List Int × List Int) := [([], [0, 1]), ([0], [1, 3, 2]), ([1], [0]), ([0, 1], [3, 2]), ([0, 3], [1, 2]), ([0, 2], [1, 3]), ([0, 1, 3], [2]), ([0, 1, 2], [3]), ([0, 3, 2], [1])]
theorem ns11 : ∀ X, setup148 (start148 [-1, -1, 0, 0] true X) = some (.next, nf11 X) := fun X => by kernel_rfl
theorem tk11 : tabOk [-1, -1, 0, 0] nf11 T11 = true := by kernel_rfl
theorem lw11 : ((tLaw 0 [] (tabRun [-1, -1, 0, 0] true T11)).1.d (st4 (-1) (0) (0) true)).map (fun x => x.1) = some (.ret (.bool true)) := by kernel_rfl
noncomputable def case11 : Case (-1) (0) (0) true := ⟨T11, tab_fn ns11 tk11, fun _ _ => lw11⟩

noncomputable def nf12 (X : MO) : St := ⟨[(some (.ref 0)), (some (.ref 1)), (some (.bool false)), (some (.ref 3)), (some (.int 3)), (some (.int 3)), (some (.ref 43))], [(.list [(.int (-1)), (.int (-1)), (.int 0), (.int 1)]), X, (.attrs [(0, (.ref 4)), (1, (.ref 27)), (2, (.int 2)), (3, (.int 0))]), (.inst 137 2 []), (.dict [(0, (.ref 9)), (1, (.ref 14)), (2, (.ref 19)), (3, (.ref 24))] (some 4)), (.range 0 4), .junk, (.tup []), (.attrs []), (.inst 40 8 [(some (.int 0)), (some (.int (-1))), (some (.ref 10))]), (.list [(.int 2)]), .junk, (.tup []), (.attrs []), (.inst 40 13 [(some (.int 1)), (some (.int (-1))), (some (.ref 15))]), (.list [(.int 3)]), .junk, (.tup [(.int 0)]), (.attrs []), (.inst 40 18 [(some (.int 2)), (some (.int 1)), (some (.ref 20))]), (.list []), .junk, (.tup [(.int 1)]), (.attrs []), (.inst 40 23 [(some (.int 3)), (some (.int 1)), (some (.ref 25))]), (.list []), .junk, (.list []), (.list []), (.list []), (.set [0, 2, 1, 3]), (.dict [] none), .junk, .junk, (.wrap 33), .junk, (.wrap 35), .junk, (.wrap 37), .junk, (.wrap 39), (.tup [(.int 0), (.int 1)]), .junk, (.list [(.int 0), (.int 1)])]⟩
noncomputable def T12 : List (List Int × List Int) := [([], [0, 1]), ([0], [1, 2]), ([1], [0, 3]), ([0, 1], [2, 3]), ([0, 2], [1]), ([1, 3], [0]), ([0, 1, 2], [3]), ([0, 1, 3], [2])]
theorem ns12 : ∀ X, setup148 (start148 [-1, -1, 0, 1] false X) = some (.next, nf12 X) := fun X => by kernel_rfl
theorem tk12 : tabOk [-1, -1, 0, 1] nf12 T12 = true := by kernel_rfl
theorem lw12 : ((tLaw 0 [] (tabRun [-1, -1, 0, 1] false T12)).1.d (st4 (-1) (0) (1) false)).map (fun x => x.1) = some (.ret (.bool true)) := by kernel_rfl
noncomputable def case12 : Case (-1) (0) (1) false := ⟨T12, tab_fn ns12 tk12, fun _ _ => lw12⟩

noncomputable def nf13 (X : MO) : St := ⟨[(some (.ref 0)), (some (.ref 1)), (some (.bool true)), (some (.ref 3)), (some (.int 3)), (some (.int 0)), (some (.ref 43))], [(.list [(.int (-1)), (.int (-1)), (.int 0), (.int 1)]), X, (.attrs [(0, (.ref 4)), (1, (.ref 27)), (2, (.int 2)), (3, (.int 0))]), (.inst 137 2 []), (.dict [(3, (.ref 9)), (1, (.ref 13)), (2, (.ref 17)), (0, (.ref 21))] (some 4)), (.range 0 4), .junk, (.tup [(.int 1)]), (.attrs []), (.inst 40 8 [(some (.int 3)), (some (.int 1)), (some (.ref 10))]), (.list []), .junk, (.attrs []), (.inst 40 12 [(some (.int 1)), (some (.int (-1))), (some (.ref 14))]), (.list [(.int 3)]), (.tup [(.int 0)]), (.attrs []), (.inst 40 16 [(some (.int 2)), (some (.int 1)), (some (.ref 18))]), (.list []), .junk, (.attrs []), (.inst 40 20 [(some (.int 0)), (some (.int (-1))), (some (.ref 22))]), (.list [(.int 2)]), (.tup []), .junk, (.tup []), .junk, (.list []), (.list []), (.list []), (.set [3, 1, 2, 0]), (.dict [] none), .junk, .junk, (.wrap 33), .junk, (.wrap 35), .junk, (.wrap 37), .junk, (.wrap 39), (.tup [(.int 1), (.int 0)]), .junk, (.list [(.int 1), (.int 0)])]⟩
noncomputable def T13 : List (List Int × List Int) := [([], [1, 0]), ([1], [0, 3]), ([0], [1, 2]), ([1, 0], [3, 2]), ([1, 3], [0]), ([0, 2], [1]), ([1, 0, 3], [2]), ([1, 0, 2], [3])]
theorem ns13 : ∀ X, setup148 (start148 [-1, -1, 0, 1] true X) = some (.next, nf13 X) := fun X => by kernel_rfl
theorem tk13 : tabOk [-1, -1, 0, 1] nf13 T13 = true := by kernel_rfl
theorem lw13 : ((tLaw 0 [] (tabRun [-1, -1, 0, 1] true T13)).1.d (st4 (-1) (0) (1) true)).map (fun x => x.1) = some (.ret (.bool true)) := by kernel_rfl
noncomputable def case13 : Case (-1) (0) (1) true := ⟨T13, tab_fn ns13 tk13, fun _ _ => lw13⟩

noncomputable def nf14 (X : MO) : St := ⟨[(some (.ref 0)), (some (.ref 1)), (some (.bool false)), (some (.ref 3)), (some (.int 3)), (some (.int 3)), (some (.ref 43))], [(.list [(.int (-1)), (.int (-1)), (.int 0), (.int 2)]), X, (.attrs [(0, (.ref 4)), (1, (.ref 27)), (2, (.int 2)), (3, (.int 0))]), (.inst 137 2 []), (.dict [(0, (.ref 9)), (1, (.ref 14)), (2, (.ref 19)), (3, (.ref 24))] (some 4)), (.range 0 4), .junk, (.tup []), (.attrs []), (.inst 40 8 [(some (.int 0)), (some (.int (-1))), (some (.ref 10))]), (.list [(.int 2)]), .junk, (.tup []), (.attrs []), (.inst 40 13 [(some (.int 1)), (some (.int (-1))), (some (.ref 15))]), (.list []), .junk, (.tup [(.int 0)]), (.attrs []), (.inst 40 18 [(some (.int 2)), (some (.int 1)), (some (.ref 20))]), (.list [(.int 3)]), .junk, (.tup [(.int 2)]), (.attrs []), (.inst 40 23 [(some (.int 3)), (some (.int 1)), (some (.ref 25))]), (.list []), .junk, (.list []), (.list []), (.list []), (.set [0, 2, 3, 1]), (.dict [] none), .junk, .junk, (.wrap 33), .junk, (.wrap 35), .junk, (.wrap 37), .junk, (.wrap 39), (.tup [(.int 0), (.int 1)]), .junk, (.list [(.int 0), (.int 1)])]⟩
noncomputable def T14 : List (List Int × List Int) := [([], [0, 1]), ([0], [1, 2]), ([1], [0]), ([0, 1], [2]), ([0, 2], [1, 3]), ([0, 1, 2], [3]), ([0, 2, 3], [1])]
theorem ns14 : ∀ X, setup148 (start148 [-1, -1, 0, 2] false X) = some (.next, nf14 X) := fun X => by kernel_rfl
theorem tk14 : tabOk [-1, -1, 0, 2] nf14 T14 = true := by kernel_rfl
theorem lw14 : ((tLaw 0 [] (tabRun [-1, -1, 0, 2] false T14)).1.d (st4 (-1) (0) (2) false)).map (fun x => x.1) = some (.ret (.bool true)) := by kernel_rfl
noncomputable def case14 : Case (-1) (0) (2) false := ⟨T14, tab_fn ns14 tk14, fun _ _ => lw14⟩

noncomputable def nf15 (X : MO) : St := ⟨[(some (.ref 0)), (some (.ref 1)), (some (.bool true)), (some (.ref 3)), (some (.int 3)), (some (.int 0)), (some (.ref 43))], [(.list [(.int (-1)), (.int (-1)), (.int 0), (.int 2)]), X, (.attrs [(0, (.ref 4)), (1, (.ref 27)), (2, (.int 2)), (3, (.int 0))]), (.inst 137 2 []), (.dict [(3, (.ref 9)), (2, (.ref 13)), (0, (.ref 18)), (1, (.ref 22))] (some 4)), (.range 0 4), .junk, (.tup [(.int 2)]), (.attrs []), (.inst 40 8 [(some (.int 3)), (some (.int 1)), (some (.ref 10))]), (.list []), .junk, (.attrs []), (.inst 40 12 [(some (.int 2)), (some (.int 1)), (some (.ref 14))]), (.list [(.int 3)]), (.tup [(.int 0)]), .junk, (.attrs []), (.inst 40 17 [(some (.int 0)), (some (.int (-1))), (some (.ref 19))]), (.list [(.int 2)]), (.tup []), (.attrs []), (.inst 40 21 [(some (.int 1)), (some (.int (-1))), (some (.ref 23))]), (.list []), .junk, (.tup []), .junk, (.list []), (.list []), (.list []), (.set [3, 2, 0, 1]), (.dict [] none), .junk, .junk, (.wrap 33), .junk, (.wrap 35), .junk, (.wrap 37), .junk, (.wrap 39), (.tup [(.int 0), (.int 1)]), .junk, (.list [(.int 0), (.int 1)])]⟩
noncomputable def T15 : List (List Int × List Int) := [([], [0, 1]), ([0], [1, 2]), ([1], [0]), ([0, 1], [2]), ([0, 2], [1, 3]), ([0, 1, 2], [3]), ([0, 2, 3], [1])]
theorem ns15 : ∀ X, setup148 (start148 [-1, -1, 0, 2] true X) = some (.next, nf15 X) := fun X => by kernel_rfl
theorem tk15 : tabOk [-1, -1, 0, 2] nf15 T15 = true := by kernel_rfl
theorem lw15 : ((tLaw 0 [] (tabRun [-1, -1, 0, 2] true T15)).1.d (st4 (-1) (0) (2) true)).map (fun x => x.1) = some (.ret (.bool true)) := by kernel_rfl
noncomputable def case15 : Case (-1) (0) (2) true := ⟨T15, tab_fn ns15 tk15, fun _ _ => lw15⟩

noncomputable def nf16 (X : MO) : St := ⟨[(some (.ref 0)), (some (.ref 1)), (some (.bool false)), (some (.ref 3)), (some (.int 3)), (some (.int 3)), (some (.ref 43))], [(.list [(.int (-1)), (.int (-1)), (.int 1), (.int (-1))]), X, (.attrs [(0, (.ref 4)), (1, (.ref 27)), (2, (.int 3)), (3, (.int 0))]), (.inst 137 2 []), (.dict [(0, (.ref 9)), (1, (.ref 14)), (2, (.ref 19)), (3, (.ref 24))] (some 4)), (.range 0 4), .junk, (.tup []), (.attrs []), (.inst 40 8 [(some (.int 0)), (some (.int (-1))), (some (.ref 10))]), (.list []), .junk, (.tup []), (.attrs []), (.inst 40 13 [(some (.int 1)), (some (.int (-1))), (some (.ref 15))]), (.list [(.int 2)]), .junk, (.tup [(.int 1)]), (.attrs []), (.inst 40 18 [(some (.int 2)), (some (.int 1)), (some (.ref 20))]), (.list []), .junk, (.tup []), (.attrs []), (.inst 40 23 [(some (.int 3)), (some (.int (-1))), (some (.ref 25))]), (.list []), .junk, (.list []), (.list []), (.list []), (.set [0, 1, 2, 3]), (.dict [] none), .junk, .junk, (.wrap 33), .junk, (.wrap 35), .junk, (.wrap 37), .junk, (.wrap 39), (.tup [(.int 0), (.int 1), (.int 3)]), .junk, (.list [(.int 0), (.int 1), (.int 3)])]⟩
noncomputable def T16 : List (List Int × List Int) := [([], [0, 1, 3]), ([0], [1, 3]), ([1], [0, 3, 2]), ([3], [0, 1]), ([0, 1], [3, 2]), ([0, 3], [1]), ([1, 3], [0, 2]), ([1, 2], [0, 3]), ([0, 1, 3], [2]), ([0, 1, 2], [3]), ([1, 3, 2], [0])]
theorem ns16 : ∀ X, setup148 (start148 [-1, -1, 1, -1] false X) = some (.next, nf16 X) := fun X => by kernel_rfl
theorem tk16 : tabOk [-1, -1, 1, -1] nf16 T16 = true := by kernel_rfl
theorem lw16 : ((tLaw 0 [] (tabRun [-1, -1, 1, -1] false T16)).1.d (st4 (-1) (1) (-1) false)).map (fun x => x.1) = some (.ret (.bool true)) := by kernel_rfl
noncomputable def case16 : Case (-1) (1) (-1) false := ⟨T16, tab_fn ns16 tk16, fun _ _ => lw16⟩

noncomputable def nf17 (X : MO) : St := ⟨[(some (.ref 0)), (some (.ref 1)), (some (.bool true)), (some (.ref 3)), (some (.int 3)), (some (.int 0)), (some (.ref 43))], [(.list [(.int (-1)), (.int (-1)), (.int 1), (.int (-1))]), X, (.attrs [(0, (.ref 4)), (1, (.ref 27)), (2, (.int 3)), (3, (.int 0))]), (.inst 137 2 []), (.dict [(3, (.ref 9)), (2, (.ref 14)), (1, (.ref 18)), (0, (.ref 24))] (some 4)), (.range 0 4), .junk, (.tup []), (.attrs []), (.inst 40 8 [(some (.int 3)), (some (.int (-1))), (some (.ref 10))]), (.list []), .junk, (.tup [(.int 1)]), (.attrs []), (.inst 40 13 [(some (.int 2)), (some (.int 1)), (some (.ref 15))]), (.list []), .junk, (.attrs []), (.inst 40 17 [(some (.int 1)), (some (.int (-1))), (some (.ref 19))]), (.list [(.int 2)]), (.tup []), .junk, (.tup []), (.attrs []), (.inst 40 23 [(some (.int 0)), (some (.int (-1))), (some (.ref 25))]), (.list []), .junk, (.list []), (.list []), (.list []), (.set [3, 2, 1, 0]), (.dict [] none), .junk, .junk, (.wrap 33), .junk, (.wrap 35), .junk, (.wrap 37), .junk, (.wrap 39), (.tup [(.int 3), (.int 1), (.int 0)]), .junk, (.list [(.int 3), (.int 1), (.int 0)])]⟩
noncomputable def T17 : List (List Int × List Int) := [([], [3, 1, 0]), ([3], [1, 0]), ([1], [3, 0, 2]), ([0], [3, 1]), ([3, 1], [0, 2]), ([3, 0], [1]), ([1, 0], [3, 2]), ([1, 2], [3, 0]), ([3, 1, 0], [2]), ([3, 1, 2], [0]), ([1, 0, 2], [3])]
theorem ns17 : ∀ X, setup148 (start148 [-1, -1, 1, -1] true X) = some (.next, nf17 X) := fun X => by kernel_rfl
theorem tk17 : tabOk [-1, -1, 1, -1] nf17 T17 = true := by kernel_rfl
theorem lw17 : ((tLaw 0 [] (tabRun [-1, -1, 1, -1] true T17)).1.d (st4 (-1) (1) (-1) true)).map (fun x => x.1) = some (.ret (.bool true)) := by kernel_rfl
noncomputable def case17 : Case (-1) (1) (-1) true := ⟨T17, tab_fn ns17 tk17, fun _ _ => lw17⟩

noncomputable def nf18 (X : MO) : St := ⟨[(some (.ref 0)), (some (.ref 1)), (some (.bool false)), (some (.ref 3)), (some (.int 3)), (some (.int 3)), (some (.ref 43))], [(.list [(.int (-1)), (.int (-1)), (.int 1), (.int 0)]), X, (.attrs [(0, (.ref 4)), (1, (.ref 27)), (2, (.int 2)), (3, (.int 0))]), (.inst 137 2 []), (.dict [(0, (.ref 9)), (1, (.ref 14)), (2, (.ref 19)), (3, (.ref 24))] (some 4)), (.range 0 4), .junk, (.tup []), (.attrs []), (.inst 40 8 [(some (.int 0)), (some (.int (-1))), (some (.ref 10))]), (.list [(.int 3)]), .junk, (.tup []), (.attrs []), (.inst 40 13 [(some (.int 1)), (some (.int (-1))), (some (.ref 15))]), (.list [(.int 2)]), .junk, (.tup [(.int 1)]), (.attrs []), (.inst 40 18 [(some (.int 2)), (some (.int 1)), (some (.ref 20))]), (.list []), .junk, (.tup [(.int 0)]), (.attrs []), (.inst 40 23 [(some (.int 3)), (some (.int 1)), (some (.ref 25))]), (.list []), .junk, (.list []), (.list []), (.list []), (.set [0, 3, 1, 2]), (.dict [] none), .junk, .junk, (.wrap 33), .junk, (.wrap 35), .junk, (.wrap 37), .junk, (.wrap 39), (.tup [(.int 0), (.int 1)]), .junk, (.list [(.int 0), (.int 1)])]⟩
noncomputable def T18 : List (List Int × List Int) := [([], [0, 1]), ([0], [1, 3]), ([1], [0, 2]), ([0, 1], [3, 2]), ([0, 3], [1]), ([1, 2], [0]), ([0, 1, 3], [2]), ([0, 1, 2], [3])]
theorem ns18 : ∀ X, setup148 (start148 [-1, -1, 1, 0] false X) = some (.next, nf18 X) := fun X => by kernel_rfl
theorem tk18 : tabOk [-1, -1, 1, 0] nf18 T18 = true := by kernel_rfl
theorem lw18 : ((tLaw 0 [] (tabRun [-1, -1, 1, 0] false T18)).1.d (st4 (-1) (1) (0) false)).map (fun x => x.1) = some (.ret (.bool true)) := by kernel_rfl
noncomputable def case18 : Case (-1) (1) (0) false := ⟨T18, tab_fn ns18 tk18, fun _ _ => lw18⟩

noncomputable def nf19 (X : MO) : St := ⟨[(some (.ref 0)), (some (.ref 1)), (some (.bool true)), (some (.ref 3)), (some (.int 3)), (some (.int 0)), (some (.ref 43))], [(.list [(.int (-1)), (.int (-1)), (.int 1), (.int 0)]), X, (.attrs [(0, (.ref 4)), (1, (.ref 27)), (2, (.int 2)), (3, (.int 0))]), (.inst 137 2 []), (.dict [(3, (.ref 9)), (0, (.ref 13)), (2, (.ref 17)), (1, (.ref 21))] (some 4)), (.range 0 4), .junk, (.tup [(.int 0)]), (.attrs []), (.inst 40 8 [(some (.int 3)), (some (.int 1)), (some (.ref 10))]), (.list []), .junk, (.attrs []), (.inst 40 12 [(some (.int 0)), (some (.int (-1))), (some (.ref 14))]), (.list [(.int 3)]), (.tup [(.int 1)]), (.attrs []), (.inst 40 16 [(some (.int 2)), (some (.int 1)), (some (.ref 18))]), (.list []), .junk, (.attrs []), (.inst 40 20 [(some (.int 1)), (some (.int (-1))), (some (.ref 22))]), (.list [(.int 2)]), (.tup []), .junk, (.tup []), .junk, (.list []), (.list []), (.list []), (.set [3, 0, 2, 1]), (.dict [] none), .junk, .junk, (.wrap 33), .junk, (.wrap 35), .junk, (.wrap 37), .junk, (.wrap 39), (.tup [(.int 0), (.int 1)]), .junk, (.list [(.int 0), (.int 1)])]⟩
noncomputable def T19 : List (List Int × List Int) := [([], [0, 1]), ([0], [1, 3]), ([1], [0, 2]), ([0, 1], [3, 2]), ([0, 3], [1]), ([1, 2], [0]), ([0, 1, 3], [2]), ([0, 1, 2], [3])]
theorem ns19 : ∀ X, setup148 (start148 [-1, -1, 1, 0] true X) = some (.next, nf19 X) := fun X => by kernel_rfl
theorem tk19 : tabOk [-1, -1, 1, 0] nf19 T19 = true := by kernel_rfl
theorem lw19 : ((tLaw 0 [] (tabRun [-1, -1, 1, 0] true T19)).1.d (st4 (-1) (1) (0) true)).map (fun x => x.1) = some (.ret (.bool true)) := by kernel_rfl
noncomputable def case19 : Case (-1) (1) (0) true := ⟨T19, tab_fn ns19 tk19, fun _ _ => lw19⟩

noncomputable def nf20 (X : MO) : St := ⟨[(some (.ref 0)), (some (.ref 1)), (some (.bool false)), (some (.ref 3)), (some (.int 3)), (some (.int 3)), (some (.ref 43))], [(.list [(.int (-1)), (.int (-1)), (.int 1), (.int 1)]), X, (.attrs [(0, (.ref 4)), (1, (.ref 27)), (2, (.int 2)), (3, (.int 0))]), (.inst 137 2 []), (.dict [(0, (.ref 9)), (1, (.ref 14)), (2, (.ref 19)), (3, (.ref 24))] (some 4)), (.range 0 4), .junk, (.tup []), (.attrs []), (.inst 40 8 [(some (.int 0)), (some (.int (-1))), (some (.ref 10))]), (.list []), .junk, (.tup []), (.attrs []), (.inst 40 13 [(some (.int 1)), (some (.int (-1))), (some (.ref 15))]), (.list [(.int 2), (.int 3)]), .junk, (.tup [(.int 1)]), (.attrs []), (.inst 40 18 [(some (.int 2)), (some (.int 1)), (some (.ref 20))]), (.list []), .junk, (.tup [(.int 1)]), (.attrs []), (.inst 40 23 [(some (.int 3)), (some (.int 1)), (some (.ref 25))]), (.list []), .junk, (.list []), (.list []), (.list []), (.set [0, 1, 2, 3]), (.dict [] none), .junk, .junk, (.wrap 33), .junk, (.wrap 35), .junk, (.wrap 37), .junk, (.wrap 39), (.tup [(.int 0), (.int 1)]), .junk, (.list [(.int 0), (.int 1)])]⟩
noncomputable def T20 : List (List Int × List Int) := [([], [0, 1]), ([0], [1]), ([1], [0, 2, 3]), ([0, 1], [2, 3]), ([1, 2], [0, 3]), ([1, 3], [0, 2]), ([0, 1, 2], [3]), ([0, 1, 3], [2]), ([1, 2, 3], [0])]
theorem ns20 : ∀ X, setup148 (start148 [-1, -1, 1, 1] false X) = some (.next, nf20 X) := fun X => by kernel_rfl
theorem tk20 : tabOk [-1, -1, 1, 1] nf20 T20 = true := by kernel_rfl
theorem lw20 : ((tLaw 0 [] (tabRun [-1, -1, 1, 1] false T20)).1.d (st4 (-1) (1) (1) false)).map (fun x => x.1) = some (.ret (.bool true)) := by kernel_rfl
noncomputable def case20 : Case (-1) (1) (1) false := ⟨T20, tab_fn ns20 tk20, fun _ _ => lw20⟩

noncomputable def nf21 (X : MO) : St := ⟨[(some (.ref 0)), (some (.ref 1)), (some (.bool true)), (some (.ref 3)), (some (.int 3)), (some (.int 0)), (some (.ref 43))], [(.list [(.int (-1)), (.int (-1)), (.int 1), (.int 1)]), X, (.attrs [(0, (.ref 4)), (1, (.ref 27)), (2, (.int 2)), (3, (.int 0))]), (.inst 137 2 []), (.dict [(3, (.ref 9)), (1, (.ref 13)), (2, (.ref 17)), (0, (.ref 24))] (some 4)), (.range 0 4), .junk, (.tup [(.int 1)]), (.attrs []), (.inst 40 8 [(some (.int 3)), (some (.int 1)), (some (.ref 10))]), (.list []), .junk, (.attrs []), (.inst 40 12 [(some (.int 1)), (some (.int (-1))), (some (.ref 14))]), (.list [(.int 3), (.int 2)]), (.tup [(.int 1)]), (.attrs []), (.inst 40 16 [(some (.int 2)), (some (.int 1)), (some (.ref 18))]), (.list []), .junk, (.tup []), .junk, (.tup []), (.attrs []), (.inst 40 23 [(some (.int 0)), (some (.int (-1))), (some (.ref 25))]), (.list []), .junk, (.list []), (.list []), (.list []), (.set [3, 1, 2, 0]), (.dict [] none), .junk, .junk, (.wrap 33), .junk, (.wrap 35), .junk, (.wrap 37), .junk, (.wrap 39), (.tup [(.int 1), (.int 0)]), .junk, (.list [(.int 1), (.int 0)])]⟩
noncomputable def T21 : List (List Int × List Int) := [([], [1, 0]), ([1], [0, 3, 2]), ([0], [1]), ([1, 0], [3, 2]), ([1, 3], [0, 2]), ([1, 2], [0, 3]), ([1, 0, 3], [2]), ([1, 0, 2], [3]), ([1, 3, 2], [0])]
theorem ns21 : ∀ X, setup148 (start148 [-1, -1, 1, 1] true X) = some (.next, nf21 X) := fun X => by kernel_rfl
theorem tk21 : tabOk [-1, -1, 1, 1] nf21 T21 = true := by kernel_rfl
theorem lw21 : ((tLaw 0 [] (tabRun [-1, -1, 1, 1] true T21)).1.d (st4 (-1) (1) (1) true)).map (fun x => x.1) = some (.ret (.bool true)) := by kernel_rfl
noncomputable def case21 : Case (-1) (1) (1) true := ⟨T21, tab_fn ns21 tk21, fun _ _ => lw21⟩

noncomputable def nf22 (X : MO) : St := ⟨[(some (.ref 0)), (some (.ref 1)), (some (.bool false)), (some (.ref 3)), (some (.int 3)), (some (.int 3)), (some (.ref 43))], [(.list [(.int (-1)), (.int (-1)), (.int 1), (.int 2)]), X, (.attrs [(0, (.ref 4)), (1, (.ref 27)), (2, (.int 2)), (3, (.int 0))]), (.inst 137 2 []), (.dict [(0, (.ref 9)), (1, (.ref 14)), (2, (.ref 19)), (3, (.ref 24))] (some 4)), (.range 0 4), .junk, (.tup []), (.attrs []), (.inst 40 8 [(some (.int 0)), (some (.int (-1))), (some (.ref 10))]), (.list []), .junk, (.tup []), (.attrs []), (.inst 40 13 [(some (.int 1)), (some (.int (-1))), (some (.ref 15))]), (.list [(.int 2)]), .junk, (.tup [(.int 1)]), (.attrs []), (.inst 40 18 [(some (.int 2)), (some (.int 1)), (some (.ref 20))]), (.list [(.int 3)]), .junk, (.tup [(.int 2)]), (.attrs []), (.inst 40 23 [(some (.int 3)), (some (.int 1)), (some (.ref 25))]), (.list []), .junk, (.list []), (.list []), (.list []), (.set [0, 1, 2, 3]), (.dict [] none), .junk, .junk, (.wrap 33), .junk, (.wrap 35), .junk, (.wrap 37), .junk, (.wrap 39), (.tup [(.int 0), (.int 1)]), .junk, (.list [(.int 0), (.int 1)])]⟩
noncomputable def T22 : List (List Int × List Int) := [([], [0, 1]), ([0], [1]), ([1], [0, 2]), ([0, 1], [2]), ([1, 2], [0, 3]), ([0, 1, 2], [3]), ([1, 2, 3], [0])]
theorem ns22 : ∀ X, setup148 (start148 [-1, -1, 1, 2] false X) = some (.next, nf22 X) := fun X => by kernel_rfl
theorem tk22 : tabOk [-1, -1, 1, 2] nf22 T22 = true := by kernel_rfl
theorem lw22 : ((tLaw 0 [] (tabRun [-1, -1, 1, 2] false T22)).1.d (st4 (-1) (1) (2) false)).map (fun x => x.1) = some (.ret (.bool true)) := by kernel_rfl
noncomputable def case22 : Case (-1) (1) (2) false := ⟨T22, tab_fn ns22 tk22, fun _ _ => lw22⟩

noncomputable def nf23 (X : MO) : St := ⟨[(some (.ref 0)), (some (.ref 1)), (some (.bool true)), (some (.ref 3)), (some (.int 3)), (some (.int 0)), (some (.ref 43))], [(.list [(.int (-1)), (.int (-1)), (.int 1), (.int 2)]), X, (.attrs [(0, (.ref 4)), (1, (.ref 27)), (2, (.int 2)), (3, (.int 0))]), (.inst 137 2 []), (.dict [(3, (.ref 9)), (2, (.ref 13)), (1, (.ref 18)), (0, (.ref 24))] (some 4)), (.range 0 4), .junk, (.tup [(.int 2)]), (.attrs []), (.inst 40 8 [(some (.int 3)), (some (.int 1)), (some (.ref 10))]), (.list []), .junk, (.attrs []), (.inst 40 12 [(some (.int 2)), (some (.int 1)), (some (.ref 14))]), (.list [(.int 3)]), (.tup [(.int 1)]), .junk, (.attrs []), (.inst 40 17 [(some (.int 1)), (some (.int (-1))), (some (.ref 19))]), (.list [(.int 2)]), (.tup []), .junk, (.tup []), (.attrs []), (.inst 40 23 [(some (.int 0)), (some (.int (-1))), (some (.ref 25))]), (.list []), .junk, (.list []), (.list []), (.list []), (.set [3, 2, 1, 0]), (.dict [] none), .junk, .junk, (.wrap 33), .junk, (.wrap 35), .junk, (.wrap 37), .junk, (.wrap 39), (.tup [(.int 1), (.int 0)]), .junk, (.list [(.int 1), (.int 0)])]⟩
noncomputable def T23 : List (List Int × List Int) := [([], [1, 0]), ([1], [0, 2]), ([0], [1]), ([1, 0], [2]), ([1, 2], [0, 3]), ([1, 0, 2], [3]), ([1, 2, 3], [0])]
theorem ns23 : ∀ X, setup148 (start148 [-1, -1, 1, 2] true X) = some (.next, nf23 X) := fun X => by kernel_rfl
theorem tk23 : tabOk [-1, -1, 1, 2] nf23 T23 = true := by kernel_rfl
theorem lw23 : ((tLaw 0 [] (tabRun [-1, -1, 1, 2] true T23)).1.d (st4 (-1) (1) (2) true)).map (fun x => x.1) = some (.ret (.bool true)) := by kernel_rfl
noncomputable def case23 : Case (-1) (1) (2) true := ⟨T23, tab_fn ns23 tk23, fun _ _ => lw23⟩

noncomputable def nf24 (X : MO) : St := ⟨[(some (.ref 0)), (some (.ref 1)), (some (.bool false)), (some (.ref 3)), (some (.int 3)), (some (.int 3)), (some (.ref 43))], [(.list [(.int (-1)), (.int 0), (.int (-1)), (.int (-1))]), X, (.attrs [(0, (.ref 4)), (1, (.ref 27)), (2, (.int 3)), (3, (.int 0))]), (.inst 137 2 []), (.dict [(0, (.ref 9)), (1, (.ref 14)), (2, (.ref 19)), (3, (.ref 24))] (some 4)), (.range 0 4), .junk, (.tup []), (.attrs []), (.inst 40 8 [(some (.int 0)), (some (.int (-1))), (some (.ref 10))]), (.list [(.int 1)]), .junk, (.tup [(.int 0)]), (.attrs []), (.inst 40 13 [(some (.int 1)), (some (.int 1)), (some (.ref 15))]), (.list []), .junk, (.tup []), (.attrs []), (.inst 40 18 [(some (.int 2)), (some (.int (-1))), (some (.ref 20))]), (.list []), .junk, (.tup []), (.attrs []), (.inst 40 23 [(some (.int 3)), (some (.int (-1))), (some (.ref 25))]), (.list []), .junk, (.list []), (.list []), (.list []), (.set [0, 1, 2, 3]), (.dict [] none), .junk, .junk, (.wrap 33), .junk, (.wrap 35), .junk, (.wrap 37), .junk, (.wrap 39), (.tup [(.int 0), (.int 2), (.int 3)]), .junk, (.list [(.int 0), (.int 2), (.int 3)])]⟩
noncomputable def T24 : List (List Int × List Int) := [([], [0, 2, 3]), ([0], [2, 3, 1]), ([2], [0, 3]), ([3], [0, 2]), ([0, 2], [3, 1]), ([0, 3], [2, 1]), ([0, 1], [2, 3]), ([2, 3], [0]), ([0, 2, 3], [1]), ([0, 2, 1], [3]), ([0, 3, 1], [2])]
theorem ns24 : ∀ X, setup148 (start148 [-1, 0, -1, -1] false X) = some (.next, nf24 X) := fun X => by kernel_rfl
theorem tk24 : tabOk [-1, 0, -1, -1] nf24 T24 = true := by kernel_rfl
theorem lw24 : ((tLaw 0 [] (tabRun [-1, 0, -1, -1] false T24)).1.d (st4 (0) (-1) (-1) false)).map (fun x => x.1) = some (.ret (.bool true)) := by kernel_rfl
noncomputable def case24 : Case (0) (-1) (-1) false := ⟨T24, tab_fn ns24 tk24, fun _ _ => lw24⟩

noncomputable def nf25 (X : MO) : St := ⟨[(some (.ref 0)), (some (.ref 1)), (some (.bool true)), (some (.ref 3)), (some (.int 3)), (some (.int 0)), (some (.ref 43))], [(.list [(.int (-1)), (.int 0), (.int (-1)), (.int (-1))]), X, (.attrs [(0, (.ref 4)), (1, (.ref 27)), (2, (.int 3)), (3, (.int 0))]), (.inst 137 2 []), (.dict [(3, (.ref 9)), (2, (.ref 14)), (1, (.ref 19)), (0, (.ref 23))] (some 4)), (.range 0 4), .junk, (.tup []), (.attrs []), (.inst 40 8 [(some (.int 3)), (some (.int (-1))), (some (.ref 10))]), (.list []), .junk, (.tup []), (.attrs []), (.inst 40 13 [(some (.int 2)), (some (.int (-1))), (some (.ref 15))]), (.list []), .junk, (.tup [(.int 0)]), (.attrs []), (.inst 40 18 [(some (.int 1)), (some (.int 1)), (some (.ref 20))]), (.list []), .junk, (.attrs []), (.inst 40 22 [(some (.int 0)), (some (.int (-1))), (some (.ref 24))]), (.list [(.int 1)]), (.tup []), .junk, (.list []), (.list []), (.list []), (.set [3, 2, 1, 0]), (.dict [] none), .junk, .junk, (.wrap 33), .junk, (.wrap 35), .junk, (.wrap 37), .junk, (.wrap 39), (.tup [(.int 3), (.int 2), (.int 0)]), .junk, (.list [(.int 3), (.int 2), (.int 0)])]⟩
noncomputable def T25 : List (List Int × List Int) := [([], [3, 2, 0]), ([3], [2, 0]), ([2], [3, 0]), ([0], [3, 2, 1]), ([3, 2], [0]), ([3, 0], [2, 1]), ([2, 0], [3, 1]), ([0, 1], [3, 2]), ([3, 2, 0], [1]), ([3, 0, 1], [2]), ([2, 0, 1], [3])]
theorem ns25 : ∀ X, setup148 (start148 [-1, 0, -1, -1] true X) = some (.next, nf25 X) := fun X => by kernel_rfl
theorem tk25 : tabOk [-1, 0, -1, -1] nf25 T25 = true := by kernel_rfl
theorem lw25 : ((tLaw 0 [] (tabRun [-1, 0, -1, -1] true T25)).1.d (st4 (0) (-1) (-1) true)).map (fun x => x.1) = some (.ret (.bool true)) := by kernel_rfl
noncomputable def case25 : Case (0) (-1) (-1) true := ⟨T25, tab_fn ns25 tk25, fun _ _ => lw25⟩

noncomputable def nf26 (X : MO) : St := ⟨[(some (.ref 0)), (some (.ref 1)), (some (.bool false)), (some (.ref 3)), (some (.int 3)), (some (.int 3)), (some (.ref 43))], [(.list [(.int (-1)), (.int 0), (.int (-1)), (.int 0)]), X, (.attrs [(0, (.ref 4)), (1, (.ref 27)), (2, (.int 2)), (3, (.int 0))]), (.inst 137 2 []), (.dict [(0, (.ref 9)), (1, (.ref 14)), (2, (.ref 19)), (3, (.ref 24))] (some 4)), (.range 0 4), .junk, (.tup []), (.attrs []), (.inst 40 8 [(some (.int 0)), (some (.int (-1))), (some (.ref 10))]), (.list [(.int 1), (.int 3)]), .junk, (.tup [(.int 0)]), (.attrs []), (.inst 40 13 [(some (.int 1)), (some (.int 1)), (some (.ref 15))]), (.list []), .junk, (.tup []), (.attrs []), (.inst 40 18 [(some (.int 2)), (some (.int (-1))), (some (.ref 20))]), (.list []), .junk, (.tup [(.int 0)]), (.attrs []), (.inst 40 23 [(some (.int 3)), (some (.int 1)), (some (.ref 25))]), (.list []), .junk, (.list []), (.list []), (.list []), (.set [0, 1, 3, 2]), (.dict [] none), .junk, .junk, (.wrap 33), .junk, (.wrap 35), .junk, (.wrap 37), .junk, (.wrap 39), (.tup [(.int 0), (.int 2)]), .junk, (.list [(.int 0), (.int 2)])]⟩
noncomputable def T26 : List (List Int × List Int) := [([], [0, 2]), ([0], [2, 1, 3]), ([2], [0]), ([0, 2], [1, 3]), ([0, 1], [2, 3]), ([0, 3], [2, 1]), ([0, 2, 1], [3]), ([0, 2, 3], [1]), ([0, 1, 3], [2])]
theorem ns26 : ∀ X, setup148 (start148 [-1, 0, -1, 0] false X) = some (.next, nf26 X) := fun X => by kernel_rfl
theorem tk26 : tabOk [-1, 0, -1, 0] nf26 T26 = true := by kernel_rfl
theorem lw26 : ((tLaw 0 [] (tabRun [-1, 0, -1, 0] false T26)).1.d (st4 (0) (-1) (0) false)).map (fun x => x.1) = some (.ret (.bool true)) := by kernel_rfl
noncomputable def case26 : Case (0) (-1) (0) false := ⟨T26, tab_fn ns26 tk26, fun _ _ => lw26⟩

noncomputable def nf27 (X : MO) : St := ⟨[(some (.ref 0)), (some (.ref 1)), (some (.bool true)), (some (.ref 3)), (some (.int 3)), (some (.int 0)), (some (.ref 43))], [(.list [(.int (-1)), (.int 0), (.int (-1)), (.int 0)]), X, (.attrs [(0, (.ref 4)), (1, (.ref 27)), (2, (.int 2)), (3, (.int 0))]), (.inst 137 2 []), (.dict [(3, (.ref 9)), (0, (.ref 13)), (2, (.ref 17)), (1, (.ref 22))] (some 4)), (.range 0 4), .junk, (.tup [(.int 0)]), (.attrs []), (.inst 40 8 [(some (.int 3)), (some (.int 1)), (some (.ref 10))]), (.list []), .junk, (.attrs []), (.inst 40 12 [(some (.int 0)), (some (.int (-1))), (some (.ref 14))]), (.list [(.int 3), (.int 1)]), (.tup []), (.attrs []), (.inst 40 16 [(some (.int 2)), (some (.int (-1))), (some (.ref 18))]), (.list []), .junk, (.tup [(.int 0)]), (.attrs []), (.inst 40 21 [(some (.int 1)), (some (.int 1)), (some (.ref 23))]), (.list []), .junk, (.tup []), .junk, (.list []), (.list []), (.list []), (.set [3, 0, 1, 2]), (.dict [] none), .junk, .junk, (.wrap 33), .junk, (.wrap 35), .junk, (.wrap 37), .junk, (.wrap 39), (.tup [(.int 0), (.int 2)]), .junk, (.list [(.int 0), (.int 2)])]⟩
noncomputable def T27 : List (List Int × List Int) := [([], [0, 2]), ([0], [2, 3, 1]), ([2], [0]), ([0, 2], [3, 1]), ([0, 3], [2, 1]), ([0, 1], [2, 3]), ([0, 2, 3], [1]), ([0, 2, 1], [3]), ([0, 3, 1], [2])]
theorem ns27 : ∀ X, setup148 (start148 [-1, 0, -1, 0] true X) = some (.next, nf27 X) := fun X => by kernel_rfl
theorem tk27 : tabOk [-1, 0, -1, 0] nf27 T27 = true := by kernel_rfl
theorem lw27 : ((tLaw 0 [] (tabRun [-1, 0, -1, 0] true T27)).1.d (st4 (0) (-1) (0) true)).map (fun x => x.1) = some (.ret (.bool true)) := by kernel_rfl
noncomputable def case27 : Case (0) (-1) (0) true := ⟨T27, tab_fn ns27 tk27, fun _ _ => lw27⟩

noncomputable def nf28 (X : MO) : St := ⟨[(some (.ref 0)), (some (.ref 1)), (some (.bool false)), (some (.ref 3)), (some (.int 3)), (some (.int 3)), (some (.ref 43))], [(.list [(.int (-1)), (.int 0), (.int (-1)), (.int 1)]), X, (.attrs [(0, (.ref 4)), (1, (.ref 27)), (2, (.int 2)), (3, (.int 0))]), (.inst 137 2 []), (.dict [(0, (.ref 9)), (1, (.ref 14)), (2, (.ref 19)), (3, (.ref 24))] (some 4)), (.range 0 4), .junk, (.tup []), (.attrs []), (.inst 40 8 [(some (.int 0)), (some (.int (-1))), (some (.ref 10))]), (.list [(.int 1)]), .junk, (.tup [(.int 0)]), (.attrs []), (.inst 40 13 [(some (.int 1)), (some (.int 1)), (some (.ref 15))]), (.list [(.int 3)]), .junk, (.tup []), (.attrs []), (.inst 40 18 [(some (.int 2)), (some (.int (-1))), (some (.ref 20))]), (.list []), .junk, (.tup [(.int 1)]), (.attrs []), (.inst 40 23 [(some (.int 3)), (some (.int 1)), (some (.ref 25))]), (.list []), .junk, (.list []), (.list []), (.list []), (.set [0, 1, 3, 2]), (.dict [] none), .junk, .junk, (.wrap 33), .junk, (.wrap 35), .junk, (.wrap 37), .junk, (.wrap 39), (.tup [(.int 0), (.int 2)]), .junk, (.list [(.int 0), (.int 2)])]⟩
noncomputable def T28 : List (List Int × List Int) := [([], [0, 2]), ([0], [2, 1]), ([2], [0]), ([0, 2], [1]), ([0, 1], [2, 3]), ([0, 2, 1], [3]), ([0, 1, 3], [2])]
theorem ns28 : ∀ X, setup148 (start148 [-1, 0, -1, 1] false X) = some (.next, nf28 X) := fun X => by kernel_rfl
theorem tk28 : tabOk [-1, 0, -1, 1] nf28 T28 = true := by kernel_rfl
theorem lw28 : ((tLaw 0 [] (tabRun [-1, 0, -1, 1] false T28)).1.d (st4 (0) (-1) (1) false)).map (fun x => x.1) = some (.ret (.bool true)) := by kernel_rfl
noncomputable def case28 : Case (0) (-1) (1) false := ⟨T28, tab_fn ns28 tk28, fun _ _ => lw28⟩

noncomputable def nf29 (X : MO) : St := ⟨[(some (.ref 0)), (some (.ref 1)), (some (.bool true)), (some (.ref 3)), (some (.int 3)), (some (.int 0)), (some (.ref 43))], [(.list [(.int (-1)), (.int 0), (.int (-1)), (.int 1)]), X, (.attrs [(0, (.ref 4)), (1, (.ref 27)), (2, (.int 2)), (3, (.int 0))]), (.inst 137 2 []), (.dict [(3, (.ref 9)), (1, (.ref 13)), (2, (.ref 17)), (0, (.ref 23))] (some 4)), (.range 0 4), .junk, (.tup [(.int 1)]), (.attrs []), (.inst 40 8 [(some (.int 3)), (some (.int 1)), (some (.ref 10))]), (.list []), .junk, (.attrs []), (.inst 40 12 [(some (.int 1)), (some (.int 1)), (some (.ref 14))]), (.list [(.int 3)]), (.tup []), (.attrs []), (.inst 40 16 [(some (.int 2)), (some (.int (-1))), (some (.ref 18))]), (.list []), .junk, (.tup [(.int 0)]), .junk, (.attrs []), (.inst 40 22 [(some (.int 0)), (some (.int (-1))), (some (.ref 24))]), (.list [(.int 1)]), (.tup []), .junk, (.list []), (.list []), (.list []), (.set [3, 1, 2, 0]), (.dict [] none), .junk, .junk, (.wrap 33), .junk, (.wrap 35), .junk, (.wrap 37), .junk, (.wrap 39), (.tup [(.int 2), (.int 0)]), .junk, (.list [(.int 2), (.int 0)])]⟩
noncomputable def T29 : List (List Int × List Int) := [([], [2, 0]), ([2], [0]), ([0], [2, 1]), ([2, 0], [1]), ([0, 1], [2, 3]), ([2, 0, 1], [3]), ([0, 1, 3], [2])]
theorem ns29 : ∀ X, setup148 (start148 [-1, 0, -1, 1] true X) = some (.next, nf29 X) := fun X => by kernel_rfl
theorem tk29 : tabOk [-1, 0, -1, 1] nf29 T29 = true := by kernel_rfl
theorem lw29 : ((tLaw 0 [] (tabRun [-1, 0, -1, 1] true T29)).1.d (st4 (0) (-1) (1) true)).map (fun x => x.1) = some (.ret (.bool true)) := by kernel_rfl
noncomputable def case29 : Case (0) (-1) (1) true := ⟨T29, tab_fn ns29 tk29, fun _ _ => lw29⟩

noncomputable def nf30 (X : MO) : St := ⟨[(some (.ref 0)), (some (.ref 1)), (some (.bool false)), (some (.ref 3)), (some (.int 3)), (some (.int 3)), (some (.ref 43))], [(.list [(.int (-1)), (.int 0), (.int (-1)), (.int 2)]), X, (.attrs [(0, (.ref 4)), (1, (.ref 27)), (2, (.int 2)), (3, (.int 0))]), (.inst 137 2 []), (.dict [(0, (.ref 9)), (1, (.ref 14)), (2, (.ref 19)), (3, (.ref 24))] (some 4)), (.range 0 4), .junk, (.tup []), (.attrs []), (.inst 40 8 [(some (.int 0)), (some (.int (-1))), (some (.ref 10))]), (.list [(.int 1)]), .junk, (.tup [(.int 0)]), (.attrs []), (.inst 40 13 [(some (.int 1)), (some (.int 1)), (some (.ref 15))]), (.list []), .junk, (.tup []), (.attrs []), (.inst 40 18 [(some (.int 2)), (some (.int (-1))), (some (.ref 20))]), (.list [(.int 3)]), .junk, (.tup [(.int 2)]), (.attrs []), (.inst 40 23 [(some (.int 3)), (some (.int 1)), (some (.ref 25))]), (.list []), .junk, (.list []), (.list []), (.list []), (.set [0, 1, 2, 3]), (.dict [] none), .junk, .junk, (.wrap 33), .junk, (.wrap 35), .junk, (.wrap 37), .junk, (.wrap 39), (.tup [(.int 0), (.int 2)]), .junk, (.list [(.int 0), (.int 2)])]⟩
noncomputable def T30 : List (List Int × List Int) := [([], [0, 2]), ([0], [2, 1]), ([2], [0, 3]), ([0, 2], [1, 3]), ([0, 1], [2]), ([2, 3], [0]), ([0, 2, 1], [3]), ([0, 2, 3], [1])]
theorem ns30 : ∀ X, setup148 (start148 [-1, 0, -1, 2] false X) = some (.next, nf30 X) := fun X => by kernel_rfl
theorem tk30 : tabOk [-1, 0, -1, 2] nf30 T30 = true := by kernel_rfl
theorem lw30 : ((tLaw 0 [] (tabRun [-1, 0, -1, 2] false T30)).1.d (st4 (0) (-1) (2) false)).map (fun x => x.1) = some (.ret (.bool true)) := by kernel_rfl
noncomputable def case30 : Case (0) (-1) (2) false := ⟨T30, tab_fn ns30 tk30, fun _ _ => lw30⟩

noncomputable def nf31 (X : MO) : St := ⟨[(some (.ref 0)), (some (.ref 1)), (some (.bool true)), (some (.ref 3)), (some (.int 3)), (some (.int 0)), (some (.ref 43))], [(.list [(.int (-1)), (.int 0), (.int (-1)), (.int 2)]), X, (.attrs [(0, (.ref 4)), (1, (.ref 27)), (2, (.int 2)), (3, (.int 0))]), (.inst 137 2 []), (.dict [(3, (.ref 9)), (2, (.ref 13)), (1, (.ref 19)), (0, (.ref 23))] (some 4)), (.range 0 4), .junk, (.tup [(.int 2)]), (.attrs []), (.inst 40 8 [(some (.int 3)), (some (.int 1)), (some (.ref 10))]), (.list []), .junk, (.attrs []), (.inst 40 12 [(some (.int 2)), (some (.int (-1))), (some (.ref 14))]), (.list [(.int 3)]), (.tup []), .junk, (.tup [(.int 0)]), (.attrs []), (.inst 40 18 [(some (.int 1)), (some (.int 1)), (some (.ref 20))]), (.list []), .junk, (.attrs []), (.inst 40 22 [(some (.int 0)), (some (.int (-1))), (some (.ref 24))]), (.list [(.int 1)]), (.tup []), .junk, (.list []), (.list []), (.list []), (.set [3, 2, 1, 0]), (.dict [] none), .junk, .junk, (.wrap 33), .junk, (.wrap 35), .junk, (.wrap 37), .junk, (.wrap 39), (.tup [(.int 2), (.int 0)]), .junk, (.list [(.int 2), (.int 0)])]⟩
noncomputable def T31 : List (List Int × List Int) := [([], [2, 0]), ([2], [0, 3]), ([0], [2, 1]), ([2, 0], [3, 1]), ([2, 3], [0]), ([0, 1], [2]), ([2, 0, 3], [1]), ([2, 0, 1], [3])]
theorem ns31 : ∀ X, setup148 (start148 [-1, 0, -1, 2] true X) = some (.next, nf31 X) := fun X => by kernel_rfl
theorem tk31 : tabOk [-1, 0, -1, 2] nf31 T31 = true := by kernel_rfl
theorem lw31 : ((tLaw 0 [] (tabRun [-1, 0, -1, 2] true T31)).1.d (st4 (0) (-1) (2) true)).map (fun x => x.1) = some (.ret (.bool true)) := by kernel_rfl
noncomputable def case31 : Case (0) (-1) (2) true := ⟨T31, tab_fn ns31 tk31, fun _ _ => lw31⟩

noncomputable def nf32 (X : MO) : St := ⟨[(some (.ref 0)), (some (.ref 1)), (some (.bool false)), (some (.ref 3)), (some (.int 3)), (some (.int 3)), (some (.ref 43))], [(.list [(.int (-1)), (.int 0), (.int 0), (.int (-1))]), X, (.attrs [(0, (.ref 4)), (1, (.ref 27)), (2, (.int 2)), (3, (.int 0))]), (.inst 137 2 []), (.dict [(0, (.ref 9)), (1, (.ref 14)), (2, (.ref 19)), (3, (.ref 24))] (some 4)), (.range 0 4), .junk, (.tup []), (.attrs []), (.inst 40 8 [(some (.int 0)), (some (.int (-1))), (some (.ref 10))]), (.list [(.int 1), (.int 2)]), .junk, (.tup [(.int 0)]), (.attrs []), (.inst 40 13 [(some (.int 1)), (some (.int 1)), (some (.ref 15))]), (.list []), .junk, (.tup [(.int 0)]), (.attrs []), (.inst 40 18 [(some (.int 2)), (some (.int 1)), (some (.ref 20))]), (.list []), .junk, (.tup []), (.attrs []), (.inst 40 23 [(some (.int 3)), (some (.int (-1))), (some (.ref 25))]), (.list []), .junk, (.list []), (.list []), (.list []), (.set [0, 1, 2, 3]), (.dict [] none), .junk, .junk, (.wrap 33), .junk, (.wrap 35), .junk, (.wrap 37), .junk, (.wrap 39), (.tup [(.int 0), (.int 3)]), .junk, (.list [(.int 0), (.int 3)])]⟩
noncomputable def T32 : List (List Int × List Int) := [([], [0, 3]), ([0], [3, 1, 2]), ([3], [0]), ([0, 3], [1, 2]), ([0, 1], [3, 2]), ([0, 2], [3, 1]), ([0, 3, 1], [2]), ([0, 3, 2], [1]), ([0, 1, 2], [3])]
theorem ns32 : ∀ X, setup148 (start148 [-1, 0, 0, -1] false X) = some (.next, nf32 X) := fun X => by kernel_rfl
theorem tk32 : tabOk [-1, 0, 0, -1] nf32 T32 = true := by kernel_rfl
theorem lw32 : ((tLaw 0 [] (tabRun [-1, 0, 0, -1] false T32)).1.d (st4 (0) (0) (-1) false)).map (fun x => x.1) = some (.ret (.bool true)) := by kernel_rfl
noncomputable def case32 : Case (0) (0) (-1) false := ⟨T32, tab_fn ns32 tk32, fun _ _ => lw32⟩

noncomputable def nf33 (X : MO) : St := ⟨[(some (.ref 0)), (some (.ref 1)), (some (.bool true)), (some (.ref 3)), (some (.int 3)), (some (.int 0)), (some (.ref 43))], [(.list [(.int (-1)), (.int 0), (.int 0), (.int (-1))]), X, (.attrs [(0, (.ref 4)), (1, (.ref 27)), (2, (.int 2)), (3, (.int 0))]), (.inst 137 2 []), (.dict [(3, (.ref 9)), (2, (.ref 14)), (0, (.ref 18)), (1, (.ref 22))] (some 4)), (.range 0 4), .junk, (.tup []), (.attrs []), (.inst 40 8 [(some (.int 3)), (some (.int (-1))), (some (.ref 10))]), (.list []), .junk, (.tup [(.int 0)]), (.attrs []), (.inst 40 13 [(some (.int 2)), (some (.int 1)), (some (.ref 15))]), (.list []), .junk, (.attrs []), (.inst 40 17 [(some (.int 0)), (some (.int (-1))), (some (.ref 19))]), (.list [(.int 2), (.int 1)]), (.tup [(.int 0)]), (.attrs []), (.inst 40 21 [(some (.int 1)), (some (.int 1)), (some (.ref 23))]), (.list []), .junk, (.tup []), .junk, (.list []), (.list []), (.list []), (.set [3, 2, 0, 1]), (.dict [] none), .junk, .junk, (.wrap 33), .junk, (.wrap 35), .junk, (.wrap 37), .junk, (.wrap 39), (.tup [(.int 3), (.int 0)]), .junk, (.list [(.int 3), (.int 0)])]⟩
noncomputable def T33 : List (List Int × List Int) := [([], [3, 0]), ([3], [0]), ([0], [3, 2, 1]), ([3, 0], [2, 1]), ([0, 2], [3, 1]), ([0, 1], [3, 2]), ([3, 0, 2], [1]), ([3, 0, 1], [2]), ([0, 2, 1], [3])]
theorem ns33 : ∀ X, setup148 (start148 [-1, 0, 0, -1] true X) = some (.next, nf33 X) := fun X => by kernel_rfl
theorem tk33 : tabOk [-1, 0, 0, -1] nf33 T33 = true := by kernel_rfl
theorem lw33 : ((tLaw 0 [] (tabRun [-1, 0, 0, -1] true T33)).1.d (st4 (0) (0) (-1) true)).map (fun x => x.1) = some (.ret (.bool true)) := by kernel_rfl
noncomputable def case33 : Case (0) (0) (-1) true := ⟨T33, tab_fn ns33 tk33, fun _ _ => lw33⟩

noncomputable def nf34 (X : MO) : St := ⟨[(some (.ref 0)), (some (.ref 1)), (some (.bool false)), (some (.ref 3)), (some (.int 3)), (some (.int 3)), (some (.ref 43))], [(.list [(.int (-1)), (.int 0), (.int 0), (.int 0)]), X, (.attrs [(0, (.ref 4)), (1, (.ref 27)), (2, (.int 1)), (3, (.int 0))]), (.inst 137 2 []), (.dict [(0, (.ref 9)), (1, (.ref 14)), (2, (.ref 19)), (3, (.ref 24))] (some 4)), (.range 0 4), .junk, (.tup []), (.attrs []), (.inst 40 8 [(some (.int 0)), (some (.int (-1))), (some (.ref 10))]), (.list [(.int 1), (.int 2), (.int 3)]), .junk, (.tup [(.int 0)]), (.attrs []), (.inst 40 13 [(some (.int 1)), (some (.int 1)), (some (.ref 15))]), (.list []), .junk, (.tup [(.int 0)]), (.attrs []), (.inst 40 18 [(some (.int 2)), (some (.int 1)), (some (.ref 20))]), (.list []), .junk, (.tup [(.int 0)]), (.attrs []), (.inst 40 23 [(some (.int 3)), (some (.int 1)), (some (.ref 25))]), (.list []), .junk, (.list []), (.list []), (.list []), (.set [0, 1, 2, 3]), (.dict [] none), .junk, .junk, (.wrap 33), .junk, (.wrap 35), .junk, (.wrap 37), .junk, (.wrap 39), (.tup [(.int 0)]), .junk, (.list [(.int 0)])]⟩
noncomputable def T34 : List (List Int × List Int) := [([], [0]), ([0], [1, 2, 3]), ([0, 1], [2, 3]), ([0, 2], [1, 3]), ([0, 3], [1, 2]), ([0, 1, 2], [3]), ([0, 1, 3], [2]), ([0, 2, 3], [1])]
theorem ns34 : ∀ X, setup148 (start148 [-1, 0, 0, 0] false X) = some (.next, nf34 X) := fun X => by kernel_rfl
theorem tk34 : tabOk [-1, 0, 0, 0] nf34 T34 = true := by kernel_rfl
theorem lw34 : ((tLaw 0 [] (tabRun [-1, 0, 0, 0] false T34)).1.d (st4 (0) (0) (0) false)).map (fun x => x.1) = some (.ret (.bool true)) := by kernel_rfl
noncomputable def case34 : Case (0) (0) (0) false := ⟨T34, tab_fn ns34 tk34, fun _ _ => lw34⟩

noncomputable def nf35 (X : MO) : St := ⟨[(some (.ref 0)), (some (.ref 1)), (some (.bool true)), (some (.ref 3)), (some (.int 3)), (some (.int 0)), (some (.ref 43))], [(.list [(.int (-1)), (.int 0), (.int 0), (.int 0)]), X, (.attrs [(0, (.ref 4)), (1, (.ref 27)), (2, (.int 1)), (3, (.int 0))]), (.inst 137 2 []), (.dict [(3, (.ref 9)), (0, (.ref 13)), (2, (.ref 17)), (1, (.ref 22))] (some 4)), (.range 0 4), .junk, (.tup [(.int 0)]), (.attrs []), (.inst 40 8 [(some (.int 3)), (some (.int 1)), (some (.ref 10))]), (.list []), .junk, (.attrs []), (.inst 40 12 [(some (.int 0)), (some (.int (-1))), (some (.ref 14))]), (.list [(.int 3), (.int 2), (.int 1)]), (.tup [(.int 0)]), (.attrs []), (.inst 40 16 [(some (.int 2)), (some (.int 1)), (some (.ref 18))]), (.list []), .junk, (.tup [(.int 0)]), (.attrs []), (.inst 40 21 [(some (.int 1)), (some (.int 1)), (some (.ref 23))]), (.list []), .junk, (.tup []), .junk, (.list []), (.list []), (.list []), (.set [3, 0, 2, 1]), (.dict [] none), .junk, .junk, (.wrap 33), .junk, (.wrap 35), .junk, (.wrap 37), .junk, (.wrap 39), (.tup [(.int 0)]), .junk, (.list [(.int 0)])]⟩
noncomputable def T35 : List (List Int × List Int) := [([], [0]), ([0], [3, 2, 1]), ([0, 3], [2, 1]), ([0, 2], [3, 1]), ([0, 1], [3, 2]), ([0, 3, 2], [1]), ([0, 3, 1], [2]), ([0, 2, 1], [3])]
theorem ns35 : ∀ X, setup148 (start148 [-1, 0, 0, 0] true X) = some (.next, nf35 X) := fun X => by kernel_rfl
theorem tk35 : tabOk [-1, 0, 0, 0] nf35 T35 = true := by kernel_rfl
theorem lw35 : ((tLaw 0 [] (tabRun [-1, 0, 0, 0] true T35)).1.d (st4 (0) (0) (0) true)).map (fun x => x.1) = some (.ret (.bool true)) := by kernel_rfl
noncomputable def case35 : Case (0) (0) (0) true := ⟨T35, tab_fn ns35 tk35, fun _ _ => lw35⟩

noncomputable def nf36 (X : MO) : St := ⟨[(some (.ref 0)), (some (.ref 1)), (some (.bool false)), (some (.ref 3)), (some (.int 3)), (some (.int 3)), (some (.ref 43))], [(.list [(.int (-1)), (.int 0), (.int 0), (.int 1)]), X, (.attrs [(0, (.ref 4)), (1, (.ref 27)), (2, (.int 1)), (3, (.int 0))]), (.inst 137 2 []), (.dict [(0, (.ref 9)), (1, (.ref 14)), (2, (.ref 19)), (3, (.ref 24))] (some 4)), (.range 0 4), .junk, (.tup []), (.attrs []), (.inst 40 8 [(some (.int 0)), (some (.int (-1))), (some (.ref 10))]), (.list [(.int 1), (.int 2)]), .junk, (.tup [(.int 0)]), (.attrs []), (.inst 40 13 [(some (.int 1)), (some (.int 1)), (some (.ref 15))]), (.list [(.int 3)]), .junk, (.tup [(.int 0)]), (.attrs []), (.inst 40 18 [(some (.int 2)), (some (.int 1)), (some (.ref 20))]), (.list []), .junk, (.tup [(.int 1)]), (.attrs []), (.inst 40 23 [(some (.int 3)), (some (.int 1)), (some (.ref 25))]), (.list []), .junk, (.list []), (.list []), (.list []), (.set [0, 1, 3, 2]), (.dict [] none), .junk, .junk, (.wrap 33), .junk, (.wrap 35), .junk, (.wrap 37), .junk, (.wrap 39), (.tup [(.int 0)]), .junk, (.list [(.int 0)])]⟩
noncomputable def T36 : List (List Int × List Int) := [([], [0]), ([0], [1, 2]), ([0, 1], [2, 3]), ([0, 2], [1]), ([0, 1, 2], [3]), ([0, 1, 3], [2])]
theorem ns36 : ∀ X, setup148 (start148 [-1, 0, 0, 1] false X) = some (.next, nf36 X) := fun X => by kernel_rfl
theorem tk36 : tabOk [-1, 0, 0, 1] nf36 T36 = true := by kernel_rfl
theorem lw36 : ((tLaw 0 [] (tabRun [-1, 0, 0, 1] false T36)).1.d (st4 (0) (0) (1) false)).map (fun x => x.1) = some (.ret (.bool true)) := by kernel_rfl
noncomputable def case36 : Case (0) (0) (1) false := ⟨T36, tab_fn ns36 tk36, fun _ _ => lw36⟩

noncomputable def nf37 (X : MO) : St := ⟨[(some (.ref 0)), (some (.ref 1)), (some (.bool true)), (some (.ref 3)), (some (.int 3)), (some (.int 0)), (some (.ref 43))], [(.list [(.int (-1)), (.int 0), (.int 0), (.int 1)]), X, (.attrs [(0, (.ref 4)), (1, (.ref 27)), (2, (.int 1)), (3, (.int 0))]), (.inst 137 2 []), (.dict [(3, (.ref 9)), (1, (.ref 13)), (2, (.ref 17)), (0, (.ref 21))] (some 4)), (.range 0 4), .junk, (.tup [(.int 1)]), (.attrs []), (.inst 40 8 [(some (.int 3)), (some (.int 1)), (some (.ref 10))]), (.list []), .junk, (.attrs []), (.inst 40 12 [(some (.int 1)), (some (.int 1)), (some (.ref 14))]), (.list [(.int 3)]), (.tup [(.int 0)]), (.attrs []), (.inst 40 16 [(some (.int 2)), (some (.int 1)), (some (.ref 18))]), (.list []), .junk, (.attrs []), (.inst 40 20 [(some (.int 0)), (some (.int (-1))), (some (.ref 22))]), (.list [(.int 2), (.int 1)]), (.tup [(.int 0)]), .junk, (.tup []), .junk, (.list []), (.list []), (.list []), (.set [3, 1, 2, 0]), (.dict [] none), .junk, .junk, (.wrap 33), .junk, (.wrap 35), .junk, (.wrap 37), .junk, (.wrap 39), (.tup [(.int 0)]), .junk, (.list [(.int 0)])]⟩
noncomputable def T37 : List (List Int × List Int) := [([], [0]), ([0], [2, 1]), ([0, 2], [1]), ([0, 1], [2, 3]), ([0, 2, 1], [3]), ([0, 1, 3], [2])]
theorem ns37 : ∀ X, setup148 (start148 [-1, 0, 0, 1] true X) = some (.next, nf37 X) := fun X => by kernel_rfl
theorem tk37 : tabOk [-1, 0, 0, 1] nf37 T37 = true := by kernel_rfl
theorem lw37 : ((tLaw 0 [] (tabRun [-1, 0, 0, 1] true T37)).1.d (st4 (0) (0) (1) true)).map (fun x => x.1) = some (.ret (.bool true)) := by kernel_rfl
noncomputable def case37 : Case (0) (0) (1) true := ⟨T37, tab_fn ns37 tk37, fun _ _ => lw37⟩

noncomputable def nf38 (X : MO) : St := ⟨[(some (.ref 0)), (some (.ref 1)), (some (.bool false)), (some (.ref 3)), (some (.int 3)), (some (.int 3)), (some (.ref 43))], [(.list [(.int (-1)), (.int 0), (.int 0), (.int 2)]), X, (.attrs [(0, (.ref 4)), (1, (.ref 27)), (2, (.int 1)), (3, (.int 0))]), (.inst 137 2 []), (.dict [(0, (.ref 9)), (1, (.ref 14)), (2, (.ref 19)), (3, (.ref 24))] (some 4)), (.range 0 4), .junk, (.tup []), (.attrs []), (.inst 40 8 [(some (.int 0)), (some (.int (-1))), (some (.ref 10))]), (.list [(.int 1), (.int 2)]), .junk, (.tup [(.int 0)]), (.attrs []), (.inst 40 13 [(some (.int 1)), (some (.int 1)), (some (.ref 15))]), (.list []), .junk, (.tup [(.int 0)]), (.attrs []), (.inst 40 18 [(some (.int 2)), (some (.int 1)), (some (.ref 20))]), (.list [(.int 3)]), .junk, (.tup [(.int 2)]), (.attrs []), (.inst 40 23 [(some (.int 3)), (some (.int 1)), (some (.ref 25))]), (.list []), .junk, (.list []), (.list []), (.list []), (.set [0, 1, 2, 3]), (.dict [] none), .junk, .junk, (.wrap 33), .junk, (.wrap 35), .junk, (.wrap 37), .junk, (.wrap 39), (.tup [(.int 0)]), .junk, (.list [(.int 0)])]⟩
noncomputable def T38 : List (List Int × List Int) := [([], [0]), ([0], [1, 2]), ([0, 1], [2]), ([0, 2], [1, 3]), ([0, 1, 2], [3]), ([0, 2, 3], [1])]
theorem ns38 : ∀ X, setup148 (start148 [-1, 0, 0, 2] false X) = some (.next, nf38 X) := fun X => by kernel_rfl
theorem tk38 : tabOk [-1, 0, 0, 2] nf38 T38 = true := by kernel_rfl
theorem lw38 : ((tLaw 0 [] (tabRun [-1, 0, 0, 2] false T38)).1.d (st4 (0) (0) (2) false)).map (fun x => x.1) = some (.ret (.bool true)) := by kernel_rfl
noncomputable def case38 : Case (0) (0) (2) false := ⟨T38, tab_fn ns38 tk38, fun _ _ => lw38⟩

noncomputable def nf39 (X : MO) : St := ⟨[(some (.ref 0)), (some (.ref 1)), (some (.bool true)), (some (.ref 3)), (some (.int 3)), (some (.int 0)), (some (.ref 43))], [(.list [(.int (-1)), (.int 0), (.int 0), (.int 2)]), X, (.attrs [(0, (.ref 4)), (1, (.ref 27)), (2, (.int 1)), (3, (.int 0))]), (.inst 137 2 []), (.dict [(3, (.ref 9)), (2, (.ref 13)), (0, (.ref 18)), (1, (.ref 22))] (some 4)), (.range 0 4), .junk, (.tup [(.int 2)]), (.attrs []), (.inst 40 8 [(some (.int 3)), (some (.int 1)), (some (.ref 10))]), (.list []), .junk, (.attrs []), (.inst 40 12 [(some (.int 2)), (some (.int 1)), (some (.ref 14))]), (.list [(.int 3)]), (.tup [(.int 0)]), .junk, (.attrs []), (.inst 40 17 [(some (.int 0)), (some (.int (-1))), (some (.ref 19))]), (.list [(.int 2), (.int 1)]), (.tup [(.int 0)]), (.attrs []), (.inst 40 21 [(some (.int 1)), (some (.int 1)), (some (.ref 23))]), (.list []), .junk, (.tup []), .junk, (.list []), (.list []), (.list []), (.set [3, 2, 0, 1]), (.dict [] none), .junk, .junk, (.wrap 33), .junk, (.wrap 35), .junk, (.wrap 37), .junk, (.wrap 39), (.tup [(.int 0)]), .junk, (.list [(.int 0)])]⟩
noncomputable def T39 : List (List Int × List Int) := [([], [0]), ([0], [2, 1]), ([0, 2], [1, 3]), ([0, 1], [2]), ([0, 2, 1], [3]), ([0, 2, 3], [1])]
theorem ns39 : ∀ X, setup148 (start148 [-1, 0, 0, 2] true X) = some (.next, nf39 X) := fun X => by kernel_rfl
theorem tk39 : tabOk [-1, 0, 0, 2] nf39 T39 = true := by kernel_rfl
theorem lw39 : ((tLaw 0 [] (tabRun [-1, 0, 0, 2] true T39)).1.d (st4 (0) (0) (2) true)).map (fun x => x.1) = some (.ret (.bool true)) := by kernel_rfl
noncomputable def case39 : Case (0) (0) (2) true := ⟨T39, tab_fn ns39 tk39, fun _ _ => lw39⟩

noncomputable def nf40 (X : MO) : St := ⟨[(some (.ref 0)), (some (.ref 1)), (some (.bool false)), (some (.ref 3)), (some (.int 3)), (some (.int 3)), (some (.ref 43))], [(.list [(.int (-1)), (.int 0), (.int 1), (.int (-1))]), X, (.attrs [(0, (.ref 4)), (1, (.ref 27)), (2, (.int 2)), (3, (.int 0))]), (.inst 137 2 []), (.dict [(0, (.ref 9)), (1, (.ref 14)), (2, (.ref 19)), (3, (.ref 24))] (some 4)), (.range 0 4), .junk, (.tup []), (.attrs []), (.inst 40 8 [(some (.int 0)), (some (.int (-1))), (some (.ref 10))]), (.list [(.int 1)]), .junk, (.tup [(.int 0)]), (.attrs []), (.inst 40 13 [(some (.int 1)), (some (.int 1)), (some (.ref 15))]), (.list [(.int 2)]), .junk, (.tup [(.int 1)]), (.attrs []), (.inst 40 18 [(some (.int 2)), (some (.int 1)), (some (.ref 20))]), (.list []), .junk, (.tup []), (.attrs []), (.inst 40 23 [(some (.int 3)), (some (.int (-1))), (some (.ref 25))]), (.list []), .junk, (.list []), (.list []), (.list []), (.set [0, 1, 2, 3]), (.dict [] none), .junk, .junk, (.wrap 33), .junk, (.wrap 35), .junk, (.wrap 37), .junk, (.wrap 39), (.tup [(.int 0), (.int 3)]), .junk, (.list [(.int 0), (.int 3)])]⟩
noncomputable def T40 : List (List Int × List Int) := [([], [0, 3]), ([0], [3, 1]), ([3], [0]), ([0, 3], [1]), ([0, 1], [3, 2]), ([0, 3, 1], [2]), ([0, 1, 2], [3])]
theorem ns40 : ∀ X, setup148 (start148 [-1, 0, 1, -1] false X) = some (.next, nf40 X) := fun X => by kernel_rfl
theorem tk40 : tabOk [-1, 0, 1, -1] nf40 T40 = true := by kernel_rfl
theorem lw40 : ((tLaw 0 [] (tabRun [-1, 0, 1, -1] false T40)).1.d (st4 (0) (1) (-1) false)).map (fun x => x.1) = some (.ret (.bool true)) := by kernel_rfl
noncomputable def case40 : Case (0) (1) (-1) false := ⟨T40, tab_fn ns40 tk40, fun _ _ => lw40⟩

noncomputable def nf41 (X : MO) : St := ⟨[(some (.ref 0)), (some (.ref 1)), (some (.bool true)), (some (.ref 3)), (some (.int 3)), (some (.int 0)), (some (.ref 43))], [(.list [(.int (-1)), (.int 0), (.int 1), (.int (-1))]), X, (.attrs [(0, (.ref 4)), (1, (.ref 27)), (2, (.int 2)), (3, (.int 0))]), (.inst 137 2 []), (.dict [(3, (.ref 9)), (2, (.ref 14)), (1, (.ref 18)), (0, (.ref 23))] (some 4)), (.range 0 4), .junk, (.tup []), (.attrs []), (.inst 40 8 [(some (.int 3)), (some (.int (-1))), (some (.ref 10))]), (.list []), .junk, (.tup [(.int 1)]), (.attrs []), (.inst 40 13 [(some (.int 2)), (some (.int 1)), (some (.ref 15))]), (.list []), .junk, (.attrs []), (.inst 40 17 [(some (.int 1)), (some (.int 1)), (some (.ref 19))]), (.list [(.int 2)]), (.tup [(.int 0)]), .junk, (.attrs []), (.inst 40 22 [(some (.int 0)), (some (.int (-1))), (some (.ref 24))]), (.list [(.int 1)]), (.tup []), .junk, (.list []), (.list []), (.list []), (.set [3, 2, 1, 0]), (.dict [] none), .junk, .junk, (.wrap 33), .junk, (.wrap 35), .junk, (.wrap 37), .junk, (.wrap 39), (.tup [(.int 3), (.int 0)]), .junk, (.list [(.int 3), (.int 0)])]⟩
noncomputable def T41 : List (List Int × List Int) := [([], [3, 0]), ([3], [0]), ([0], [3, 1]), ([3, 0], [1]), ([0, 1], [3, 2]), ([3, 0, 1], [2]), ([0, 1, 2], [3])]
theorem ns41 : ∀ X, setup148 (start148 [-1, 0, 1, -1] true X) = some (.next, nf41 X) := fun X => by kernel_rfl
theorem tk41 : tabOk [-1, 0, 1, -1] nf41 T41 = true := by kernel_rfl
theorem lw41 : ((tLaw 0 [] (tabRun [-1, 0, 1, -1] true T41)).1.d (st4 (0) (1) (-1) true)).map (fun x => x.1) = some (.ret (.bool true)) := by kernel_rfl
noncomputable def case41 : Case (0) (1) (-1) true := ⟨T41, tab_fn ns41 tk41, fun _ _ => lw41⟩

noncomputable def nf42 (X : MO) : St := ⟨[(some (.ref 0)), (some (.ref 1)), (some (.bool false)), (some (.ref 3)), (some (.int 3)), (some (.int 3)), (some (.ref 43))], [(.list [(.int (-1)), (.int 0), (.int 1), (.int 0)]), X, (.attrs [(0, (.ref 4)), (1, (.ref 27)), (2, (.int 1)), (3, (.int 0))]), (.inst 137 2 []), (.dict [(0, (.ref 9)), (1, (.ref 14)), (2, (.ref 19)), (3, (.ref 24))] (some 4)), (.range 0 4), .junk, (.tup []), (.attrs []), (.inst 40 8 [(some (.int 0)), (some (.int (-1))), (some (.ref 10))]), (.list [(.int 1), (.int 3)]), .junk, (.tup [(.int 0)]), (.attrs []), (.inst 40 13 [(some (.int 1)), (some (.int 1)), (some (.ref 15))]), (.list [(.int 2)]), .junk, (.tup [(.int 1)]), (.attrs []), (.inst 40 18 [(some (.int 2)), (some (.int 1)), (some (.ref 20))]), (.list []), .junk, (.tup [(.int 0)]), (.attrs []), (.inst 40 23 [(some (.int 3)), (some (.int 1)), (some (.ref 25))]), (.list []), .junk, (.list []), (.list []), (.list []), (.set [0, 1, 2, 3]), (.dict [] none), .junk, .junk, (.wrap 33), .junk, (.wrap 35), .junk, (.wrap 37), .junk, (.wrap 39), (.tup [(.int 0)]), .junk, (.list [(.int 0)])]⟩
noncomputable def T42 : List (List Int × List Int) := [([], [0]), ([0], [1, 3]), ([0, 1], [3, 2]), ([0, 3], [1]), ([0, 1, 3], [2]), ([0, 1, 2], [3])]
theorem ns42 : ∀ X, setup148 (start148 [-1, 0, 1, 0] false X) = some (.next, nf42 X) := fun X => by kernel_rfl
theorem tk42 : tabOk [-1, 0, 1, 0] nf42 T42 = true := by kernel_rfl
theorem lw42 : ((tLaw 0 [] (tabRun [-1, 0, 1, 0] false T42)).1.d (st4 (0) (1) (0) false)).map (fun x => x.1) = some (.ret (.bool true)) := by kernel_rfl
noncomputable def case42 : Case (0) (1) (0) false := ⟨T42, tab_fn ns42 tk42, fun _ _ => lw42⟩

noncomputable def nf43 (X : MO) : St := ⟨[(some (.ref 0)), (some (.ref 1)), (some (.bool true)), (some (.ref 3)), (some (.int 3)), (some (.int 0)), (some (.ref 43))], [(.list [(.int (-1)), (.int 0), (.int 1), (.int 0)]), X, (.attrs [(0, (.ref 4)), (1, (.ref 27)), (2, (.int 1)), (3, (.int 0))]), (.inst 137 2 []), (.dict [(3, (.ref 9)), (0, (.ref 13)), (2, (.ref 17)), (1, (.ref 21))] (some 4)), (.range 0 4), .junk, (.tup [(.int 0)]), (.attrs []), (.inst 40 8 [(some (.int 3)), (some (.int 1)), (some (.ref 10))]), (.list []), .junk, (.attrs []), (.inst 40 12 [(some (.int 0)), (some (.int (-1))), (some (.ref 14))]), (.list [(.int 3), (.int 1)]), (.tup [(.int 1)]), (.attrs []), (.inst 40 16 [(some (.int 2)), (some (.int 1)), (some (.ref 18))]), (.list []), .junk, (.attrs []), (.inst 40 20 [(some (.int 1)), (some (.int 1)), (some (.ref 22))]), (.list [(.int 2)]), (.tup [(.int 0)]), .junk, (.tup []), .junk, (.list []), (.list []), (.list []), (.set [3, 0, 1, 2]), (.dict [] none), .junk, .junk, (.wrap 33), .junk, (.wrap 35), .junk, (.wrap 37), .junk, (.wrap 39), (.tup [(.int 0)]), .junk, (.list [(.int 0)])]⟩
noncomputable def T43 : List (List Int × List Int) := [([], [0]), ([0], [3, 1]), ([0, 3], [1]), ([0, 1], [3, 2]), ([0, 3, 1], [2]), ([0, 1, 2], [3])]
theorem ns43 : ∀ X, setup148 (start148 [-1, 0, 1, 0] true X) = some (.next, nf43 X) := fun X => by kernel_rfl
theorem tk43 : tabOk [-1, 0, 1, 0] nf43 T43 = true := by kernel_rfl
theorem lw43 : ((tLaw 0 [] (tabRun [-1, 0, 1, 0] true T43)).1.d (st4 (0) (1) (0) true)).map (fun x => x.1) = some (.ret (.bool true)) := by kernel_rfl
noncomputable def case43 : Case (0) (1) (0) true := ⟨T43, tab_fn ns43 tk43, fun _ _ => lw43⟩

noncomputable def nf44 (X : MO) : St := ⟨[(some (.ref 0)), (some (.ref 1)), (some (.bool false)), (some (.ref 3)), (some (.int 3)), (some (.int 3)), (some (.ref 43))], [(.list [(.int (-1)), (.int 0), (.int 1), (.int 1)]), X, (.attrs [(0, (.ref 4)), (1, (.ref 27)), (2, (.int 1)), (3, (.int 0))]), (.inst 137 2 []), (.dict [(0, (.ref 9)), (1, (.ref 14)), (2, (.ref 19)), (3, (.ref 24))] (some 4)), (.range 0 4), .junk, (.tup []), (.attrs []), (.inst 40 8 [(some (.int 0)), (some (.int (-1))), (some (.ref 10))]), (.list [(.int 1)]), .junk, (.tup [(.int 0)]), (.attrs []), (.inst 40 13 [(some (.int 1)), (some (.int 1)), (some (.ref 15))]), (.list [(.int 2), (.int 3)]), .junk, (.tup [(.int 1)]), (.attrs []), (.inst 40 18 [(some (.int 2)), (some (.int 1)), (some (.ref 20))]), (.list []), .junk, (.tup [(.int 1)]), (.attrs []), (.inst 40 23 [(some (.int 3)), (some (.int 1)), (some (.ref 25))]), (.list []), .junk, (.list []), (.list []), (.list []), (.set [0, 1, 2, 3]), (.dict [] none), .junk, .junk, (.wrap 33), .junk, (.wrap 35), .junk, (.wrap 37), .junk, (.wrap 39), (.tup [(.int 0)]), .junk, (.list [(.int 0)])]⟩
noncomputable def T44 : List (List Int × List Int) := [([], [0]), ([0], [1]), ([0, 1], [2, 3]), ([0, 1, 2], [3]), ([0, 1, 3], [2])]
theorem ns44 : ∀ X, setup148 (start148 [-1, 0, 1, 1] false X) = some (.next, nf44 X) := fun X => by kernel_rfl
theorem tk44 : tabOk [-1, 0, 1, 1] nf44 T44 = true := by kernel_rfl
theorem lw44 : ((tLaw 0 [] (tabRun [-1, 0, 1, 1] false T44)).1.d (st4 (0) (1) (1) false)).map (fun x => x.1) = some (.ret (.bool true)) := by kernel_rfl
noncomputable def case44 : Case (0) (1) (1) false := ⟨T44, tab_fn ns44 tk44, fun _ _ => lw44⟩

noncomputable def nf45 (X : MO) : St := ⟨[(some (.ref 0)), (some (.ref 1)), (some (.bool true)), (some (.ref 3)), (some (.int 3)), (some (.int 0)), (some (.ref 43))], [(.list [(.int (-1)), (.int 0), (.int 1), (.int 1)]), X, (.attrs [(0, (.ref 4)), (1, (.ref 27)), (2, (.int 1)), (3, (.int 0))]), (.inst 137 2 []), (.dict [(3, (.ref 9)), (1, (.ref 13)), (2, (.ref 17)), (0, (.ref 23))] (some 4)), (.range 0 4), .junk, (.tup [(.int 1)]), (.attrs []), (.inst 40 8 [(some (.int 3)), (some (.int 1)), (some (.ref 10))]), (.list []), .junk, (.attrs []), (.inst 40 12 [(some (.int 1)), (some (.int 1)), (some (.ref 14))]), (.list [(.int 3), (.int 2)]), (.tup [(.int 1)]), (.attrs []), (.inst 40 16 [(some (.int 2)), (some (.int 1)), (some (.ref 18))]), (.list []), .junk, (.tup [(.int 0)]), .junk, (.attrs []), (.inst 40 22 [(some (.int 0)), (some (.int (-1))), (some (.ref 24))]), (.list [(.int 1)]), (.tup []), .junk, (.list []), (.list []), (.list []), (.set [3, 1, 2, 0]), (.dict [] none), .junk, .junk, (.wrap 33), .junk, (.wrap 35), .junk, (.wrap 37), .junk, (.wrap 39), (.tup [(.int 0)]), .junk, (.list [(.int 0)])]⟩
noncomputable def T45 : List (List Int × List Int) := [([], [0]), ([0], [1]), ([0, 1], [3, 2]), ([0, 1, 3], [2]), ([0, 1, 2], [3])]
theorem ns45 : ∀ X, setup148 (start148 [-1, 0, 1, 1] true X) = some (.next, nf45 X) := fun X => by kernel_rfl
theorem tk45 : tabOk [-1, 0, 1, 1] nf45 T45 = true := by kernel_rfl
theorem lw45 : ((tLaw 0 [] (tabRun [-1, 0, 1, 1] true T45)).1.d (st4 (0) (1) (1) true)).map (fun x => x.1) = some (.ret (.bool true)) := by kernel_rfl
noncomputable def case45 : Case (0) (1) (1) true := ⟨T45, tab_fn ns45 tk45, fun _ _ => lw45⟩

noncomputable def nf46 (X : MO) : St := ⟨[(some (.ref 0)), (some (.ref 1)), (some (.bool false)), (some (.ref 3)), (some (.int 3)), (some (.int 3)), (some (.ref 43))], [(.list [(.int (-1)), (.int 0), (.int 1), (.int 2)]), X, (.attrs [(0, (.ref 4)), (1, (.ref 27)), (2, (.int 1)), (3, (.int 0))]), (.inst 137 2 []), (.dict [(0, (.ref 9)), (1, (.ref 14)), (2, (.ref 19)), (3, (.ref 24))] (some 4)), (.range 0 4), .junk, (.tup []), (.attrs []), (.inst 40 8 [(some (.int 0)), (some (.int (-1))), (some (.ref 10))]), (.list [(.int 1)]), .junk, (.tup [(.int 0)]), (.attrs []), (.inst 40 13 [(some (.int 1)), (some (.int 1)), (some (.ref 15))]), (.list [(.int 2)]), .junk, (.tup [(.int 1)]), (.attrs []), (.inst 40 18 [(some (.int 2)), (some (.int 1)), (some (.ref 20))]), (.list [(.int 3)]), .junk, (.tup [(.int 2)]), (.attrs []), (.inst 40 23 [(some (.int 3)), (some (.int 1)), (some (.ref 25))]), (.list []), .junk, (.list []), (.list []), (.list []), (.set [0, 1, 2, 3]), (.dict [] none), .junk, .junk, (.wrap 33), .junk, (.wrap 35), .junk, (.wrap 37), .junk, (.wrap 39), (.tup [(.int 0)]), .junk, (.list [(.int 0)])]⟩
noncomputable def T46 : List (List Int × List Int) := [([], [0]), ([0], [1]), ([0, 1], [2]), ([0, 1, 2], [3])]
theorem ns46 : ∀ X, setup148 (start148 [-1, 0, 1, 2] false X) = some (.next, nf46 X) := fun X => by kernel_rfl
theorem tk46 : tabOk [-1, 0, 1, 2] nf46 T46 = true := by kernel_rfl
theorem lw46 : ((tLaw 0 [] (tabRun [-1, 0, 1, 2] false T46)).1.d (st4 (0) (1) (2) false)).map (fun x => x.1) = some (.ret (.bool true)) := by kernel_rfl
noncomputable def case46 : Case (0) (1) (2) false := ⟨T46, tab_fn ns46 tk46, fun _ _ => lw46⟩

noncomputable def nf47 (X : MO) : St := ⟨[(some (.ref 0)), (some (.ref 1)), (some (.bool true)), (some (.ref 3)), (some (.int 3)), (some (.int 0)), (some (.ref 43))], [(.list [(.int (-1)), (.int 0), (.int 1), (.int 2)]), X, (.attrs [(0, (.ref 4)), (1, (.ref 27)), (2, (.int 1)), (3, (.int 0))]), (.inst 137 2 []), (.dict [(3, (.ref 9)), (2, (.ref 13)), (1, (.ref 18)), (0, (.ref 23))] (some 4)), (.range 0 4), .junk, (.tup [(.int 2)]), (.attrs []), (.inst 40 8 [(some (.int 3)), (some (.int 1)), (some (.ref 10))]), (.list []), .junk, (.attrs []), (.inst 40 12 [(some (.int 2)), (some (.int 1)), (some (.ref 14))]), (.list [(.int 3)]), (.tup [(.int 1)]), .junk, (.attrs []), (.inst 40 17 [(some (.int 1)), (some (.int 1)), (some (.ref 19))]), (.list [(.int 2)]), (.tup [(.int 0)]), .junk, (.attrs []), (.inst 40 22 [(some (.int 0)), (some (.int (-1))), (some (.ref 24))]), (.list [(.int 1)]), (.tup []), .junk, (.list []), (.list []), (.list []), (.set [3, 2, 1, 0]), (.dict [] none), .junk, .junk, (.wrap 33), .junk, (.wrap 35), .junk, (.wrap 37), .junk, (.wrap 39), (.tup [(.int 0)]), .junk, (.list [(.int 0)])]⟩
noncomputable def T47 : List (List Int × List Int) := [([], [0]), ([0], [1]), ([0, 1], [2]), ([0, 1, 2], [3])]
theorem ns47 : ∀ X, setup148 (start148 [-1, 0, 1, 2] true X) = some (.next, nf47 X) := fun X => by kernel_rfl
theorem tk47 : tabOk [-1, 0, 1, 2] nf47 T47 = true := by kernel_rfl
theorem lw47 : ((tLaw 0 [] (tabRun [-1, 0, 1, 2] true T47)).1.d (st4 (0) (1) (2) true)).map (fun x => x.1) = some (.ret (.bool true)) := by kernel_rfl
noncomputable def case47 : Case (0) (1) (2) true := ⟨T47, tab_fn ns47 tk47, fun _ _ => lw47⟩

end
end Mine

set_option Elab.async false
set_option maxRecDepth 100000
set_option maxHeartbeats 8000000
set_option linter.all false
namespace Mine
open PySem PySem.W PySem.Spec PySem.Calls PyProof.Rows
noncomputable section

theorem law_cases (a1 a2 a3 : Int) (b : Bool) (h1 : a1 = -1 ∨ a1 = 0) (h2 : a2 = -1 ∨ a2 = 0 ∨ a2 = 1) (h3 : a3 = -1 ∨ a3 = 0 ∨ a3 = 1 ∨ a3 = 2) : Nonempty (Case a1 a2 a3 b) := by
  rcases h1 with rfl | rfl <;> rcases h2 with rfl | rfl | rfl <;> rcases h3 with rfl | rfl | rfl | rfl <;> cases b
  · exact ⟨case0⟩
  · exact ⟨case1⟩
  · exact ⟨case2⟩
  · exact ⟨case3⟩
  · exact ⟨case4⟩
  · exact ⟨case5⟩
  · exact ⟨case6⟩
  · exact ⟨case7⟩
  · exact ⟨case8⟩
  · exact ⟨case9⟩
  · exact ⟨case10⟩
  · exact ⟨case11⟩
  · exact ⟨case12⟩
  · exact ⟨case13⟩
  · exact ⟨case14⟩
  · exact ⟨case15⟩
  · exact ⟨case16⟩
  · exact ⟨case17⟩
  · exact ⟨case18⟩
  · exact ⟨case19⟩
  · exact ⟨case20⟩
  · exact ⟨case21⟩
  · exact ⟨case22⟩
  · exact ⟨case23⟩
  · exact ⟨case24⟩
  · exact ⟨case25⟩
  · exact ⟨case26⟩
  · exact ⟨case27⟩
  · exact ⟨case28⟩
  · exact ⟨case29⟩
  · exact ⟨case30⟩
  · exact ⟨case31⟩
  · exact ⟨case32⟩
  · exact ⟨case33⟩
  · exact ⟨case34⟩
  · exact ⟨case35⟩
  · exact ⟨case36⟩
  · exact ⟨case37⟩
  · exact ⟨case38⟩
  · exact ⟨case39⟩
  · exact ⟨case40⟩
  · exact ⟨case41⟩
  · exact ⟨case42⟩
  · exact ⟨case43⟩
  · exact ⟨case44⟩
  · exact ⟨case45⟩
  · exact ⟨case46⟩
  · exact ⟨case47⟩

noncomputable def lawFn (l : Addr) (vs : List Value) (F : List MV → List MO → Option (MV × List MO)) : St → Option (Fl × St) := seqM (tLaw l vs F).1.a (seqM (tLaw l vs F).1.b (seqM (tLaw l vs F).1.c (fun st => (tLaw l vs F).1.d (forget2 3 0 st))))

theorem law_run (l : Addr) (vs : List Value) : ∃ F, (∀ (w : World) (mean : ExcName → Option Value) (mg mb : Str → Option Value) (S : Heap → Prop), FnOk (GG w mean mg mb S) 304 148 F) ∧ ∃ st', lawFn l vs F (lawStart l) = some (.ret (.bool true), st') := by
  have e1 : (1 + sliceSum vs 0).fmod 2 = (1 + sliceSum vs 0) % 2 := Int.fmod_eq_emod_of_nonneg _ (by decide)
  have e2 : (1 + sliceSum vs 1).fmod 3 = (1 + sliceSum vs 1) % 3 := Int.fmod_eq_emod_of_nonneg _ (by decide)
  have e3 : (0 + sliceSum vs 2).fmod 4 = (0 + sliceSum vs 2) % 4 := Int.fmod_eq_emod_of_nonneg _ (by decide)
  obtain ⟨c⟩ := law_cases ((1 + sliceSum vs 0).fmod 2 - 1) ((1 + sliceSum vs 1).fmod 3 - 1) ((0 + sliceSum vs 2).fmod 4 - 1) ((numsOf vs).sum.fmod 2 == 1) (by omega) (by omega) (by omega)
  refine ⟨_, c.fn, ?_⟩
  obtain ⟨⟨fl, st'⟩, hr, hf⟩ := Option.map_eq_some_iff.mp (c.law l vs)
  dsimp only at hf
  subst hf
  refine ⟨st', ?_⟩
  unfold lawFn
  rw [seqM_next law_a, seqM_next law_b, seqM_next law_c]
  show (tLaw l vs _).1.d (forget2 3 0 _) = _
  rw [st4_eq]
  exact hr

theorem law_walk {w : World} {mean : ExcName → Option Value} {mg mb : Str → Option Value} {base : Heap} {s : Shared} {cn name qual : Str} {params : Arguments} {body : List Stmt} {cs : Scope} {dV kV doc pm cdv ct oc cd : Value} {an od : Option Addr} {osl : Array (Option Value)} {fa l : Addr}
    {vs : List Value} {ns : List Int} {m : Str → Option Value} {Q : Flow → Shared → Prop} {E : Value → Shared → Prop}
    (e : (hd.heap_39 w.params).lookup 155 = some ⟨oc, od, .func (fnOf name qual params body cs dV kV doc pm an cdv ct), osl⟩)
    (B : Below callerA base [] base) (X : (hd.heap_39 w.params).In base) (T : Top hd.view_39 (looseW hd.view_39 [Str.ofString "_NodeInfo"]) mean mg mb base)
    (F : Fr base base.objs.size s.heap m) (hcs : cs.names[0]? = some (Str.ofString "script", .local)) (hm : m (Str.ofString "script") = some (.ref l)) (hl : base.IsList l vs.toArray) (hI : IntsAre vs ns) (hlen : ns.length ≤ 63)
    (q : ∀ s', (∀ b o, base.get? b = some o → s'.heap.get? b = some o) → s'.gens = s.gens → s'.os = s.os → Q (.ret (.bool true)) s') :
    wpAny (model PySem.Challenge.rw_mq0030_01.row.prog w) (callerA.deeper (envOf cn cs base.objs.size fa cd)) (execs body (envOf cn cs base.objs.size fa cd)) Q E s := by
  obtain ⟨F148, hF, st', hrun⟩ := law_run l vs
  obtain ⟨hb, hk, hnd⟩ := ((tLaw l vs F148).2 w mean mg mb (hF w mean mg mb _)).get e
  let Γ : Fx := ⟨callerA, callerA.deeper (envOf cn cs base.objs.size fa cd), base, base, [], cn, cs, base.objs.size, fa, cd, s⟩
  have ok : FxOk (GG w mean mg mb (scrS l vs)) 304 Γ := ⟨B, X, T, rfl, hk, hnd, Nat.le_of_ble_eq_true rfl, Nat.le_of_ble_eq_true rfl, by decide, hl, fun v hv => hI.allInts v (by simpa using hv), by rw [hI.length]; exact hlen⟩
  have R : Rel (GG w mean mg mb (scrS l vs)) Γ [] (lawStart l) s := by
    refine ⟨base, Ground.start Γ, rfl, rfl, rfl, ?_, ⟨m, F, ?_⟩, ?_, rfl, ?_⟩
    · exact Nat.lt_trans (by decide : sysModules < 155) (Heap.lt_size (X _ _ e))
    · intro k x kd v hx hv
      match k, hv with
      | 0, hv =>
        cases hv
        rw [hcs] at hx
        cases hx
        exact ⟨_, hm, rfl⟩
      | k + 1, hv =>
        have : (List.replicate 12 (none : Option MV))[k]? = some (some v) := hv
        rw [List.getElem?_replicate] at this
        split at this <;> cases this
    · intro i j a mi mj h1
      cases h1
    · intro i a mo h1
      cases h1
  refine botE (hb Γ ⟨ok, rfl, fun _ => rfl⟩ [] _ s _ st' _ R hrun fun as' s' V p R' fr => ?_)
  obtain ⟨W, rfl, hw⟩ := fr
  cases hw
  obtain ⟨m', F', _⟩ := R'.fr
  exact q s' (fun b o hbo => F'.keep b o (R'.gd.kp b o hbo (by intro hmem; cases hmem))) R'.gens R'.os
end
end Mine

set_option Elab.async false
set_option maxRecDepth 100000
set_option maxHeartbeats 8000000
open PySem PySem.W PyProof.Rows
theorem PySem.Challenge.cw_mq0030_01_holds : PySem.Challenge.rw_mq0030_01.Holds := by
  refine Mine.hd ?_
  k_go0
  refine' Mine.law_walk ?zz1 ?zz2 ?zz3 ?zz4 ?zz5 ?zz6 ?zz7 ?zz8 ?zz9 ?zz10 ?zz11
  case zz3 => assumption
  case zz4 => assumption
  case zz2 => assumption
  case zz5 => assumption
  case zz8 => assumption
  case zz9 => assumption
  case zz1 => rfl
  case zz6 => rfl
  case zz7 => rfl
  case zz10 => omega
  case zz11 =>
    intro s' hk hg ho
    refine ⟨.inl ⟨_, .bool true, [], rfl, fun _ => rfl, .bool true, (by wrow_post), fun _ => ⟨List.nodup_nil, fun _ ha => by cases ha⟩⟩, hk, ho, hg.trans (by assumption)⟩
