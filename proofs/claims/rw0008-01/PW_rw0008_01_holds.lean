import PyProof.Rows.All
import Wide.All
import OpenK.AllK
import Wide.FinOn
import Lean
import PySem.Challenge.RW_rw0008_01
open PySem PySem.W PyProof.Rows
set_option Elab.async false
set_option linter.unusedVariables false
set_option linter.unusedSimpArgs false
namespace Mine
open_top hd for PySem.Challenge.rw_rw0008_01
end Mine
namespace Mine

abbrev Dirt := Addr → Prop

mutual
inductive RepD (D : Dirt) (h : Heap) : Value → PyData → Prop
  | none : RepD D h .none .none
  | bool (b) : RepD D h (.bool b) (.bool b)
  | int (i t) : RepD D h (.int i t) (.int i)
  | list {a vs n xs} : ¬ D a → IsL h a vs n → RepAll D h vs.toList xs → RepD D h (.ref a) (.list xs)
  | tuple {a vs n xs} : ¬ D a → IsT h a vs n → RepAll D h vs.toList xs → RepD D h (.ref a) (.tuple xs)
inductive RepAll (D : Dirt) (h : Heap) : List Value → List PyData → Prop
  | nil : RepAll D h [] []
  | cons {v vs d ds} : RepD D h v d → RepAll D h vs ds → RepAll D h (v :: vs) (d :: ds)
end

def NotFields (o : Obj) : Prop := ∀ fs, o.data ≠ .fields fs

/-- what stays of the data's objects: all but iterators (objects of fields) -/
def KeepS (D : Dirt) (h h' : Heap) : Prop := ∀ a o, ¬ D a → NotFields o → h.get? a = some o → h'.get? a = some o

theorem nf_seq {o : Obj} {xs n} (h : o.data = .seq xs n) : NotFields o := fun fs e => by rw [h] at e; cases e

section
variable {D D' : Dirt} {h h' : Heap}
mutual
theorem RepD.moveS (k : KeepS D h h') (n : ∀ a o, ¬ D a → h.get? a = some o → ¬ D' a) : ∀ {v : Value} {d : PyData}, RepD D h v d → RepD D' h' v d
  | _, _, .none => .none
  | _, _, .bool b => .bool b
  | _, _, .int i t => .int i t
  | _, _, .list na hl ra => .list (n _ _ na hl) (k _ _ na (nf_seq rfl) hl) (RepAll.moveS k n ra)
  | _, _, .tuple na hl ra => .tuple (n _ _ na hl) (k _ _ na (nf_seq rfl) hl) (RepAll.moveS k n ra)
theorem RepAll.moveS (k : KeepS D h h') (n : ∀ a o, ¬ D a → h.get? a = some o → ¬ D' a) : ∀ {vs : List Value} {ds : List PyData}, RepAll D h vs ds → RepAll D' h' vs ds
  | _, _, .nil => .nil
  | _, _, .cons a b => .cons (RepD.moveS k n a) (RepAll.moveS k n b)
end
mutual
theorem RepD.reads : ∀ {v : Value} {d : PyData}, RepD D h v d → ∃ as, Reads h v d as
  | _, _, .none => ⟨_, .none⟩
  | _, _, .bool b => ⟨_, .bool b⟩
  | _, _, .int i t => ⟨_, .int i t⟩
  | _, _, .list _ hl ra => by
    obtain ⟨as, r⟩ := RepAll.reads ra
    exact ⟨_, .list hl rfl rfl r⟩
  | _, _, .tuple _ hl ra => by
    obtain ⟨as, r⟩ := RepAll.reads ra
    exact ⟨_, .tuple hl rfl rfl r⟩
theorem RepAll.reads : ∀ {vs : List Value} {ds : List PyData}, RepAll D h vs ds → ∃ as, ReadsAll h vs ds as
  | _, _, .nil => ⟨_, .nil⟩
  | _, _, .cons a b => by
    obtain ⟨as, r⟩ := RepD.reads a
    obtain ⟨bs, q⟩ := RepAll.reads b
    exact ⟨_, .cons r q⟩
end
end

theorem RepAll.length {D : Dirt} {h : Heap} : ∀ {vs : List Value} {ds : List PyData}, RepAll D h vs ds → vs.length = ds.length
  | _, _, .nil => rfl
  | _, _, .cons _ b => by simp [RepAll.length b]
theorem RepAll.get {D : Dirt} {h : Heap} : ∀ {vs : List Value} {ds : List PyData}, RepAll D h vs ds → ∀ {i : Nat} {d : PyData}, ds[i]? = some d → ∃ v, vs[i]? = some v ∧ RepD D h v d
  | _, _, .nil, i, d, e => by simp at e
  | _, _, .cons a b, 0, d, e => by simp at e; subst e; exact ⟨_, rfl, a⟩
  | _, _, .cons a b, i + 1, d, e => by
    simp only [List.getElem?_cons_succ] at e
    obtain ⟨v, hv, r⟩ := RepAll.get b e
    exact ⟨v, by simpa using hv, r⟩
theorem RepAll.get' {D : Dirt} {h : Heap} : ∀ {vs : List Value} {ds : List PyData}, RepAll D h vs ds → ∀ {i : Nat} {v : Value}, vs[i]? = some v → ∃ d, ds[i]? = some d ∧ RepD D h v d
  | _, _, .nil, i, d, e => by simp at e
  | _, _, .cons a b, 0, d, e => by simp at e; subst e; exact ⟨_, rfl, a⟩
  | _, _, .cons a b, i + 1, d, e => by
    simp only [List.getElem?_cons_succ] at e
    obtain ⟨v, hv, r⟩ := RepAll.get' b e
    exact ⟨v, by simpa using hv, r⟩
theorem RepAll.append {D : Dirt} {h : Heap} : ∀ {vs ws : List Value} {ds es : List PyData}, RepAll D h vs ds → RepAll D h ws es → RepAll D h (vs ++ ws) (ds ++ es)
  | _, _, _, _, .nil, x => x
  | _, _, _, _, .cons a b, x => .cons a (RepAll.append b x)
theorem RepAll.drop {D : Dirt} {h : Heap} : ∀ {vs : List Value} {ds : List PyData} (i : Nat), RepAll D h vs ds → RepAll D h (vs.drop i) (ds.drop i)
  | _, _, i, .nil => by simp; exact .nil
  | _, _, 0, .cons a b => .cons a b
  | _, _, i + 1, .cons a b => by simpa using RepAll.drop i b
theorem RepAll.take {D : Dirt} {h : Heap} : ∀ {vs : List Value} {ds : List PyData} (i : Nat), RepAll D h vs ds → RepAll D h (vs.take i) (ds.take i)
  | _, _, i, .nil => by simp; exact .nil
  | _, _, 0, .cons a b => by simp; exact .nil
  | _, _, i + 1, .cons a b => by simpa using .cons a (RepAll.take i b)
theorem RepAll.set {D : Dirt} {h : Heap} : ∀ {vs : List Value} {ds : List PyData} (i : Nat) {v : Value} {d : PyData}, RepAll D h vs ds → RepD D h v d → RepAll D h (vs.set i v) (ds.set i d)
  | _, _, i, _, _, .nil, _ => by simp; exact .nil
  | _, _, 0, _, _, .cons a b, x => by simpa using .cons x b
  | _, _, i + 1, _, _, .cons a b, x => by simpa using .cons a (RepAll.set i b x)
theorem RepAll.ints {D : Dirt} {h : Heap} : ∀ {vs : List Value} {is : List Int}, RepAll D h vs (is.map .int) → IntsAre vs is
  | [], [], _ => .nil
  | _ :: _, _ :: _, .cons (.int _ _) b => .cons _ _ (RepAll.ints b)
  | [], _ :: _, h => by cases h
  | _ :: _, [], h => by cases h
theorem RepAll.ofInts {D : Dirt} {h : Heap} : ∀ {vs : List Value} {is : List Int}, IntsAre vs is → RepAll D h vs (is.map .int)
  | _, _, .nil => .nil
  | _, _, .cons _ _ b => .cons (.int _ _) (RepAll.ofInts b)

/-! values of names -/
inductive PV where
  | dat (d : PyData)
  | own (xs : List PyData)
  | inst (ks : PyData)

abbrev PI (i : Int) : PV := .dat (.int i)
abbrev PB (b : Bool) : PV := .dat (.bool b)
abbrev dI (xs : List Int) : PyData := .list (xs.map .int)
abbrev tI (xs : List Int) : PyData := .tuple (xs.map .int)

/-- an object of the class at 45, its one attribute -/
def IsInst (D : Dirt) (h : Heap) (x : Addr) (kv : Value) : Prop :=
  ∃ dx od, h.get? x = some (instObj 45 dx) ∧ h.get? dx = some od ∧ ¬ D x ∧ ¬ D dx ∧ NotFields od ∧ W.lookIn "comp_select_list" od = some (some kv) ∧ W.lookIn "compare" od = some none

def Rep (D : Dirt) (h : Heap) (v : Value) : PV → Prop
  | .dat d => RepD D h v d
  | .own xs => ∃ T vs n, v = .ref T ∧ D T ∧ IsL h T vs n ∧ RepAll D h vs.toList xs
  | .inst ks => ∃ x kv, v = .ref x ∧ IsInst D h x kv ∧ RepD D h kv ks

theorem IsInst.moveS {D D' : Dirt} {h h' : Heap} {x : Addr} {kv : Value} (k : KeepS D h h') (n : ∀ a o, ¬ D a → h.get? a = some o → ¬ D' a) : IsInst D h x kv → IsInst D' h' x kv := by
  rintro ⟨dx, od, hx, hdx, nx, ndx, nf, g1, g2⟩
  exact ⟨dx, od, k _ _ nx (fun fs e => by cases e) hx, k _ _ ndx nf hdx, n _ _ nx hx, n _ _ ndx hdx, nf, g1, g2⟩

/-- all that is not fields stays -/
def KeepN (h h' : Heap) : Prop := ∀ a o, NotFields o → h.get? a = some o → h'.get? a = some o
theorem KeepN.toS {D : Dirt} {h h' : Heap} (k : KeepN h h') : KeepS D h h' := fun a o _ nf e => k a o nf e

theorem Rep.moveN {D D' : Dirt} {h h' : Heap} (k : KeepN h h') (n : ∀ a o, ¬ D a → h.get? a = some o → ¬ D' a) (d : ∀ a, D a → D' a) {v : Value} : ∀ {pv : PV}, Rep D h v pv → Rep D' h' v pv
  | .dat _, r => RepD.moveS k.toS n r
  | .own xs, ⟨T, vs, m, e, dT, hl, r⟩ => ⟨T, vs, m, e, d _ dT, k _ _ (nf_seq rfl) hl, r.moveS k.toS n⟩
  | .inst ks, ⟨x, kv, e, hi, r⟩ => ⟨x, kv, e, hi.moveS k.toS n, r.moveS k.toS n⟩

/-- one dirty object is written; what is not that object's stays -/
theorem Rep.write {D : Dirt} {h h' : Heap} {b : Addr} (hs : Heap.SameBut b h h') (db : D b) {v : Value} : ∀ {pv : PV}, Rep D h v pv → (∀ xs, pv = .own xs → v ≠ .ref b) → Rep D h' v pv
  | .dat _, r, _ => RepD.moveS (fun a o na _ e => (hs.2 a (fun q => na (q ▸ db))).trans e) (fun _ _ n _ => n) r
  | .own xs, ⟨T, vs, m, e, dT, hl, r⟩, nb => ⟨T, vs, m, e, dT, (hs.2 T (fun q => nb xs rfl (q ▸ e))).trans hl, r.moveS (fun a o na _ e => (hs.2 a (fun q => na (q ▸ db))).trans e) (fun _ _ n _ => n)⟩
  | .inst ks, ⟨x, kv, e, hi, r⟩, _ => ⟨x, kv, e, hi.moveS (fun a o na _ e => (hs.2 a (fun q => na (q ▸ db))).trans e) (fun _ _ n _ => n), r.moveS (fun a o na _ e => (hs.2 a (fun q => na (q ▸ db))).trans e) (fun _ _ n _ => n)⟩

/-! states -/
structure Kp (s s' : Shared) : Prop where
  same : ∃ h tk, s' = { s with heap := h, toks := tk }
  heap : ∀ b o, s.heap.get? b = some o → s'.heap.get? b = some o
theorem Kp.keepN {s s' : Shared} (k : Kp s s') : KeepN s.heap s'.heap := fun a o _ e => k.heap a o e
theorem Kp.refl (s : Shared) : Kp s s := ⟨⟨s.heap, s.toks, rfl⟩, fun _ _ e => e⟩
theorem Kp.trans {s s' s'' : Shared} (k : Kp s s') (k' : Kp s' s'') : Kp s s'' := by
  refine ⟨?_, fun b o e => k'.heap b o (k.heap b o e)⟩
  obtain ⟨h', tk, rfl⟩ := k.same
  obtain ⟨h'', tk', rfl⟩ := k'.same
  exact ⟨h'', tk', rfl⟩
theorem Kp.of {s s' : Shared} (k : Keeps s s') : Kp s s' := by
  obtain ⟨h', tk, rfl, hk⟩ := k
  exact ⟨⟨h', tk, rfl⟩, hk⟩
theorem Kp.to {s s' : Shared} (k : Kp s s') : Keeps s s' := by
  obtain ⟨⟨h', tk, rfl⟩, hk⟩ := k
  exact ⟨h', tk, rfl, hk⟩
theorem Kp.toks (s : Shared) (t : Nat) : Kp s { s with toks := t } := ⟨⟨s.heap, t, rfl⟩, fun _ _ e => e⟩
theorem Kp.push (s : Shared) (o : Obj) : Kp s { s with heap := s.heap.push o } := ⟨⟨_, s.toks, rfl⟩, fun _ _ e => Heap.get?_push_of_some _ e⟩

theorem Rep.keeps {D : Dirt} {s s' : Shared} {v : Value} {pv : PV} (r : Rep D s.heap v pv) (k : Kp s s') : Rep D s'.heap v pv := r.moveN k.keepN (fun _ _ n _ => n) fun _ d => d
theorem RepD.keeps {D : Dirt} {s s' : Shared} {v : Value} {d : PyData} (r : RepD D s.heap v d) (k : Kp s s') : RepD D s'.heap v d := r.moveS k.keepN.toS fun _ _ n _ => n
theorem RepAll.keeps {D : Dirt} {s s' : Shared} {v : List Value} {d : List PyData} (r : RepAll D s.heap v d) (k : Kp s s') : RepAll D s'.heap v d := r.moveS k.keepN.toS fun _ _ n _ => n

structure Cx where
  prog : Program
  w : World
  K : Frag
  gl : Str → Option Value
abbrev Cx.M (c : Cx) : Model := model c.prog c.w

/-- the ground: what the top has left -/
structure Gnd (c : Cx) (h : Heap) : Prop where
  inK : c.K.In h
  gl : h.Ns mainGlobals c.gl
  bi : ∃ mb, h.Ns builtinsNs mb ∧ ∀ x : Str, x ≠ "__name__" → mb x = bootBuiltins x
  lim : h.NoLimit
theorem Gnd.keeps {c : Cx} {h h' : Heap} (G : Gnd c h) (k : ∀ b o, h.get? b = some o → h'.get? b = some o) : Gnd c h' where
  inK := G.inK.keeps k
  gl := G.gl.keeps k
  bi := let ⟨mb, x, y⟩ := G.bi; ⟨mb, x.keeps k, y⟩
  lim := G.lim.keeps k

abbrev Sg := List (Str × PV)

/-- where a name's value stands -/
def At (env : Env) (h : Heap) (x : Str) (v : Value) : Prop :=
  (env.kindOf x = some .local ∧ ∃ m, h.Ns env.locals m ∧ m x = some v) ∨
  (env.kindOf x = some .cell ∧ ∃ c, env.cells.lookup x = some c ∧ h.IsCell c (some v))

theorem At.moveN {env : Env} {h h' : Heap} {x : Str} {v : Value} (k : KeepN h h') : At env h x v → At env h' x v
  | .inl ⟨a, m, ⟨o, es, ep, ho, hd, r⟩, e⟩ => .inl ⟨a, m, ⟨o, es, ep, k _ _ (fun fs e => by rw [hd] at e; cases e) ho, hd, r⟩, e⟩
  | .inr ⟨a, c, e, o, ho, hd⟩ => .inr ⟨a, c, e, o, k _ _ (fun fs e => by rw [hd] at e; cases e) ho, hd⟩

theorem At.fn {env : Env} {h : Heap} {x : Str} {v v' : Value} : At env h x v → At env h x v' → v = v'
  | .inl ⟨a, m, ⟨o, es, ep, ho, hd, _, r⟩, e⟩, .inl ⟨_, m', ⟨o', es', ep', ho', hd', _, r'⟩, e'⟩ => by
    rw [ho] at ho'; cases ho'
    rw [hd] at hd'; cases hd'
    rw [← r] at e; rw [← r'] at e'; rw [e] at e'; cases e'; rfl
  | .inr ⟨a, c, e, o, ho, hd⟩, .inr ⟨_, c', e', o', ho', hd'⟩ => by
    rw [e] at e'; cases e'
    rw [ho] at ho'; cases ho'
    rw [hd] at hd'; cases hd'; rfl
  | .inl ⟨a, _⟩, .inr ⟨b, _⟩ => by rw [a] at b; cases b
  | .inr ⟨a, _⟩, .inl ⟨b, _⟩ => by rw [a] at b; cases b

structure Rd (c : Cx) (env : Env) (D : Dirt) (σ : Sg) (s : Shared) : Prop where
  gnd : Gnd c s.heap
  dirt : ∀ a, D a → ∃ o, s.heap.get? a = some o ∧ NotFields o
  names : ∀ x pv, σ.lookup x = some pv → (x == ("__debug__" : Str)) = false ∧ ∃ v, At env s.heap x v ∧ Rep D s.heap v pv
  hasC : ∀ x, env.kindOf x = some .cell → ∃ a, env.cells.lookup x = some a
  fn : env.scope.kind = .function
  gl : env.globals = mainGlobals
  bl : env.builtins = builtinsNs

theorem Rd.keeps {c : Cx} {env : Env} {D : Dirt} {σ : Sg} {s s' : Shared} (F : Rd c env D σ s) (k : Kp s s') : Rd c env D σ s' where
  gnd := F.gnd.keeps k.heap
  dirt := fun a d => let ⟨o, ho, nf⟩ := F.dirt a d; ⟨o, k.heap _ _ ho, nf⟩
  names := fun x pv h => let ⟨n, v, a, r⟩ := F.names x pv h; ⟨n, v, a.moveN k.keepN, r.keeps k⟩
  hasC := F.hasC
  fn := F.fn
  gl := F.gl
  bl := F.bl

structure AOk (k : Nat) (A : Around) : Prop where
  hd : A.handled = none
  dp : A.depth + k * 20 ≤ 600
  un : A.units + k * 100 ≤ 5000

def nE : Value → Shared → Prop := fun _ _ => False

/-- an expression gives this, and nothing that stood is changed -/
def Ev (c : Cx) (k : Nat) (sc : Scope) (σ : Sg) (e : Expr) (pv : PV) : Prop :=
  ∀ (env : Env) (A : Around) (D : Dirt) (s : Shared), env.scope = sc → AOk k A → Rd c env D σ s →
    wpAny c.M A (eval e env) (fun v s' => Kp s s' ∧ Rep D s'.heap v pv) nE s
/-- an expression gives a new list of ints -/
def EvF (c : Cx) (k : Nat) (sc : Scope) (σ : Sg) (e : Expr) (is : List Int) : Prop :=
  ∀ (env : Env) (A : Around) (D : Dirt) (s : Shared), env.scope = sc → AOk k A → Rd c env D σ s →
    wpAny c.M A (eval e env) (fun v s' => Kp s s' ∧ ∃ T vs n, v = .ref T ∧ s.heap.get? T = none ∧ IsL s'.heap T vs n ∧ IntsAre vs.toList is) nE s
/-- a test's truth -/
def EvB (c : Cx) (k : Nat) (sc : Scope) (σ : Sg) (e : Expr) (b : Bool) : Prop :=
  ∀ (env : Env) (A : Around) (D : Dirt) (s : Shared), env.scope = sc → AOk k A → Rd c env D σ s →
    wpAny c.M A (isTrue e env (eval e env)) (fun r s' => Kp s s' ∧ r = b) nE s
end Mine

namespace Mine

theorem szL {n : Nat} (h : n ≤ 1000) : n ≤ sizeLine := by rw [sizeLine_eq]; omega

section
variable {c : Cx} {k : Nat} {sc : Scope} {σ : Sg} {l r e : Expr} {a b : Int} {pos : Pos}

theorem EvF.ev {is : List Int} (h : EvF c k sc σ e is) : Ev c k sc σ e (.dat (dI is)) := by
  intro env A D s hs hA F
  refine wpAny_mono (h env A D s hs hA F) (fun v s' h' => ?_) fun _ _ x => x
  obtain ⟨kp, T, vs, n, rfl, hT, hl, hi⟩ := h'
  exact ⟨kp, .list (fun d => by obtain ⟨o, ho, _⟩ := F.dirt T d; rw [hT] at ho; cases ho) hl (RepAll.ofInts hi)⟩

theorem Ev.var {x : Str} {pv : PV} (h : σ.lookup x = some pv) : Ev c k sc σ (.Name x pos) pv := by
  intro env A D s hs hA F
  obtain ⟨hd, v, hv, r⟩ := F.names x pv h
  refine wpAny_Name ?_ hd
  rcases hv with ⟨hk, m, hn, hm⟩ | ⟨hk, cc, hc, hi⟩
  · exact wpAny_loadName_local F.fn hk hn hm ⟨.refl s, r⟩
  · exact wpAny_loadName_cell F.fn hk hc hi ⟨.refl s, r⟩

theorem Ev.int {i : Int} {n : Nat} : Ev c k sc σ (.Constant (.int i) n pos) (PI i) := fun env A D s hs hA F =>
  wpAny_Constant_int ⟨.toks s _, RepD.int _ _⟩
theorem Ev.bool {i : Bool} {n : Nat} : Ev c k sc σ (.Constant (.bool i) n pos) (PB i) := fun env A D s hs hA F => by
  show wpAny c.M A (pure (Value.bool i)) _ _ s
  exact wpAny_pure ⟨.refl s, RepD.bool _⟩

/-- two values, one step -/
theorem Ev.two {op : Operator} {p q t : PV} (hl : Ev c k sc σ l p) (hr : Ev c k sc σ r q)
    (h : ∀ A D s u v, AOk k A → (∀ a, D a → ∃ o, s.heap.get? a = some o) → Rep D s.heap u p → Rep D s.heap v q → wpAny c.M A (binaryOp op u v) (fun v s' => Kp s s' ∧ Rep D s'.heap v t) nE s) :
    Ev c k sc σ (.BinOp l op r pos) t := by
  intro env A D s hs hA F
  refine wpAny_BinOp (wpAny_mono (hl env A D s hs hA F) (fun u s₁ h₁ => ?_) fun _ _ x => x)
  obtain ⟨k1, r1⟩ := h₁
  refine wpAny_mono (hr env A D s₁ hs hA (F.keeps k1)) (fun v s₂ h₂ => ?_) fun _ _ x => x
  obtain ⟨k2, r2⟩ := h₂
  refine wpAny_mono (h A D s₂ u v hA (fun a d => ?_) (r1.keeps k2) r2) (fun _ _ h₃ => ⟨(k1.trans k2).trans h₃.1, h₃.2⟩) fun _ _ x => x
  obtain ⟨o, ho, _⟩ := F.dirt a d
  exact ⟨o, k2.heap _ _ (k1.heap _ _ ho)⟩
theorem EvF.two {op : Operator} {p q : PV} {is : List Int} (hl : Ev c k sc σ l p) (hr : Ev c k sc σ r q)
    (h : ∀ A D s u v, AOk k A → Rep D s.heap u p → Rep D s.heap v q →
      wpAny c.M A (binaryOp op u v) (fun v s' => Kp s s' ∧ ∃ T vs n, v = .ref T ∧ s.heap.get? T = none ∧ IsL s'.heap T vs n ∧ IntsAre vs.toList is) nE s) :
    EvF c k sc σ (.BinOp l op r pos) is := by
  intro env A D s hs hA F
  refine wpAny_BinOp (wpAny_mono (hl env A D s hs hA F) (fun u s₁ h₁ => ?_) fun _ _ x => x)
  obtain ⟨k1, r1⟩ := h₁
  refine wpAny_mono (hr env A D s₁ hs hA (F.keeps k1)) (fun v s₂ h₂ => ?_) fun _ _ x => x
  obtain ⟨k2, r2⟩ := h₂
  refine wpAny_mono (h A D s₂ u v hA (r1.keeps k2) r2) (fun _ _ h₃ => ?_) fun _ _ x => x
  obtain ⟨k3, T, vs, n, rfl, hT, hl, hi⟩ := h₃
  refine ⟨(k1.trans k2).trans k3, T, vs, n, rfl, ?_, hl, hi⟩
  cases e : s.heap.get? T with
  | none => rfl
  | some o => rw [(k1.trans k2).heap _ _ e] at hT; cases hT

theorem Ev.add (hl : Ev c k sc σ l (PI a)) (hr : Ev c k sc σ r (PI b)) : Ev c k sc σ (.BinOp l .Add r pos) (PI (a + b)) :=
  hl.two hr fun A D s u v hA _ ru rv => by
    cases ru; cases rv
    exact P.add_int ⟨.toks s _, RepD.int _ _⟩
theorem Ev.sub (hl : Ev c k sc σ l (PI a)) (hr : Ev c k sc σ r (PI b)) : Ev c k sc σ (.BinOp l .Sub r pos) (PI (a - b)) :=
  hl.two hr fun A D s u v hA _ ru rv => by
    cases ru; cases rv
    exact P.sub_int ⟨.toks s _, RepD.int _ _⟩
theorem Ev.mul (hl : Ev c k sc σ l (PI a)) (hr : Ev c k sc σ r (PI b)) (hm : IntMulOk a b) : Ev c k sc σ (.BinOp l .Mult r pos) (PI (a * b)) :=
  hl.two hr fun A D s u v hA _ ru rv => by
    cases ru; cases rv
    exact P.mul_int ⟨.toks s _, RepD.int _ _⟩ hm
theorem Ev.mod (hl : Ev c k sc σ l (PI a)) (hr : Ev c k sc σ r (PI b)) (hb : b ≠ 0) : Ev c k sc σ (.BinOp l .Mod r pos) (PI (a.fmod b)) :=
  hl.two hr fun A D s u v hA _ ru rv => by
    cases ru; cases rv
    exact mod_int' hb ⟨.toks s _, RepD.int _ _⟩
theorem Ev.neg (hl : Ev c k sc σ l (PI a)) : Ev c k sc σ (.UnaryOp .USub l pos) (PI (-a)) := by
  intro env A D s hs hA F
  show wpAny c.M A (do let v ← eval l env; standAt pos; holding [v] (unaryOp .USub v)) _ _ s
  refine wpAny_bind (wpAny_mono (hl env A D s hs hA F) (fun u s₁ h₁ => ?_) fun _ _ x => x)
  obtain ⟨k1, r1⟩ := h₁
  cases r1
  exact wpAny_bind (wpAny_standAt (wpAny_holding (P.neg_int ⟨k1.trans (.toks s₁ _), RepD.int _ _⟩)))

theorem fresh_size (h : Heap) : h.get? h.objs.size = none := by
  cases e : h.get? h.objs.size with
  | none => rfl
  | some o => exact absurd (Heap.lt_size e) (Nat.lt_irrefl _)
theorem notD {D : Dirt} {h : Heap} (hD : ∀ a, D a → ∃ o, h.get? a = some o) : ¬ D h.objs.size := fun d => by
  obtain ⟨o, ho⟩ := hD _ d
  rw [fresh_size] at ho; cases ho

/-- list + list -/
theorem Ev.cat {xs ys : List PyData} (hl : Ev c k sc σ l (.dat (.list xs))) (hr : Ev c k sc σ r (.dat (.list ys))) (hn : xs.length + ys.length ≤ 1000) :
    Ev c k sc σ (.BinOp l .Add r pos) (.dat (.list (xs ++ ys))) :=
  hl.two hr fun A D s u v hA hD ru rv => by
    cases ru with | @list a vs n _ na hl ra =>
    cases rv with | @list b ws m _ nb hb rb =>
    have e1 := ra.length; have e2 := rb.length
    simp only [Array.length_toList] at e1 e2
    refine P.add_list hl hb ⟨.push s _, ?_⟩ (szL (by omega))
    refine RepD.list (notD hD) (IsL.new _ _) ?_
    rw [Array.toList_append]
    exact (ra.keeps (.push s _)).append (rb.keeps (.push s _))
theorem EvF.cat {xs ys : List Int} (hl : Ev c k sc σ l (.dat (dI xs))) (hr : Ev c k sc σ r (.dat (dI ys))) (hn : xs.length + ys.length ≤ 1000) :
    EvF c k sc σ (.BinOp l .Add r pos) (xs ++ ys) :=
  EvF.two hl hr fun A D s u v hA ru rv => by
    cases ru with | @list a vs n _ na hl ra =>
    cases rv with | @list b ws m _ nb hb rb =>
    have e1 := ra.length; have e2 := rb.length
    simp only [Array.length_toList, List.length_map] at e1 e2
    refine P.add_list hl hb ⟨.push s _, _, _, _, rfl, fresh_size _, IsL.new _ _, ?_⟩ (szL (by omega))
    rw [Array.toList_append]
    have := ra.append rb
    rw [← List.map_append] at this
    exact this.ints
/-- tuple + tuple -/
theorem Ev.tcat {xs ys : List PyData} (el : Ev c k sc σ l (.dat (.tuple xs))) (er : Ev c k sc σ r (.dat (.tuple ys))) (hn : xs.length + ys.length ≤ 1000) :
    Ev c k sc σ (.BinOp l .Add r pos) (.dat (.tuple (xs ++ ys))) :=
  el.two er fun A D s u v hA hD ru rv => by
    cases ru with | @tuple a vs n _ na hl ra =>
    cases rv with | @tuple b ws m _ nb hb rb =>
    have e1 := ra.length; have e2 := rb.length
    simp only [Array.length_toList] at e1 e2
    by_cases h1 : vs.isEmpty = true
    · have hv : vs.toList = [] := by simpa using h1
      rw [hv] at ra
      cases ra
      exact concat_meets ⟨_, hl, rfl⟩ ⟨_, hb, rfl⟩ noFill_tuple_add seq_tuple_add PySem.F.slot_tuple_add PySem.F.entry_tuple_add (PySem.F.args_tuple_add_2 _ _)
        (tuple_addW0 a b vs ws n m none none #[] #[] h1) ⟨hl, hb, .refl s, RepD.tuple nb hb rb⟩
    by_cases h2 : ws.isEmpty = true
    · have hv : ws.toList = [] := by simpa using h2
      rw [hv] at rb
      cases rb
      rw [List.append_nil]
      exact concat_meets ⟨_, hl, rfl⟩ ⟨_, hb, rfl⟩ noFill_tuple_add seq_tuple_add PySem.F.slot_tuple_add PySem.F.entry_tuple_add (PySem.F.args_tuple_add_2 _ _)
        (tuple_addW1 a b vs ws n m none none #[] #[] h1 h2) ⟨hl, hb, .refl s, RepD.tuple na hl ra⟩
    refine P.add_tuple hl hb h1 h2 ⟨.push s _, ?_⟩ (szL (by omega))
    refine RepD.tuple (notD hD) (IsT.new _ _) ?_
    rw [Array.toList_append]
    exact (ra.keeps (.push s _)).append (rb.keeps (.push s _))

theorem mulL {prog : Program} {w : World} {A : Around} {E : Value → Shared → Prop} {s : Shared} {l : Addr} {items : Array Value} {k : Nat} {x : Int} {u : Tok} {Q : Value → Shared → Prop}
    (hl : IsL s.heap l items k) (hlo : -(2 ^ 63 : Int) ≤ x) (hhi : x < 2 ^ 63) (hsz : items.size * x.toNat ≤ 2 ^ 24)
    (h : Q (.ref s.heap.objs.size) { s with heap := s.heap.push { cls := .type "list", data := .seq (List.foldl (fun x1 x2 => x1 ++ x2) #[] (List.replicate (if items.isEmpty = true then 0 else x.toNat) items)) } }) :
    wpAny (model prog w) A (binaryOp .Mult (.ref l) (.int x u)) Q E s :=
  wpAny_binaryOp_repeat_ref (T := "list") (U := "int") (by decide) ⟨_, hl, rfl⟩ (fun s' => typeIs_int s' x u) noFill_list_mul PySem.F.fills_int_mul PySem.F.slot_int_rmul repeat_list PySem.F.slot_int_index.lookup
    (call_meets PySem.F.slot_int_rmul (typeIs_int s x u) PySem.F.entry_int_rmul (PySem.F.args_int_rmul_2 _ _) (int___rmul___int_list x u l items k)
      ⟨hl, rfl, ⟨_, hl, rfl⟩, call_meets PySem.F.slot_list_mul ⟨_, hl, rfl⟩ PySem.F.entry_list_mul (PySem.F.args_list_mul_2 _ _)
        (AutoListH.list___mul___list_int_3 l items k x u (by simp [Builtin.List.listFitsIndex]; omega) (by omega) (by simp [Builtin.List.listTooLong, sizeLine]; omega))
        ⟨hl, h⟩⟩)

theorem foldl_rep {α : Type} (v : α) : ∀ (n : Nat) (acc : Array α), (List.foldl (fun x1 x2 => x1 ++ x2) acc (List.replicate n #[v])).toList = acc.toList ++ List.replicate n v
  | 0, acc => by simp
  | n + 1, acc => by
    rw [List.replicate_succ, List.foldl_cons, foldl_rep v n]
    simp [List.replicate_succ]
theorem IntsAre.rep {v : Value} {i : Int} (h : IntsAre [v] [i]) : ∀ n : Nat, IntsAre (List.replicate n v) (List.replicate n i)
  | 0 => .nil
  | n + 1 => by
    rw [List.replicate_succ, List.replicate_succ]
    cases h
    exact .cons _ _ (IntsAre.rep (.cons _ _ .nil) n)

/-- [i] * n -/
theorem EvF.rep {i x : Int} {n : Nat} (hl : Ev c k sc σ l (.dat (dI [i]))) (hr : Ev c k sc σ r (PI x)) (hx : x = (n : Int)) (hn : n ≤ 1000) :
    EvF c k sc σ (.BinOp l .Mult r pos) (List.replicate n i) :=
  EvF.two hl hr fun A D s u v hA ru rv => by
    subst hx
    cases rv with | int _ t =>
    cases ru with | @list a vs m _ na hl ra =>
    have hi := ra.ints (is := [i])
    obtain ⟨w, hw⟩ : ∃ w, vs.toList = [w] := by
      generalize vs.toList = ws at hi
      cases hi with | cons a b c => cases c; exact ⟨_, rfl⟩
    have hv : vs = #[w] := by rw [← vs.toArray_toList, hw]
    subst hv
    refine mulL hl (by omega) (by omega) (by rw [Int.toNat_natCast]; show 1 * n ≤ _; omega) ?_
    refine ⟨.push s _, _, _, _, rfl, fresh_size _, IsL.new _ _, ?_⟩
    have := foldl_rep w n #[]
    simp at this
    simp [this]
    exact IntsAre.rep hi n

/-! comparisons -/
def cmpZ : CmpOp → Int → Int → Bool
  | .Eq, a, b => decide (a = b)
  | .NotEq, a, b => !decide (a = b)
  | .Lt, a, b => decide (a < b)
  | .LtE, a, b => decide (a ≤ b)
  | .Gt, a, b => decide (a > b)
  | .GtE, a, b => decide (a ≥ b)
  | _, _, _ => false
end
end Mine

namespace Mine

theorem AOk.units {k : Nat} {A : Around} (h : AOk k A) : A.units + 64 < cLine := by
  have := h.un
  have e : cLine = 9900 := rfl
  omega

/-- a comparison's answer -/
def CmpGives (c : Cx) (op : CmpOp) (p q : PyData) (b : Bool) : Prop :=
  ∀ (A : Around) (D : Dirt) (s : Shared) (u v : Value) (Q : Value → Shared → Prop), A.units + 64 < cLine → RepD D s.heap u p → RepD D s.heap v q → Q (.bool b) s → wpAny c.M A (compareOp op u v) Q nE s

section
variable {c : Cx} {k : Nat} {sc : Scope} {σ : Sg} {l r e x y : Expr} {a b : Int} {pos : Pos} {p q : PyData}

theorem CmpGives.lt : CmpGives c .Lt (.int a) (.int b) (decide (a < b)) := fun A D s u v Q _ ru rv h => by
  cases ru; cases rv; exact P.lt_int h
theorem CmpGives.gt : CmpGives c .Gt (.int a) (.int b) (decide (a > b)) := fun A D s u v Q _ ru rv h => by
  cases ru; cases rv; exact P.gt_int h
theorem CmpGives.le : CmpGives c .LtE (.int a) (.int b) (decide (a ≤ b)) := fun A D s u v Q _ ru rv h => by
  cases ru; cases rv; exact P.le_int h
theorem CmpGives.ge : CmpGives c .GtE (.int a) (.int b) (decide (a ≥ b)) := fun A D s u v Q _ ru rv h => by
  cases ru; cases rv; exact P.ge_int h
theorem CmpGives.eq (sp : SeqAt.shaped p = true) (sq : SeqAt.shaped q = true) : CmpGives c .Eq p q (PyData.eqv p q) := fun A D s u v Q hu ru rv h => by
  obtain ⟨as, r1⟩ := ru.reads
  obtain ⟨bs, r2⟩ := rv.reads
  exact eq_dataH r1 r2 sp sq hu h
theorem CmpGives.ne (sp : SeqAt.shaped p = true) (sq : SeqAt.shaped q = true) : CmpGives c .NotEq p q (!PyData.eqv p q) := fun A D s u v Q hu ru rv h => by
  obtain ⟨as, r1⟩ := ru.reads
  obtain ⟨bs, r2⟩ := rv.reads
  exact ne_dataH r1 r2 sp sq hu h
theorem CmpGives.eqI : CmpGives c .Eq (.int a) (.int b) (decide (a = b)) := by
  have := CmpGives.eq (c := c) (p := .int a) (q := .int b) rfl rfl
  have e : PyData.eqv (.int a) (.int b) = decide (a = b) := by simp only [PyData.eqv]; rfl
  rwa [e] at this
theorem CmpGives.neI : CmpGives c .NotEq (.int a) (.int b) (!decide (a = b)) := by
  have := CmpGives.ne (c := c) (p := .int a) (q := .int b) rfl rfl
  have e : PyData.eqv (.int a) (.int b) = decide (a = b) := by simp only [PyData.eqv]; rfl
  rwa [e] at this
theorem eqv_dI (xs ys : List Int) : PyData.eqv (dI xs) (dI ys) = decide (xs = ys) := by
  simp only [PyData.eqv]; exact ked_eqvAll xs ys
theorem CmpGives.eqL {xs ys : List Int} : CmpGives c .Eq (dI xs) (dI ys) (decide (xs = ys)) := by
  have := CmpGives.eq (c := c) (p := dI xs) (q := dI ys) (ke_shaped_ints xs) (ke_shaped_ints ys)
  rwa [eqv_dI] at this
theorem CmpGives.neL {xs ys : List Int} : CmpGives c .NotEq (dI xs) (dI ys) (!decide (xs = ys)) := by
  have := CmpGives.ne (c := c) (p := dI xs) (q := dI ys) (ke_shaped_ints xs) (ke_shaped_ints ys)
  rwa [eqv_dI] at this

theorem EvB.cmp {op : CmpOp} {t : Bool} (hl : Ev c k sc σ l (.dat p)) (hr : Ev c k sc σ r (.dat q)) (h : CmpGives c op p q t)
    (hm : behindInMarks op r = false := by rfl) : EvB c k sc σ (.Compare l [op] [r] pos) t := by
  intro env A D s hs hA F
  refine wpAny_isTrue_Compare1 (wpAny_mono (hl env A D s hs hA F) (fun u s₁ h₁ => ?_) fun _ _ x => x) hm
  obtain ⟨k1, r1⟩ := h₁
  refine wpAny_mono (hr env A D s₁ hs hA (F.keeps k1)) (fun v s₂ h₂ => ?_) fun _ _ x => x
  obtain ⟨k2, r2⟩ := h₂
  exact h A D s₂ u v _ hA.units (r1.keeps k2) r2 (wpAny_truthy_bool ⟨k1.trans k2, rfl⟩)
theorem Ev.cmp {op : CmpOp} {t : Bool} (hl : Ev c k sc σ l (.dat p)) (hr : Ev c k sc σ r (.dat q)) (h : CmpGives c op p q t)
    (hm : behindInMarks op r = false := by rfl) : Ev c k sc σ (.Compare l [op] [r] pos) (PB t) := by
  intro env A D s hs hA F
  refine wpAny_Compare1 (wpAny_mono (hl env A D s hs hA F) (fun u s₁ h₁ => ?_) fun _ _ x => x) hm
  obtain ⟨k1, r1⟩ := h₁
  refine wpAny_mono (hr env A D s₁ hs hA (F.keeps k1)) (fun v s₂ h₂ => ?_) fun _ _ x => x
  obtain ⟨k2, r2⟩ := h₂
  exact h A D s₂ u v _ hA.units (r1.keeps k2) r2 ⟨k1.trans k2, RepD.bool _⟩
/-- a < b <= c -/
theorem EvB.chain {op op' : CmpOp} {t t' : Bool} {m : Expr} {d : PyData} (hl : Ev c k sc σ l (.dat p)) (hm : Ev c k sc σ m (.dat d)) (hr : Ev c k sc σ r (.dat q))
    (h : CmpGives c op p d t) (h' : CmpGives c op' d q t') (hk : lastMarks [op, op'] [m, r] = false := by rfl) :
    EvB c k sc σ (.Compare l [op, op'] [m, r] pos) (t && t') := by
  intro env A D s hs hA F
  refine isTrue_chain (wpAny_mono (hl env A D s hs hA F) (fun u s₁ h₁ => ?_) fun _ _ x => x) hk
  obtain ⟨k1, r1⟩ := h₁
  refine test_link (wpAny_mono (hm env A D s₁ hs hA (F.keeps k1)) (fun v s₂ h₂ => ?_) fun _ _ x => x)
  obtain ⟨k2, r2⟩ := h₂
  refine h A D s₂ u v _ hA.units (r1.keeps k2) r2 (wpAny_truthy_bool ?_)
  cases t with
  | false => exact ⟨k1.trans k2, rfl⟩
  | true =>
    show wpAny c.M A (testChain pos v [op'] [eval r env]) _ _ s₂
    refine test_last (wpAny_mono (hr env A D s₂ hs hA ((F.keeps k1).keeps k2)) (fun w s₃ h₃ => ?_) fun _ _ x => x)
    obtain ⟨k3, r3⟩ := h₃
    exact h' A D s₃ v w _ hA.units (r2.keeps k3) r3 (wpAny_truthy_bool ⟨(k1.trans k2).trans k3, rfl⟩)

theorem EvB.not {t : Bool} (h : EvB c k sc σ e t) : EvB c k sc σ (.UnaryOp .Not e pos) (!t) := fun env A D s hs hA F =>
  wpAny_isTrue_Not (wpAny_mono (h env A D s hs hA F) (fun b s' h' => ⟨h'.1, by rw [h'.2]⟩) fun _ _ x => x)
theorem EvB.and {t t' : Bool} (h : EvB c k sc σ x t) (h' : t = true → EvB c k sc σ y t') : EvB c k sc σ (.BoolOp .And [x, y] pos) (t && t') := by
  intro env A D s hs hA F
  refine wpAny_isTrue_BoolOp (wpAny_allTrue_And_cons (wpAny_mono (h env A D s hs hA F) (fun b s₁ h₁ => ?_) fun _ _ x => x))
  obtain ⟨k1, rfl⟩ := h₁
  cases b with
  | false => exact ⟨k1, rfl⟩
  | true =>
    refine wpAny_allTrue_And_cons (wpAny_mono (h' rfl env A D s₁ hs hA (F.keeps k1)) (fun b s₂ h₂ => ?_) fun _ _ x => x)
    obtain ⟨k2, rfl⟩ := h₂
    cases b with
    | false => exact ⟨k1.trans k2, rfl⟩
    | true => exact wpAny_allTrue_And_nil ⟨k1.trans k2, rfl⟩
theorem EvB.or {t t' : Bool} (h : EvB c k sc σ x t) (h' : t = false → EvB c k sc σ y t') : EvB c k sc σ (.BoolOp .Or [x, y] pos) (t || t') := by
  intro env A D s hs hA F
  refine wpAny_isTrue_BoolOp (wpAny_allTrue_Or_cons (wpAny_mono (h env A D s hs hA F) (fun b s₁ h₁ => ?_) fun _ _ x => x))
  obtain ⟨k1, rfl⟩ := h₁
  cases b with
  | true => exact ⟨k1, rfl⟩
  | false =>
    refine wpAny_allTrue_Or_cons (wpAny_mono (h' rfl env A D s₁ hs hA (F.keeps k1)) (fun b s₂ h₂ => ?_) fun _ _ x => x)
    obtain ⟨k2, rfl⟩ := h₂
    cases b with
    | true => exact ⟨k1.trans k2, rfl⟩
    | false => exact wpAny_allTrue_Or_nil ⟨k1.trans k2, rfl⟩
theorem EvB.or3 {t t' t'' : Bool} {z : Expr} (h : EvB c k sc σ x t) (h' : t = false → EvB c k sc σ y t') (h'' : t = false → t' = false → EvB c k sc σ z t'') :
    EvB c k sc σ (.BoolOp .Or [x, y, z] pos) (t || (t' || t'')) := by
  intro env A D s hs hA F
  refine wpAny_isTrue_BoolOp (wpAny_allTrue_Or_cons (wpAny_mono (h env A D s hs hA F) (fun b s₁ h₁ => ?_) fun _ _ x => x))
  obtain ⟨k1, rfl⟩ := h₁
  cases b with
  | true => exact ⟨k1, rfl⟩
  | false =>
    refine wpAny_allTrue_Or_cons (wpAny_mono (h' rfl env A D s₁ hs hA (F.keeps k1)) (fun b s₂ h₂ => ?_) fun _ _ x => x)
    obtain ⟨k2, rfl⟩ := h₂
    cases b with
    | true => exact ⟨k1.trans k2, rfl⟩
    | false =>
      refine wpAny_allTrue_Or_cons (wpAny_mono (h'' rfl rfl env A D s₂ hs hA ((F.keeps k1).keeps k2)) (fun b s₃ h₃ => ?_) fun _ _ x => x)
      obtain ⟨k3, rfl⟩ := h₃
      cases b with
      | true => exact ⟨(k1.trans k2).trans k3, rfl⟩
      | false => exact wpAny_allTrue_Or_nil ⟨(k1.trans k2).trans k3, rfl⟩

theorem EvB.ofBool {t : Bool} (h : Ev c k sc σ e (PB t)) (he : ∀ env whole, isTrue e env whole = (do let v ← whole; standAt e.pos; holding [v] (truthy v)) := by intro _ _; rfl) : EvB c k sc σ e t := fun env A D s hs hA F => by
  refine wpAny_isTrue_value (wpAny_mono (h env A D s hs hA F) (fun v s₁ h₁ => ?_) fun _ _ x => x) (he _ _)
  obtain ⟨k1, r1⟩ := h₁
  cases r1
  exact wpAny_truthy_bool ⟨k1, rfl⟩
theorem EvB.ofInt {i : Int} (h : Ev c k sc σ e (PI i)) (he : ∀ env whole, isTrue e env whole = (do let v ← whole; standAt e.pos; holding [v] (truthy v)) := by intro _ _; rfl) : EvB c k sc σ e (i != 0) := fun env A D s hs hA F => by
  refine wpAny_isTrue_value (wpAny_mono (h env A D s hs hA F) (fun v s₁ h₁ => ?_) fun _ _ x => x) (he _ _)
  obtain ⟨k1, r1⟩ := h₁
  cases r1
  exact P.truthy_int ⟨k1, rfl⟩

theorem Ev.ifexp {t : Expr} {b : Bool} {pv : PV} (h : EvB c k sc σ t b) (h1 : b = true → Ev c k sc σ x pv) (h2 : b = false → Ev c k sc σ y pv) : Ev c k sc σ (.IfExp t x y pos) pv := by
  intro env A D s hs hA F
  refine wpAny_IfExp (wpAny_mono (h env A D s hs hA F) (fun b' s₁ h₁ => ?_) fun _ _ x => x)
  obtain ⟨k1, rfl⟩ := h₁
  cases b' with
  | true => exact wpAny_mono (h1 rfl env A D s₁ hs hA (F.keeps k1)) (fun _ _ h₂ => ⟨k1.trans h₂.1, h₂.2⟩) fun _ _ x => x
  | false => exact wpAny_mono (h2 rfl env A D s₁ hs hA (F.keeps k1)) (fun _ _ h₂ => ⟨k1.trans h₂.1, h₂.2⟩) fun _ _ x => x
/-- x and y, as a value -/
theorem Ev.andV {t t' : Bool} (h : Ev c k sc σ x (PB t)) (h' : t = true → Ev c k sc σ y (PB t')) : Ev c k sc σ (.BoolOp .And [x, y] pos) (PB (t && t')) := by
  intro env A D s hs hA F
  refine wpAny_And2 (wpAny_mono (h env A D s hs hA F) (fun v s₁ h₁ => ?_) fun _ _ x => x)
  obtain ⟨k1, r1⟩ := h₁
  cases r1
  refine wpAny_truthy_bool ?_
  cases t with
  | false => exact ⟨k1, RepD.bool _⟩
  | true =>
    simp only [if_true, Bool.true_and]
    exact wpAny_mono (h' rfl env A D s₁ hs hA (F.keeps k1)) (fun _ _ h₂ => ⟨k1.trans h₂.1, h₂.2⟩) fun _ _ x => x

/-! displays -/
def EvAll (c : Cx) (k : Nat) (sc : Scope) (σ : Sg) (es : List Expr) (ds : List PyData) : Prop :=
  ∀ (env : Env) (A : Around) (D : Dirt) (s : Shared) (pos : Pos), env.scope = sc → AOk k A → Rd c env D σ s →
    wpAny c.M A (spliced (backTo pos (starEach es env))) (fun vs s' => Kp s s' ∧ RepAll D s'.heap vs ds) nE s
theorem EvAll.nil : EvAll c k sc σ [] [] := fun env A D s pos _ _ _ => Calls.spliced_nil ⟨.refl s, .nil⟩
theorem EvAll.cons {es : List Expr} {d : PyData} {ds : List PyData} (h : Ev c k sc σ e (.dat d)) (hr : EvAll c k sc σ es ds) (he : ∀ env pos, backTo pos (starEach (e :: es) env) = (false, eval e env) :: backTo pos (starEach es env) := by intro _ _; rfl) :
    EvAll c k sc σ (e :: es) (d :: ds) := fun env A D s pos hs hA F => by
  rw [he]
  refine Calls.spliced_cons (wpAny_mono (h env A D s hs hA F) (fun v s₁ h₁ => ?_) fun _ _ x => x)
  refine wpAny_mono (hr env A D s₁ pos hs hA (F.keeps h₁.1)) (fun vs s₂ h₂ => ?_) fun _ _ x => x
  exact ⟨h₁.1.trans h₂.1, .cons (RepD.keeps h₁.2 h₂.1) h₂.2⟩
theorem Rd.exi {env : Env} {D : Dirt} {s : Shared} (F : Rd c env D σ s) : ∀ a, D a → ∃ o, s.heap.get? a = some o := fun a d => let ⟨o, ho, _⟩ := F.dirt a d; ⟨o, ho⟩
theorem Ev.tuple {es : List Expr} {ds : List PyData} {n : Nat} (h : EvAll c k sc σ es ds) (hn : ds.length ≤ 1000 := by decide) : Ev c k sc σ (.Tuple es n pos) (.dat (.tuple ds)) := fun env A D s hs hA F =>
  wpAny_Tuple (wpAny_mono (h env A D s pos hs hA F) (fun vs s₁ h₁ => ⟨szL (by rw [h₁.2.length]; exact hn), h₁.1.trans (.push s₁ _), .tuple (notD (F.keeps h₁.1).exi) (IsT.new _ _) (by simpa using h₁.2.keeps (.push s₁ _))⟩) fun _ _ x => x)
theorem Ev.list {es : List Expr} {ds : List PyData} (h : EvAll c k sc σ es ds) (hn : ds.length ≤ 1000 := by decide) : Ev c k sc σ (.List es pos) (.dat (.list ds)) := fun env A D s hs hA F =>
  wpAny_List (wpAny_mono (h env A D s pos hs hA F) (fun vs s₁ h₁ => ⟨szL (by rw [h₁.2.length]; exact hn), h₁.1.trans (.push s₁ _), .list (notD (F.keeps h₁.1).exi) (IsL.new _ _) (by simpa using h₁.2.keeps (.push s₁ _))⟩) fun _ _ x => x)
theorem EvF.list {es : List Expr} {is : List Int} (h : EvAll c k sc σ es (is.map .int)) (hn : is.length ≤ 1000 := by decide) : EvF c k sc σ (.List es pos) is := fun env A D s hs hA F =>
  wpAny_List (wpAny_mono (h env A D s pos hs hA F) (fun vs s₁ h₁ => ⟨szL (by have := h₁.2.length; rw [List.length_map] at this; rw [this]; exact hn), h₁.1.trans (.push s₁ _), _, _, _, rfl, (by
    cases e : s.heap.get? s₁.heap.objs.size with
    | none => rfl
    | some o => have := h₁.1.heap _ _ e; rw [fresh_size] at this; cases this), IsL.new _ _, by simpa using h₁.2.ints⟩) fun _ _ x => x)
end
end Mine

namespace Mine

section
variable {c : Cx} {k : Nat} {sc : Scope} {σ : Sg} {l r e x y : Expr} {a b : Int} {pos p2 : Pos} {p q : PyData}

theorem idx_of {n : Nat} {i : Int} {j : Nat} (hj : i = (j : Int)) (hn : j < n) : seqIndex? i n = some j := by
  subst hj
  unfold seqIndex?
  simp
  omega

/-- xs[i] -/
theorem Ev.item {xs : List PyData} {i : Int} {d : PyData} (j : Nat) (hl : Ev c k sc σ e (.dat (.list xs))) (hi : Ev c k sc σ x (PI i)) (hj : i = (j : Int)) (hd : xs[j]? = some d) (hn : xs.length ≤ 1000)
    (hs : ∀ o v, subscripted x false o v = operate [o, v] (getItem o v) := by intro _ _; rfl) : Ev c k sc σ (.Subscript e x pos) (.dat d) := by
  intro env A D s h0 hA F
  refine Subscript_ (wpAny_mono (hl env A D s h0 hA F) (fun o s₁ h₁ => ?_) fun _ _ x => x)
  obtain ⟨k1, r1⟩ := h₁
  refine wpAny_mono (hi env A D s₁ h0 hA (F.keeps k1)) (fun v s₂ h₂ => ?_) fun _ _ x => x
  obtain ⟨k2, r2⟩ := h₂
  have r1 := RepD.keeps r1 k2
  cases r2 with | int _ t =>
  cases r1 with | @list a vs n _ na hl ra =>
  obtain ⟨v, hv, rv⟩ := ra.get hd
  have hlt : j < xs.length := (List.getElem?_eq_some_iff.mp hd).1
  have hv' : vs[i.toNat]? = some v := by rw [hj]; simpa using hv
  exact tail_any hl.isList.typeIs slot_list_getitem.lookup (wpAny_getItem_list hl.isList (by omega) (by omega) hv' ⟨k1.trans k2, rv⟩) (hs _ _)
/-- t[i] -/
theorem Ev.itemT {xs : List PyData} {i : Int} {d : PyData} (j : Nat) (hl : Ev c k sc σ e (.dat (.tuple xs))) (hi : Ev c k sc σ x (PI i)) (hj : i = (j : Int)) (hd : xs[j]? = some d) (hn : xs.length ≤ 1000)
    (hs : ∀ o v, subscripted x false o v = operate [o, v] (getItem o v) := by intro _ _; rfl) : Ev c k sc σ (.Subscript e x pos) (.dat d) := by
  intro env A D s h0 hA F
  refine Subscript_ (wpAny_mono (hl env A D s h0 hA F) (fun o s₁ h₁ => ?_) fun _ _ x => x)
  obtain ⟨k1, r1⟩ := h₁
  refine wpAny_mono (hi env A D s₁ h0 hA (F.keeps k1)) (fun v s₂ h₂ => ?_) fun _ _ x => x
  obtain ⟨k2, r2⟩ := h₂
  have r1 := RepD.keeps r1 k2
  cases r2 with | int _ t =>
  cases r1 with | @tuple a vs n _ na hl ra =>
  obtain ⟨v, hv, rv⟩ := ra.get hd
  have hlt : j < xs.length := (List.getElem?_eq_some_iff.mp hd).1
  have hv' : vs[j]? = some v := by simpa using hv
  have hsz : vs.size = xs.length := by have := ra.length; simpa using this
  exact tail_any (T := "tuple") (id := "tuple.__getitem__") ⟨_, hl, rfl⟩ slot_tuple_getitem.lookup (P.getItem_tuple hl (by omega) (by omega) (idx_of hj (by omega)) hv' ⟨k1.trans k2, rv⟩) (hs _ _)

/-! slices -/
/-- a bound of a slice -/
def EvP (c : Cx) (k : Nat) (sc : Scope) (σ : Sg) (e : Option Expr) (o : Option Int) : Prop := match e, o with
  | none, none => True
  | some e, some i => Ev c k sc σ e (PI i)
  | _, _ => False
theorem EvP.step {e : Option Expr} {o : Option Int} (h : EvP c k sc σ e o) {env : Env} {A : Around} {D : Dirt} {s : Shared} (h0 : env.scope = sc) (hA : AOk k A) (F : Rd c env D σ s) :
    wpAny c.M A (evalPart e env) (fun v s' => Kp s s' ∧ IsPart v o) nE s := by
  cases e with
  | none => cases o with
    | none => exact wpAny_evalPart_none ⟨.refl s, .none⟩
    | some i => exact h.elim
  | some e => cases o with
    | none => exact h.elim
    | some i =>
      refine wpAny_evalPart_some (wpAny_mono (h env A D s h0 hA F) (fun v s₁ h₁ => ?_) fun _ _ x => x)
      obtain ⟨k1, r1⟩ := h₁
      cases r1 with | int _ t => exact ⟨k1, .int _ _⟩

def cutL (lo hi : Option Int) {α : Type} (xs : List α) : List α := match lo, hi with
  | none, none => xs
  | some a, none => xs.drop a.toNat
  | none, some b => xs.take b.toNat
  | some a, some b => (xs.drop a.toNat).take (b.toNat - a.toNat)
def nonneg : Option Int → Prop
  | none => True
  | some a => 0 ≤ a

theorem RepAll.cong {D : Dirt} {h : Heap} {vs ws : List Value} {ds : List PyData} (r : RepAll D h vs ds) (e : vs = ws) : RepAll D h ws ds := e ▸ r

theorem cut_pick {D : Dirt} {h : Heap} {vs : Array Value} {ds : List PyData} (r : RepAll D h vs.toList ds) {lo hi : Option Int} (hlo : nonneg lo) (hhi : nonneg hi) :
    RepAll D h (slicePick vs lo hi none).toList (cutL lo hi ds) := by
  have hl : vs.size = ds.length := by simpa using r.length
  cases lo with
  | none => cases hi with
    | none => rw [slicePick_all]; exact r
    | some b =>
      obtain ⟨b', rfl⟩ := Int.eq_ofNat_of_zero_le hhi
      rw [show (Option.some (b' : Int)) = some ((b' : Nat) : Int) from rfl, slicePick_upto']
      simpa [cutL] using r.take b'
  | some a =>
    obtain ⟨a', rfl⟩ := Int.eq_ofNat_of_zero_le hlo
    cases hi with
    | none => rw [slicePick_from']; simpa [cutL] using r.drop a'
    | some b =>
      obtain ⟨b', rfl⟩ := Int.eq_ofNat_of_zero_le hhi
      rw [slicePick_plain]
      simp only [Option.elim, clipAt_nat, cutL, Int.toNat_natCast]
      have := (r.drop a').take (b' - a')
      refine this.cong ?_
      have h1 : vs.size = vs.toList.length := by simp
      rw [h1]
      apply List.ext_getElem?
      intro i
      simp only [List.getElem?_take, List.getElem?_drop]
      by_cases h2 : i < b' - a'
      · rw [if_pos h2]
        by_cases h3 : i < min b' vs.toList.length - min a' vs.toList.length
        · rw [if_pos h3]; congr 1; omega
        · rw [if_neg h3]; apply List.getElem?_eq_none; omega
      · rw [if_neg h2, if_neg (by omega)]

theorem cut_length {α : Type} (lo hi : Option Int) (xs : List α) : (cutL lo hi xs).length ≤ xs.length := by
  cases lo <;> cases hi <;> simp [cutL] <;> omega
theorem cut_map {α β : Type} (f : α → β) (lo hi : Option Int) (xs : List α) : cutL lo hi (xs.map f) = (cutL lo hi xs).map f := by
  cases lo <;> cases hi <;> simp [cutL]

theorem kp_fresh {s s₁ : Shared} (k : Kp s s₁) {T : Addr} (h : s₁.heap.get? T = none) : s.heap.get? T = none := by
  cases e : s.heap.get? T with
  | none => rfl
  | some o => have := k.heap _ _ e; rw [h] at this; cases this

/-- xs[lo:hi] -/
theorem Ev.slice {xs : List PyData} {lo hi : Option Expr} {a b : Option Int} (hl : Ev c k sc σ e (.dat (.list xs))) (hlo : EvP c k sc σ lo a) (hhi : EvP c k sc σ hi b) (ha : nonneg a) (hb : nonneg b) (hn : xs.length ≤ 1000)
    : Ev c k sc σ (.Subscript e (.Slice lo hi none p2) pos) (.dat (.list (cutL a b xs))) := by
  intro env A D s h0 hA F
  refine Subscript_ (wpAny_mono (hl env A D s h0 hA F) (fun o s₁ h₁ => ?_) fun _ _ x => x)
  obtain ⟨k1, r1⟩ := h₁
  refine wpAny_Slice (wpAny_mono (hlo.step h0 hA (F.keeps k1)) (fun v s₂ h₂ => ?_) fun _ _ x => x)
  obtain ⟨k2, r2⟩ := h₂
  refine wpAny_mono (hhi.step h0 hA ((F.keeps k1).keeps k2)) (fun v' s₃ h₃ => ?_) fun _ _ x => x
  obtain ⟨k3, r3⟩ := h₃
  refine wpAny_evalPart_none ?_
  have k4 := Kp.push s₃ { cls := .type "slice", data := .fields #[v, v', .none] }
  have r1 := RepD.keeps (RepD.keeps (RepD.keeps r1 k2) k3) k4
  cases r1 with | @list t vs n _ na hl ra =>
  have hsz : vs.size = xs.length := by have := ra.length; simpa using this
  have k5 := ((k1.trans k2).trans k3).trans k4
  refine tail_any (prog := c.prog) (w := c.w) (T := "list") (s := { s₃ with heap := s₃.heap.push { cls := .type "slice", data := .fields #[v, v', .none] } }) ⟨_, hl, rfl⟩ slot_list_getitem.lookup
    (wpAny_getItem_list_slice hl.isList (Heap.IsSliceOf.new ..) r2 r3 .none (by simp) ?_ (szL (by omega))) rfl
  refine ⟨k5.trans (.push _ _), .list (notD (F.keeps k5).exi) (IsL.new _ _) (RepAll.keeps (cut_pick ra ha hb) (.push _ _))⟩

def strideZ {α : Type} (lo st : Int) (xs : List α) : List α :=
  (sliceRange (sliceBounds (some lo) none (some st) xs.length).1 (sliceBounds (some lo) none (some st) xs.length).2.1 (sliceBounds (some lo) none (some st) xs.length).2.2).filterMap (xs[·]?)

theorem filterMap_ints {vs : List Value} {is : List Int} (h : IntsAre vs is) : ∀ js : List Nat, IntsAre (js.filterMap (vs[·]?)) (js.filterMap (is[·]?))
  | [] => .nil
  | j :: js => by
    have key : ∀ {vs : List Value} {is : List Int}, IntsAre vs is → ∀ j : Nat, (vs[j]? = none ∧ is[j]? = none) ∨ ∃ i t, vs[j]? = some (Value.int i t) ∧ is[j]? = some i := by
      intro vs is h
      induction h with
      | nil => intro j; simp
      | cons i t _ ih =>
        intro j
        cases j with
        | zero => exact .inr ⟨i, t, by simp, by simp⟩
        | succ j => simpa using ih j
    rcases key h j with ⟨h1, h2⟩ | ⟨i, t, h1, h2⟩
    · rw [List.filterMap_cons_none h1, List.filterMap_cons_none h2]; exact filterMap_ints h js
    · rw [List.filterMap_cons_some h1, List.filterMap_cons_some h2]; exact .cons _ _ (filterMap_ints h js)

/-- xs[lo::st] -/
theorem Ev.stride {xs : List Int} {lo st : Expr} (hl : Ev c k sc σ e (.dat (dI xs))) (hlo : Ev c k sc σ lo (PI a)) (hst : Ev c k sc σ st (PI b)) (hb : b ≠ 0) (hn : xs.length ≤ 1000) :
    Ev c k sc σ (.Subscript e (.Slice (some lo) none (some st) p2) pos) (.dat (dI (strideZ a b xs))) := by
  intro env A D s h0 hA F
  refine Subscript_ (wpAny_mono (hl env A D s h0 hA F) (fun o s₁ h₁ => ?_) fun _ _ x => x)
  obtain ⟨k1, r1⟩ := h₁
  refine wpAny_Slice (wpAny_evalPart_some (wpAny_mono (hlo env A D s₁ h0 hA (F.keeps k1)) (fun v s₂ h₂ => ?_) fun _ _ x => x))
  obtain ⟨k2, r2⟩ := h₂
  refine wpAny_evalPart_none (wpAny_evalPart_some (wpAny_mono (hst env A D s₂ h0 hA ((F.keeps k1).keeps k2)) (fun v' s₃ h₃ => ?_) fun _ _ x => x))
  obtain ⟨k3, r3⟩ := h₃
  cases r2 with | int _ t2 =>
  cases r3 with | int _ t3 =>
  have k4 := Kp.push s₃ { cls := .type "slice", data := .fields #[.int a t2, .none, .int b t3] }
  have r1 := RepD.keeps (RepD.keeps (RepD.keeps r1 k2) k3) k4
  cases r1 with | @list t vs n _ na hl ra =>
  have hi := ra.ints
  have hsz : vs.size = xs.length := by have := hi.length; simpa using this
  have k5 := ((k1.trans k2).trans k3).trans k4
  refine tail_any (prog := c.prog) (w := c.w) (T := "list") (s := { s₃ with heap := s₃.heap.push { cls := .type "slice", data := .fields #[.int a t2, .none, .int b t3] } }) ⟨_, hl, rfl⟩ slot_list_getitem.lookup
    (wpAny_getItem_list_slice hl.isList (Heap.IsSliceOf.new ..) (.int _ _) .none (.int _ _) (by simpa using hb) ?_ (szL (by omega))) rfl
  refine ⟨k5.trans (.push _ _), .list (notD (F.keeps k5).exi) (IsL.new _ _) (RepAll.ofInts ?_)⟩
  have := filterMap_ints hi (sliceRange (sliceBounds (some a) none (some b) xs.length).1 (sliceBounds (some a) none (some b) xs.length).2.1 (sliceBounds (some a) none (some b) xs.length).2.2)
  unfold slicePick strideZ
  rw [hsz]
  simpa using this
end
end Mine

namespace Mine

def GlobV (c : Cx) (sc : Scope) (x : Str) (fv : Value) : Prop :=
  sc.names.lookup x = some .globalImplicit ∧ (x == ("__debug__" : Str)) = false ∧ (c.gl x = some fv ∨ (c.gl x = none ∧ x ≠ "__name__" ∧ bootBuiltins x = some fv))

def Callable (c : Cx) (fv : Value) : Prop := match fv with
  | .builtin _ => True
  | .type _ => True
  | .ref a => ∃ o fd, c.K.lookup a = some o ∧ o.data = .func fd
  | _ => False

/-- what a call's answer is like: D, the state before, the value, the state behind -/
abbrev Ans := Dirt → Shared → Value → Shared → Prop
def aD (d : PyData) : Ans := fun D _ v s' => RepD D s'.heap v d
def aF (is : List Int) : Ans := fun _ s v s' => ∃ T vs n, v = .ref T ∧ s.heap.get? T = none ∧ IsL s'.heap T vs n ∧ IntsAre vs.toList is
def aI (ks : PyData) : Ans := fun D _ v s' => Rep D s'.heap v (.inst ks)

/-- a call's contract -/
def CallG (c : Cx) (k : Nat) (fv : Value) (ds : List PyData) (R : Ans) : Prop :=
  ∀ (A : Around) (D : Dirt) (s : Shared) (vs : List Value), AOk k A → Gnd c s.heap → (∀ a, D a → ∃ o, s.heap.get? a = some o ∧ NotFields o) → RepAll D s.heap vs ds →
    wpAny c.M A (call fv vs) (fun v s' => Kp s s' ∧ R D s v s') nE s

section
variable {c : Cx} {k : Nat} {sc : Scope} {σ : Sg} {l r e x y : Expr} {a b : Int} {pos p2 : Pos} {p q : PyData}

theorem glob_step {x : Str} {fv : Value} (hg : GlobV c sc x fv) {env : Env} {A : Around} {D : Dirt} {s : Shared} (h0 : env.scope = sc) (F : Rd c env D σ s) {Q : Value → Shared → Prop} (h : Q fv s) :
    wpAny c.M A (eval (.Name x pos) env) Q nE s := by
  obtain ⟨h1, h2, h3⟩ := hg
  refine Calls.Name_function_global F.fn (by rw [Env.kindOf, h0]; exact h1) ?_ h2
  rcases h3 with h3 | ⟨h3, h4, h5⟩
  · exact Calls.loadGlobal_global (F.gl ▸ F.gnd.gl) h3 h
  · obtain ⟨mb, hb, hm⟩ := F.gnd.bi
    exact Calls.loadGlobal_builtin (F.gl ▸ F.gnd.gl) h3 (F.bl ▸ hb) ((hm x h4).trans h5) h

theorem callWith_step {fv : Value} {e : Expr} {es : List Expr} {d : PyData} {ds : List PyData} (hc : Callable c fv) (h : EvAll c k sc σ (e :: es) ds) {env : Env} {A : Around} {D : Dirt} {s : Shared} (h0 : env.scope = sc) (hA : AOk k A) (F : Rd c env D σ s)
    {Q : Value → Shared → Prop} (hQ : ∀ vs s₁, Kp s s₁ → RepAll D s₁.heap vs ds → wpAny c.M A (call fv vs) Q nE s₁)
    (he : ∀ env pos, backTo pos (starEach (e :: es) env) = (false, eval e env) :: backTo pos (starEach es env))
    (hp : ∀ env pos, (backTo pos (starEach es env)).any (·.1) = false) :
    wpAny c.M A (callWith pos fv [] (backTo pos (starEach (e :: es) env)) []) Q nE s := by
  have h1 := h env A D s pos h0 hA F
  rw [he] at h1 ⊢
  have hp' : ((false, eval e env) :: backTo pos (starEach es env)).any (·.1) = false := by
    simp only [List.any_cons, Bool.false_or]; exact hp _ _
  match fv, hc with
  | .builtin id, _ => exact Calls.callWith_builtin hp' (Calls.evalArgs_plain (wpAny_mono h1 (fun vs s₁ h₂ => hQ vs s₁ h₂.1 h₂.2) fun _ _ x => x))
  | .type T, _ => exact PyProof.Rows.callWith_type hp' (Calls.evalArgs_plain (wpAny_mono h1 (fun vs s₁ h₂ => hQ vs s₁ h₂.1 h₂.2) fun _ _ x => x))
  | .ref a, ⟨o, fd, ho, hd⟩ => exact Calls.callWith_function (o := o) (fd := fd) (Calls.evalArgs_plain (wpAny_mono h1 (fun vs s₁ h₂ => ⟨⟨h₂.1.heap _ _ (F.gnd.inK _ _ ho), hd⟩, hQ vs s₁ h₂.1 h₂.2⟩) fun _ _ x => x))

theorem call_step {R : Ans} {fv : Value} {f : Str} {e : Expr} {es : List Expr} {ds : List PyData} (hg : GlobV c sc f fv) (hc : Callable c fv) (h : EvAll c k sc σ (e :: es) ds) (hf : CallG c k fv ds R)
    {env : Env} {A : Around} {D : Dirt} {s : Shared} (h0 : env.scope = sc) (hA : AOk k A) (F : Rd c env D σ s)
    (he : ∀ env pos, backTo pos (starEach (e :: es) env) = (false, eval e env) :: backTo pos (starEach es env))
    (hp : ∀ env pos, (backTo pos (starEach es env)).any (·.1) = false) :
    wpAny c.M A (eval (.Call (.Name f p2) (e :: es) [] pos) env) (fun v s' => Kp s s' ∧ ∃ s₁, Kp s s₁ ∧ R D s₁ v s') nE s := by
  refine wpAny_Call_NameR (glob_step hg h0 F ?_)
  refine callWith_step (d := .none) hc h h0 hA F (fun vs s₁ k1 ra => ?_) he hp
  refine wpAny_mono (hf A D s₁ vs hA (F.gnd.keeps k1.heap) (F.keeps k1).dirt ra) (fun v s₂ h₂ => ?_) fun _ _ x => x
  exact ⟨k1.trans h₂.1, s₁, k1, h₂.2⟩

/-- f(..): the answer is data -/
theorem Ev.call {fv : Value} {f : Str} {e : Expr} {es : List Expr} {ds : List PyData} {d : PyData} (hg : GlobV c sc f fv) (hc : Callable c fv) (h : EvAll c k sc σ (e :: es) ds) (hf : CallG c k fv ds (aD d))
    (he : ∀ env pos, backTo pos (starEach (e :: es) env) = (false, eval e env) :: backTo pos (starEach es env) := by intro _ _; rfl)
    (hp : ∀ env pos, (backTo pos (starEach es env)).any (·.1) = false := by intro _ _; rfl) : Ev c k sc σ (.Call (.Name f p2) (e :: es) [] pos) (.dat d) := fun env A D s h0 hA F =>
  wpAny_mono (call_step hg hc h hf h0 hA F he hp) (fun v s' h' => by obtain ⟨k1, s₁, _, r⟩ := h'; exact ⟨k1, r⟩) fun _ _ x => x
theorem EvF.call {fv : Value} {f : Str} {e : Expr} {es : List Expr} {ds : List PyData} {is : List Int} (hg : GlobV c sc f fv) (hc : Callable c fv) (h : EvAll c k sc σ (e :: es) ds) (hf : CallG c k fv ds (aF is))
    (he : ∀ env pos, backTo pos (starEach (e :: es) env) = (false, eval e env) :: backTo pos (starEach es env) := by intro _ _; rfl)
    (hp : ∀ env pos, (backTo pos (starEach es env)).any (·.1) = false := by intro _ _; rfl) : EvF c k sc σ (.Call (.Name f p2) (e :: es) [] pos) is := fun env A D s h0 hA F =>
  wpAny_mono (call_step hg hc h hf h0 hA F he hp) (fun v s' h' => by
    obtain ⟨k1, s₁, k2, T, vs, n, rfl, hT, hl, hi⟩ := h'
    exact ⟨k1, T, vs, n, rfl, kp_fresh k2 hT, hl, hi⟩) fun _ _ x => x

/-! built-in functions -/
theorem aF.aD {is : List Int} {fv : Value} {ds : List PyData} (h : CallG c k fv ds (aF is)) : CallG c k fv ds (aD (dI is)) := fun A D s vs hA G hD ra =>
  wpAny_mono (h A D s vs hA G hD ra) (fun v s' h' => by
    obtain ⟨k1, T, vs, n, rfl, hT, hl, hi⟩ := h'
    exact ⟨k1, .list (fun d => by obtain ⟨o, ho, _⟩ := hD T d; rw [hT] at ho; cases ho) hl (RepAll.ofInts hi)⟩) fun _ _ x => x

theorem cg_len {xs : List PyData} (hn : xs.length ≤ 1000) : CallG c k (.builtin "len") [.list xs] (aD (.int xs.length)) := fun A D s vs hA G hD ra => by
  cases ra with | cons rv rn =>
  cases rn
  cases rv with | @list a vs n _ na hl ra =>
  have hsz : vs.size = xs.length := by have := ra.length; simpa using this
  refine Calls.call_len_list hl.isList (by omega) ?_
  rw [hsz]
  exact ⟨.toks s _, RepD.int _ _⟩
theorem cg_sum {is : List Int} : CallG c k (.builtin "sum") [dI is] (aD (.int is.sum)) := fun A D s vs hA G hD ra => by
  cases ra with | cons rv rn =>
  cases rn
  cases rv with | @list a vs n _ na hl ra =>
  have hi := ra.ints
  obtain ⟨xs, hxs⟩ := hi.allInts.items
  have e : vs = intItems xs := by rw [← hxs]
  subst e
  refine sum_intListG hA.hd hl.isList fun h' tk t' hk => ?_
  have e1 : is = xs.toList.map (·.1) := by
    have := hi.numsOf
    rw [← this, nums_intItems]
  rw [preSum_eq, List.take_of_length_le (by simp), ← e1]
  exact ⟨⟨⟨h', tk, rfl⟩, hk⟩, RepD.int _ _⟩
theorem cg_max2 : CallG c k (.builtin "max") [.int a, .int b] (aD (.int (max a b))) := fun A D s vs hA G hD ra => by
  cases ra with | cons rv rn =>
  cases rn with | cons rw_ rn =>
  cases rn; cases rv; cases rw_
  refine max_two_ints hA.hd fun h' tk hk => ?_
  refine ⟨⟨⟨h', tk, rfl⟩, hk⟩, ?_⟩
  show RepD _ _ _ _
  by_cases h : b > a
  · rw [if_pos h, Int.max_eq_right (by omega)]; exact .int _ _
  · rw [if_neg h, Int.max_eq_left (by omega)]; exact .int _ _
theorem cg_min2 : CallG c k (.builtin "min") [.int a, .int b] (aD (.int (min a b))) := fun A D s vs hA G hD ra => by
  cases ra with | cons rv rn =>
  cases rn with | cons rw_ rn =>
  cases rn; cases rv; cases rw_
  refine min_two_ints hA.hd fun h' tk hk => ?_
  refine ⟨⟨⟨h', tk, rfl⟩, hk⟩, ?_⟩
  show RepD _ _ _ _
  by_cases h : b < a
  · rw [if_pos h, Int.min_eq_right (by omega)]; exact .int _ _
  · rw [if_neg h, Int.min_eq_left (by omega)]; exact .int _ _
theorem cg_abs : CallG c k (.builtin "abs") [.int a] (aD (.int (a.natAbs : Int))) := fun A D s vs hA G hD ra => by
  cases ra with | cons rv rn =>
  cases rn; cases rv
  refine call_abs_int fun u tk => ⟨.toks s _, ?_⟩
  have e : (if a < 0 then -a else a) = (a.natAbs : Int) := by split <;> omega
  rw [e]; exact RepD.int _ _
/-- the greatest -/
def IsMax (is : List Int) (m : Int) : Prop := m ∈ is ∧ ∀ a ∈ is, a ≤ m
theorem IsMax.uniq {is : List Int} {m m' : Int} (h : IsMax is m) (h' : IsMax is m') : m = m' := by
  have := h.2 _ h'.1; have := h'.2 _ h.1; omega
theorem cg_max {is : List Int} {m : Int} (hm : IsMax is m) : CallG c k (.builtin "max") [dI is] (aD (.int m)) := fun A D s vs hA G hD ra => by
  cases ra with | cons rv rn =>
  cases rn
  cases rv with | @list a vs n _ na hl ra =>
  have hi := ra.ints
  obtain ⟨xs, hxs⟩ := hi.allInts.items
  have e : vs = intItems xs := by rw [← hxs]
  subst e
  have e1 : is = xs.toList.map (·.1) := by
    have := hi.numsOf
    rw [← this, nums_intItems]
  have hsz : 0 < xs.size := by
    have := hm.1
    rw [e1] at this
    cases h : xs.size with
    | zero => simp at h; subst h; simp at this
    | succ n => omega
  refine max_intList hA.hd hl.isList hsz fun v h' tk hv hk => ?_
  obtain ⟨t, rfl⟩ := intItems_at hv
  obtain ⟨h1, h2⟩ := argBest_gt (numAt xs) (xs.size - 1)
  refine ⟨⟨⟨h', tk, rfl⟩, hk⟩, ?_⟩
  have key : IsMax is (numAt xs (argBest (fun i j => decide (numAt xs i > numAt xs j)) (xs.size - 1))) := by
    rw [e1]
    refine ⟨?_, fun a ha => ?_⟩
    · rw [numAt_eq]; exact getD_mem (by rw [List.length_map, Array.length_toList]; omega)
    · obtain ⟨j, hj, rfl⟩ := mem_getD ha
      rw [List.length_map, Array.length_toList] at hj
      rw [← numAt_eq]; exact h2 j (by omega)
  rw [hm.uniq key]
  exact RepD.int _ _
theorem cg_tuple {xs : List PyData} (hn : xs.length ≤ 1000) : CallG c k (.type "tuple") [.list xs] (aD (.tuple xs)) := fun A D s vs hA G hD ra => by
  cases ra with | cons rv rn =>
  cases rn
  cases rv with | @list a vs n _ na hl ra =>
  have hsz : vs.size = xs.length := by have := ra.length; simpa using this
  refine call_tuple_list hl.isList (fun h' hk => ?_) (szL (by omega))
  have k1 : Kp s { s with heap := h' } := ⟨⟨h', s.toks, rfl⟩, hk⟩
  have k2 := k1.trans (.push { s with heap := h' } { cls := .type "tuple", data := .seq vs })
  refine ⟨k2, .tuple (fun d => ?_) (IsT.new _ _) (RepAll.keeps ra k2)⟩
  obtain ⟨o, ho, _⟩ := hD _ d
  have := hk _ _ ho
  rw [fresh_size] at this; cases this
theorem cg_list {is : List Int} (hn : is.length ≤ 1000) : CallG c k (.type "list") [dI is] (aF is) := fun A D s vs hA G hD ra => by
  cases ra with | cons rv rn =>
  cases rn
  cases rv with | @list a vs n _ na hl ra =>
  have hi := ra.ints
  have hsz : vs.size = is.length := by have := hi.length; simpa using this
  refine call_list_seq a (.inl rfl) hl rfl rfl (fun h' c' hk hT => ?_) (szL (by omega))
  exact ⟨⟨⟨h', s.toks, rfl⟩, hk⟩, _, _, _, rfl, fresh_size _, hT, hi⟩

theorem sub_refl_list : isSubtype (.type "list") (.type "list") = pure true := by rw [isSubtype_type]; kernel_rfl
theorem ty_list : typeOf (.type "list") = pure (.type "type") := PyProof.Rows.meta_list

/-! isinstance(x, T), T a name of the built-ins -/
theorem Ev.isinst {T : String} {f : Str} {b : Bool} {pf pt : Pos} (hg : GlobV c sc "isinstance" (.builtin "isinstance")) (ht : GlobV c sc f (.type T)) (h : Ev c k sc σ e (.dat p))
    (hi : ∀ A D s v Q, RepD D s.heap v p → Q (.bool b) s → wpAny c.M A (PySem.call (.builtin "isinstance") [v, .type T]) Q nE s)
    (he : ∀ env pos, backTo pos (starEach (e :: [.Name f pt]) env) = (false, eval e env) :: (false, eval (.Name f pt) env) :: [] := by intro _ _; rfl) :
    Ev c k sc σ (.Call (.Name "isinstance" pf) [e, .Name f pt] [] pos) (PB b) := fun env A D s h0 hA F => by
  refine wpAny_Call_NameR (glob_step hg h0 F ?_)
  rw [he]
  refine Calls.callWith_builtin (by rfl) (Calls.evalArgs_plain (Calls.spliced_cons (wpAny_mono (h env A D s h0 hA F) (fun v s₁ h₁ => ?_) fun _ _ x => x)))
  obtain ⟨k1, r1⟩ := h₁
  refine Calls.spliced_cons (glob_step ht h0 (F.keeps k1) (Calls.spliced_nil ?_))
  exact hi A D s₁ v _ r1 ⟨k1, RepD.bool _⟩
end
end Mine

namespace Mine

/-- a, a + 1, .. -/
def rng (a : Int) (n : Nat) : List PyData := (List.range n).map fun j : Nat => .int (a + j)

/-- what an iterator has still to give -/
def ItAt (D : Dirt) (h : Heap) (it : Addr) (ds : List PyData) : Prop :=
  (∃ l vs n i all, h.IsListIter it l i ∧ ¬ D l ∧ IsL h l vs n ∧ RepAll D h vs.toList all ∧ ds = all.drop i) ∨
  (∃ x left : Int, IsRangeIter h it x left 1 ∧ ds = rng x left.toNat)

theorem ItAt.fields {D : Dirt} {h : Heap} {it : Addr} {ds : List PyData} : ItAt D h it ds → ∃ o, h.get? it = some o ∧ ¬ NotFields o
  | .inl ⟨_, _, _, _, _, ⟨o, ho, _, hd⟩, _⟩ => ⟨o, ho, fun n => n _ hd⟩
  | .inr ⟨_, _, ho, _⟩ => ⟨_, ho, fun n => n _ rfl⟩

theorem keepN_it {h h' : Heap} {it : Addr} (hf : ∃ o, h.get? it = some o ∧ ¬ NotFields o) (e : Heap.ExtBut it h h') : KeepN h h' := fun a o nf ho => by
  refine e a o (fun q => ?_) ho
  obtain ⟨o', ho', nn⟩ := hf
  rw [q, ho'] at ho; cases ho
  exact nn nf

theorem ItAt.move {D D' : Dirt} {h h' : Heap} {it : Addr} {ds : List PyData} (k : ∀ a o, (a = it ∨ NotFields o) → h.get? a = some o → h'.get? a = some o) (n : ∀ a o, ¬ D a → h.get? a = some o → ¬ D' a) : ItAt D h it ds → ItAt D' h' it ds
  | .inl ⟨l, vs, m, i, all, ⟨o, ho, hc, hd⟩, nl, hl, ra, e⟩ => .inl ⟨l, vs, m, i, all, ⟨o, k _ _ (.inl rfl) ho, hc, hd⟩, n _ _ nl hl, k _ _ (.inr (nf_seq rfl)) hl, ra.moveS (fun a o _ nf e => k a o (.inr nf) e) n, e⟩
  | .inr ⟨x, left, hi, e⟩ => .inr ⟨x, left, k _ _ (.inl rfl) hi, e⟩

theorem range_cons (x : Int) (n : Nat) : rng x (n + 1) = .int x :: rng (x + 1) n := by
  unfold rng
  rw [List.range_succ_eq_map, List.map_cons, List.map_map]
  congr 1
  · simp
  · apply List.map_congr_left
    intro j _
    simp only [Function.comp]
    congr 1
    omega

theorem ItAt.next {prog : Program} {w : World} {A : Around} {E : Value → Shared → Prop} {s : Shared} {D : Dirt} {it : Addr} {ds : List PyData} {Q : Option Value → Shared → Prop} (hh : A.handled = none) (h : ItAt D s.heap it ds)
    (hnil : ds = [] → ∀ h', Heap.ExtBut it s.heap h' → Q none { s with heap := h' })
    (hcons : ∀ d r, ds = d :: r → ∀ v h' tk, Heap.ExtBut it s.heap h' → RepD D h' v d → ItAt D h' it r → Q (some v) { s with heap := h', toks := tk }) :
    wpAny (model prog w) A (pyNext (.ref it)) Q E s := by
  have hf := h.fields
  rcases h with ⟨l, vs, m, i, all, hit, nl, hl, ra, e⟩ | ⟨x, left, hit, e⟩
  · have hlen : vs.size = all.length := by simpa using ra.length
    cases hv : vs[i]? with
    | none =>
      have : vs.size ≤ i := by simpa using hv
      refine wpAny_pyNext_list_end hh hit hl.isList hv fun h' he => hnil ?_ h' he
      rw [e]; exact List.drop_eq_nil_of_le (by omega)
    | some v =>
      refine wpAny_pyNext_list_item hit hl.isList hv fun h' hit' hs' => ?_
      have kn := keepN_it hf hs'.extBut
      obtain ⟨d, hd, rd⟩ := ra.get' (i := i) (by simpa using hv)
      refine hcons d (all.drop (i + 1)) ?_ v h' _ hs'.extBut (rd.moveS kn.toS fun _ _ n _ => n) (.inl ⟨l, vs, m, i + 1, all, hit', nl, kn _ _ (nf_seq rfl) hl, ra.moveS kn.toS fun _ _ n _ => n, rfl⟩)
      rw [e]
      obtain ⟨h1, rfl⟩ := List.getElem?_eq_some_iff.mp hd
      rw [List.drop_eq_getElem_cons h1]
  · by_cases hp : 0 < left
    · refine wpAny_pyNext_range_item hit hp fun h' hit' hs' => ?_
      obtain ⟨n, rfl⟩ : ∃ n : Nat, left = (n : Int) + 1 := ⟨(left - 1).toNat, by omega⟩
      have e1 : ((n : Int) + 1).toNat = n + 1 := by omega
      rw [e1, range_cons] at e
      refine hcons _ _ e _ h' _ hs'.extBut (.int _ _) (.inr ⟨x + 1, (n : Int) + 1 - 1, hit', ?_⟩)
      have e2 : ((n : Int) + 1 - 1).toNat = n := by omega
      rw [e2]
    · refine wpAny_pyNext_range_end hh hit (by omega) fun h' he => hnil ?_ h' he
      rw [e, show left.toNat = 0 by omega]; rfl

/-- an iterable: its items -/
def EvI (c : Cx) (k : Nat) (sc : Scope) (σ : Sg) (e : Expr) (ds : List PyData) : Prop :=
  ∀ (env : Env) (A : Around) (D : Dirt) (s : Shared), env.scope = sc → AOk k A → Rd c env D σ s →
    wpAny c.M A (eval e env) (fun x s₁ => wpAny c.M A (pyIter x) (fun v s₂ => Kp s s₂ ∧ ∃ it, v = .ref it ∧ s.heap.get? it = none ∧ ItAt D s₂.heap it ds) nE s₁) nE s

section
variable {c : Cx} {k : Nat} {sc : Scope} {σ : Sg} {l r e x y : Expr} {a b : Int} {pos p2 : Pos} {p q : PyData}

theorem EvI.list {xs : List PyData} (h : Ev c k sc σ e (.dat (.list xs))) : EvI c k sc σ e xs := fun env A D s h0 hA F => by
  refine wpAny_mono (h env A D s h0 hA F) (fun v s₁ h₁ => ?_) fun _ _ x => x
  obtain ⟨k1, r1⟩ := h₁
  cases r1 with | @list t vs n _ na hl ra =>
  refine wpAny_pyIter_list hl.isList ⟨k1.trans (.push s₁ _), _, rfl, kp_fresh k1 (fresh_size _), .inl ⟨t, vs, n, 0, xs, ⟨_, Heap.get?_push_size _ rfl, rfl, rfl⟩, na, hl.push _, RepAll.keeps ra (.push s₁ _), by simp⟩⟩
theorem evI_range {s s₁ : Shared} {A : Around} {D : Dirt} {r : Addr} {t u v : Tok} {n : Nat} (hn : (b - a).toNat = n) (k1 : Kp s s₁) (hr : IsRange s₁.heap r a b 1 t u v) (h1 : -(2 ^ 62) ≤ a) (h2 : a < 2 ^ 62) (h3 : -(2 ^ 62) ≤ b) (h4 : b < 2 ^ 62) :
    wpAny c.M A (pyIter (.ref r)) (fun v s₂ => Kp s s₂ ∧ ∃ it, v = .ref it ∧ s.heap.get? it = none ∧ ItAt D s₂.heap it (rng a n)) nE s₁ := by
  subst hn
  refine wpAny_pyIter_range hr (small_one h1 h2 h3 h4) ⟨k1.trans (.push s₁ _), _, rfl, kp_fresh k1 (fresh_size _), .inr ⟨a, _, Heap.get?_push_size _ rfl, ?_⟩⟩
  rw [rangeSize_one]
  congr 1
  split <;> omega
theorem EvI.range2 {n : Nat} (hg : GlobV c sc "range" (.type "range")) (h1 : Ev c k sc σ x (PI a)) (h2 : Ev c k sc σ y (PI b)) (ha : a.natAbs ≤ 1000000) (hb : b.natAbs ≤ 1000000) (hn : (b - a).toNat = n)
    (he : ∀ env pos, backTo pos (starEach [x, y] env) = (false, eval x env) :: (false, eval y env) :: [] := by intro _ _; rfl) :
    EvI c k sc σ (.Call (.Name "range" p2) [x, y] [] pos) (rng a n) := fun env A D s h0 hA F => by
  subst hn
  refine wpAny_Call_NameR (glob_step hg h0 F ?_)
  rw [he]
  refine PyProof.Rows.callWith_type (by rfl) (Calls.evalArgs_plain (Calls.spliced_cons (wpAny_mono (h1 env A D s h0 hA F) (fun v s₁ h₁ => ?_) fun _ _ x => x)))
  obtain ⟨k1, r1⟩ := h₁
  refine Calls.spliced_cons (wpAny_mono (h2 env A D s₁ h0 hA (F.keeps k1)) (fun v' s₂ h₂ => ?_) fun _ _ x => x)
  obtain ⟨k2, r2⟩ := h₂
  refine Calls.spliced_nil ?_
  cases r1; cases r2
  refine call_range_2 ?_
  refine evI_range rfl ((k1.trans k2).trans ((Kp.push s₂ _).trans (.toks _ _))) (IsRange.new ..) ?_ ?_ ?_ ?_ <;> omega
theorem EvI.range1 {n : Nat} (hg : GlobV c sc "range" (.type "range")) (h1 : Ev c k sc σ x (PI b)) (hb : b.natAbs ≤ 1000000) (hn : b.toNat = n)
    (he : ∀ env pos, backTo pos (starEach [x] env) = (false, eval x env) :: [] := by intro _ _; rfl) :
    EvI c k sc σ (.Call (.Name "range" p2) [x] [] pos) (rng 0 n) := fun env A D s h0 hA F => by
  subst hn
  refine wpAny_Call_NameR (glob_step hg h0 F ?_)
  rw [he]
  refine PyProof.Rows.callWith_type (by rfl) (Calls.evalArgs_plain (Calls.spliced_cons (wpAny_mono (h1 env A D s h0 hA F) (fun v s₁ h₁ => ?_) fun _ _ x => x)))
  obtain ⟨k1, r1⟩ := h₁
  refine Calls.spliced_nil ?_
  cases r1
  refine call_range_1 ?_
  refine evI_range (by rw [show b - 0 = b by omega]) (k1.trans ((Kp.push s₁ _).trans (.toks _ _))) (IsRange.new ..) ?_ ?_ ?_ ?_ <;> omega
end
end Mine

namespace Mine

def relabelS (scope sc : Scope) : Scope :=
  { scope with names := scope.names.map fun (n, k) => if (k == .free && sc.kind == .function && sc.names.lookup n == some .cell) then (n, .cell) else (n, k) }
theorem relabel_eq {scope sc : Scope} {env : Env} (h : env.scope = sc) : relabel scope env = relabelS scope sc := by subst h; rfl

theorem closureFor_ok {scope : Scope} {env : Env} (h : ∀ y ∈ scope.names, y.2 = .free → ∃ a, env.cells.lookup y.1 = some a) :
    ∃ cl, closureFor scope env = pure cl ∧ ∀ y, (y, NameKind.free) ∈ scope.names → ∃ a, cl.lookup y = some a ∧ env.cells.lookup y = some a := by
  have key : ∀ (names : List (Str × NameKind)) (cs : List (Str × Addr)), (∀ y ∈ names, y.2 = .free → ∃ a, env.cells.lookup y.1 = some a) → (∀ y a, cs.lookup y = some a → env.cells.lookup y = some a) →
      ∃ cl, (forIn names cs (fun (x : Str × NameKind) (cs : List (Str × Addr)) => (match x with | (name, kind) => if (kind == .free) = true then (do let a ← cellOf env name; pure (ForInStep.yield ((name, a) :: cs))) else pure (ForInStep.yield cs) : Sem (ForInStep (List (Str × Addr))))) : Sem _) = pure cl ∧
        (∀ y a, cl.lookup y = some a → env.cells.lookup y = some a) ∧ (∀ y, ((y, NameKind.free) ∈ names ∨ (cs.lookup y).isSome = true) → (cl.lookup y).isSome = true) := by
    intro names
    induction names with
    | nil => intro cs _ hc; exact ⟨cs, rfl, hc, fun y hy => hy.elim (fun q => nomatch q) id⟩
    | cons x r ih =>
      intro cs hx hc
      obtain ⟨n, kd⟩ := x
      by_cases hk : kd = .free
      · subst hk
        obtain ⟨a, ha⟩ := hx (n, .free) (.head _) rfl
        have hc' : ∀ y b, List.lookup y ((n, a) :: cs) = some b → env.cells.lookup y = some b := fun y b e => by
          rw [List.lookup_cons] at e
          cases hb : y == n with
          | true => rw [hb] at e; cases e; rw [eq_of_beq hb]; exact ha
          | false => rw [hb] at e; exact hc y b e
        obtain ⟨cl, e, h1, h2⟩ := ih ((n, a) :: cs) (fun y hy => hx y (.tail _ hy)) hc'
        refine ⟨cl, ?_, h1, fun y hy => h2 y ?_⟩
        · have e0 : cellOf env n = pure a := by unfold cellOf; rw [ha]
          rw [List.forIn_cons]
          simp only [beq_self_eq_true, if_true, e0]
          exact e
        · by_cases hyn : y = n
          · right; rw [List.lookup_cons, hyn, beq_self_eq_true]; rfl
          · rcases hy with hy | hy
            · cases hy with
              | head => exact absurd rfl hyn
              | tail _ q => exact .inl q
            · right; rw [List.lookup_cons, beq_eq_false_iff_ne.mpr hyn]; exact hy
      · obtain ⟨cl, e, h1, h2⟩ := ih cs (fun y hy => hx y (.tail _ hy)) hc
        refine ⟨cl, ?_, h1, fun y hy => h2 y (hy.imp (fun q => ?_) id)⟩
        · rw [List.forIn_cons]
          have : (kd == NameKind.free) = false := by simpa using hk
          simp only [this, Bool.false_eq_true, if_false]
          exact e
        · cases q with
          | head => exact absurd rfl hk
          | tail _ q => exact q
  obtain ⟨cl, e, h1, h2⟩ := key scope.names [] h (fun y a q => nomatch q)
  refine ⟨cl, ?_, fun y hy => ?_⟩
  · have e1 : closureFor scope env = (forIn scope.names [] (fun (x : Str × NameKind) (cs : List (Str × Addr)) => (match x with | (name, kind) => if (kind == .free) = true then (do let a ← cellOf env name; pure (ForInStep.yield ((name, a) :: cs))) else pure (ForInStep.yield cs) : Sem (ForInStep (List (Str × Addr))))) : Sem _) >>= fun cs => pure cs := rfl
    rw [e1, e]; rfl
  · obtain ⟨a, ha⟩ := Option.isSome_iff_exists.mp (h2 y (.inl hy))
    exact ⟨a, ha, h1 y a ha⟩

def okScope (scope sc : Scope) (x : Str) : Bool :=
  scope.names.all (fun y => y.2 != .cell && (y.2 != .local || scope.names.lookup y.1 == some .local) && (y.2 != .free || sc.names.lookup y.1 == some .cell)) && scope.kind == .function && sc.kind == .function && scope.names.lookup x == some .local && !(x == ("__debug__" : Str))

structure OkScope (scope sc : Scope) (x : Str) : Prop where
  cell : ∀ y ∈ scope.names, y.2 ≠ .cell
  names : ∀ y ∈ scope.names, y.2 = .local → scope.names.lookup y.1 = some .local
  free : ∀ y ∈ scope.names, y.2 = .free → sc.names.lookup y.1 = some .cell
  kind : scope.kind = .function
  skind : sc.kind = .function
  xl : scope.names.lookup x = some .local
  dbg : (x == ("__debug__" : Str)) = false

theorem OkScope.of {scope sc : Scope} {x : Str} (h : okScope scope sc x = true) : OkScope scope sc x := by
  simp only [okScope, Bool.and_eq_true, List.all_eq_true, Bool.not_eq_true', Bool.or_eq_true, bne_iff_ne, beq_iff_eq, ne_eq] at h
  obtain ⟨⟨⟨⟨h1, h2⟩, h2'⟩, h3⟩, h4⟩ := h
  exact ⟨fun y hy => (h1 y hy).1.1, fun y hy e => ((h1 y hy).1.2).resolve_left (fun q => q e), fun y hy e => ((h1 y hy).2).resolve_left (fun q => q e), h2, h2', h3, h4⟩

theorem OkScope.relabel {scope sc : Scope} {x y : Str} (O : OkScope scope sc x) (h : scope.names.lookup y = some .free) : (relabelS scope sc).names.lookup y = some .cell := by
  have key : ∀ names : List (Str × NameKind), (∀ y ∈ names, y.2 = .free → sc.names.lookup y.1 = some .cell) → names.lookup y = some .free →
      (names.map fun (n, k) => if (k == NameKind.free && sc.kind == .function && sc.names.lookup n == some .cell) then (n, NameKind.cell) else (n, k)).lookup y = some .cell := by
    intro names
    induction names with
    | nil => intro _ h; cases h
    | cons z r ih =>
      intro hf h
      obtain ⟨n, kd⟩ := z
      rw [List.map_cons]
      rw [List.lookup_cons] at h
      cases hb : y == n with
      | true =>
        rw [hb] at h
        simp only [Option.some.injEq] at h
        subst h
        have := hf (n, .free) (.head _) rfl
        simp only [beq_self_eq_true, O.skind, this, Bool.and_self, if_true, List.lookup_cons, hb]
      | false =>
        rw [hb] at h
        have := ih (fun y hy => hf y (.tail _ hy)) h
        show List.lookup y ((if (kd == NameKind.free && sc.kind == .function && sc.names.lookup n == some .cell) = true then (n, NameKind.cell) else (n, kd)) :: _) = _
        split <;> simp only [List.lookup_cons, hb] <;> exact this
  exact key scope.names O.free h

/-- the names that a comprehension's body reads from the frame around -/
def SubC (scope : Scope) (x : Str) (σ : Sg) : Sg → Prop
  | [] => True
  | (y, pv) :: r => (scope.names.lookup y = some .free ∧ (y == x) = false ∧ σ.lookup y = some pv) ∧ SubC scope x σ r
theorem SubC.spec {scope : Scope} {x : Str} {σ : Sg} : ∀ {σc : Sg}, SubC scope x σ σc → ∀ y pv, σc.lookup y = some pv → scope.names.lookup y = some .free ∧ (y == x) = false ∧ σ.lookup y = some pv
  | [], _, y, pv, e => by simp at e
  | (z, p) :: r, h, y, pv, e => by
    rw [List.lookup_cons] at e
    cases hb : y == z with
    | true => rw [hb] at e; cases e; rw [beq_iff_eq.mp hb]; exact h.1
    | false => rw [hb] at e; exact SubC.spec h.2 y pv e

def TestsOk (c : Cx) (k : Nat) (sc : Scope) (σ : Sg) (ifs : List Expr) (b : Bool) : Prop := match ifs with
  | [] => b = true
  | [t] => EvB c k sc σ t b
  | _ => False
theorem TestsOk.step {c : Cx} {k : Nat} {sc : Scope} {σ : Sg} {ifs : List Expr} {b : Bool} (h : TestsOk c k sc σ ifs b) {env : Env} {A : Around} {D : Dirt} {s : Shared} (h0 : env.scope = sc) (hA : AOk k A) (F : Rd c env D σ s) :
    wpAny c.M A (forIn ifs true fun c r => if r = true then do let ok ← isTrue c env (eval c env); pure (ForInStep.yield ok) else pure (ForInStep.yield r)) (fun ok s' => Kp s s' ∧ ok = b) nE s := by
  match ifs, h with
  | [], e => exact wpAny_tests_nil ⟨.refl s, e.symm⟩
  | [t], h => exact wpAny_tests_one (h env A D s h0 hA F)

/-- what the body makes of an item -/
def ElOk (c : Cx) (k : Nat) (sc : Scope) (σ : Sg) (x : Str) (ifs : List Expr) (elt : Expr) (d : PyData) : Option PyData → Prop
  | none => TestsOk c k sc ((x, .dat d) :: σ) ifs false
  | some z => TestsOk c k sc ((x, .dat d) :: σ) ifs true ∧ Ev c k sc ((x, .dat d) :: σ) elt (.dat z)
inductive CompAll (P : PyData → Option PyData → Prop) : List PyData → List PyData → Prop
  | nil : CompAll P [] []
  | skip {d r zs} : P d none → CompAll P r zs → CompAll P (d :: r) zs
  | take {d r z zs} : P d (some z) → CompAll P r zs → CompAll P (d :: r) (z :: zs)
theorem CompAll.len {P : PyData → Option PyData → Prop} {ds zs : List PyData} (h : CompAll P ds zs) : zs.length ≤ ds.length := by
  induction h with
  | nil => exact Nat.le_refl _
  | skip _ _ ih => simp; omega
  | take _ _ ih => simp; omega

theorem ItAt.self {prog : Program} {w : World} {A : Around} {E : Value → Shared → Prop} {s : Shared} {D : Dirt} {it : Addr} {ds : List PyData} {Q : Value → Shared → Prop} (h : ItAt D s.heap it ds) (hQ : Q (.ref it) s) :
    wpAny (model prog w) A (pyIter (.ref it)) Q E s := by
  rcases h with ⟨l, vs, m, i, all, hit, _⟩ | ⟨x, left, hit, _⟩
  · exact wpAny_pyIter_listiter hit hQ
  · exact wpAny_pyIter_rangeiter hit hQ

section
variable {c : Cx} {k : Nat} {sc : Scope} {σ σc : Sg} {elt iter : Expr} {ifs : List Expr} {x : Str} {px pos : Pos} {scope : Scope} {ds zs : List PyData} {cl : List (Str × Addr)} {env : Env} {A : Around} {D : Dirt} {s : Shared}

/-- the frame of the comprehension -/
theorem rd_comp (O : OkScope scope sc x) (hsub : SubC scope x σ σc) (h0 : env.scope = sc) (hcl : ∀ y, (y, NameKind.free) ∈ scope.names → ∃ a, cl.lookup y = some a ∧ env.cells.lookup y = some a)
    {C T : Addr} {m : Str → Option Value} {v : Value} {d : PyData} (F : Rd c env D σ s) (hC : s.heap.Ns C m) (hm : m x = some v) (hT : ∃ ys n, IsL s.heap T ys n)
    (hv : RepD (fun a => D a ∨ a = T ∨ a = C) s.heap v d)
    {s₀ : Shared} (F₀ : Rd c env D σ s₀) (k₀ : Kp s₀ s) (fT : s₀.heap.get? T = none) (fC : s₀.heap.get? C = none) :
    Rd c (compEnvC scope cl C env) (fun a => D a ∨ a = T ∨ a = C) ((x, .dat d) :: σc) s where
  gnd := F.gnd
  dirt := fun a h => by
    rcases h with h | rfl | rfl
    · exact F.dirt a h
    · obtain ⟨ys, n, h⟩ := hT; exact ⟨_, h, nf_seq rfl⟩
    · obtain ⟨o, es, ep, ho, hd, _⟩ := hC; exact ⟨o, ho, fun fs e => by rw [hd] at e; cases e⟩
  names := fun y pv e => by
    rw [List.lookup_cons] at e
    cases hb : y == x with
    | true =>
      rw [hb] at e; cases e
      rw [eq_of_beq hb]
      refine ⟨O.dbg, v, .inl ⟨?_, m, hC, hm⟩, hv⟩
      show (relabel scope env).names.lookup x = _
      exact lookup_relabel_local O.xl
    | false =>
      rw [hb] at e
      obtain ⟨h1, h2, h3⟩ := hsub.spec y pv e
      obtain ⟨hd, u, hu, ru⟩ := F₀.names y pv h3
      refine ⟨hd, u, .inr ⟨?_, ?_⟩, ?_⟩
      · show (relabel scope env).names.lookup y = _
        rw [relabel_eq h0]; exact O.relabel h1
      · have hk : env.kindOf y = some .cell := by
          rw [Env.kindOf, h0]; exact O.free (y, .free) (mem_of_lookup h1) rfl
        obtain ⟨a, ha, ha'⟩ := hcl y (mem_of_lookup h1)
        rcases hu with ⟨q, _⟩ | ⟨_, b, hb', hi⟩
        · rw [hk] at q; cases q
        · rw [ha'] at hb'; cases hb'
          exact ⟨a, ha, hi.keeps k₀.heap⟩
      · refine ru.moveN k₀.keepN (fun a o nd ho => ?_) fun a h => .inl h
        rintro (h | rfl | rfl)
        · exact nd h
        · rw [fT] at ho; cases ho
        · rw [fC] at ho; cases ho
  hasC := fun y hy => by
    have hy' : (relabelS scope sc).names.lookup y = some .cell := by rw [← relabel_eq h0]; exact hy
    have : (y, NameKind.free) ∈ scope.names := by
      have hm := mem_of_lookup hy'
      simp only [relabelS, List.mem_map] at hm
      obtain ⟨⟨n, kd⟩, hmem, e⟩ := hm
      by_cases hc : (kd == NameKind.free && sc.kind == .function && sc.names.lookup n == some .cell) = true
      · rw [if_pos hc] at e
        have hkd : kd = .free := by
          simp only [Bool.and_eq_true, beq_iff_eq] at hc
          exact hc.1.1
        subst hkd
        have : n = y := (Prod.mk.inj e).1
        rw [← this]; exact hmem
      · rw [if_neg hc] at e
        exact absurd (Prod.mk.inj e).2 (O.cell _ hmem)
    obtain ⟨a, ha, _⟩ := hcl y this
    exact ⟨a, ha⟩
  fn := by show (relabel scope env).kind = _; exact O.kind
  gl := F.gl
  bl := F.bl
end
end Mine

namespace Mine

section
variable {c : Cx} {k : Nat} {sc : Scope} {σ σc : Sg} {elt iter : Expr} {ifs : List Expr} {x : Str} {px pos : Pos} {scope : Scope} {ds zs : List PyData} {cl : List (Str × Addr)} {env : Env} {A : Around} {D : Dirt} {s : Shared}

theorem comp_loop (O : OkScope scope sc x) (hsub : SubC scope x σ σc) (hel : CompAll (ElOk c k (relabelS scope sc) σc x ifs elt) ds zs) (hn : ds.length ≤ 1000)
    (h0 : env.scope = sc) (hA : AOk k A) (F : Rd c env D σ s) (hcl : ∀ y, (y, NameKind.free) ∈ scope.names → ∃ a, cl.lookup y = some a ∧ env.cells.lookup y = some a)
    {s₁ : Shared} {it T C : Addr} {m : Str → Option Value} {R : Result → Shared → Prop} (k1 : Kp s s₁) (fI : s.heap.get? it = none) (fT : s.heap.get? T = none) (fC : s.heap.get? C = none) (hTC : T ≠ C)
    (hit : ItAt (fun a => D a ∨ a = T ∨ a = C) s₁.heap it ds) (hT : s₁.heap.PlainList T #[]) (hC : s₁.heap.Ns C m)
    (hR : ∀ s' ys m', Kp s s' → s'.heap.PlainList T ys → RepAll (fun a => D a ∨ a = T ∨ a = C) s'.heap ys.toList zs → s'.heap.Ns C m' → R (.ok .next) s') :
    codeAny c.M A (.compLoop (.ListComp elt [⟨.Name x px, iter, ifs, 0⟩] scope pos) 0 (.ref it) (.ref T) (compEnvC scope cl C env)) R s₁ := by
  have hscope : (compEnvC scope cl C env).scope = relabelS scope sc := relabel_eq h0
  refine codeAny_compLoop_tests (fun n s' => ∃ r zr zd ys m', n = r.length ∧ CompAll (ElOk c k (relabelS scope sc) σc x ifs elt) r zr ∧ zs = zd ++ zr ∧ Kp s s' ∧ ItAt (fun a => D a ∨ a = T ∨ a = C) s'.heap it r ∧
      s'.heap.PlainList T ys ∧ RepAll (fun a => D a ∨ a = T ∨ a = C) s'.heap ys.toList zd ∧ s'.heap.Ns C m' ∧ zd.length + r.length ≤ 1000) ?_ ds.length
    ⟨ds, zs, [], #[], m, rfl, hel, rfl, k1, hit, hT, .nil, hC, by simpa using hn⟩
  rintro n s' ⟨r, zr, zd, ys, m', rfl, hel', hz, kp, hit', hT', hr', hC', hn'⟩
  have hfI := hit'.fields
  have nTI : T ≠ it := fun q => by
    obtain ⟨o, ho, nn⟩ := hfI
    obtain ⟨cnt, hT'⟩ := hT'
    rw [← q, hT'] at ho; cases ho
    exact nn (nf_seq rfl)
  have nCI : C ≠ it := fun q => by
    obtain ⟨o, ho, nn⟩ := hfI
    obtain ⟨oC, es, ep, hoC, hd, _⟩ := hC'
    rw [← q, hoC] at ho; cases ho
    exact nn (fun fs e => by rw [hd] at e; cases e)
  refine hit'.next hA.hd (fun hr h' he => ?_) (fun d r' hr v h' tk he hv hit'' => ?_)
  · subst hr
    cases hel'
    rw [List.append_nil] at hz; subst hz
    have kn := keepN_it hfI he
    have k2 : Kp s { s' with heap := h' } := by
      obtain ⟨⟨hh, tk, e⟩, kh⟩ := kp
      subst e
      exact ⟨⟨h', tk, rfl⟩, fun b o e => he b o (fun q => by rw [q, fI] at e; cases e) (kh b o e)⟩
    refine hR _ ys m' k2 ?_ ?_ ?_
    · exact hT'.at fun o e => he _ _ nTI e
    · exact hr'.moveS kn.toS fun _ _ n _ => n
    · exact hC'.at' fun o e => he _ _ nCI e
  · subst hr
    have kn := keepN_it hfI he
    have k2 : Kp s { s' with heap := h', toks := tk } := by
      obtain ⟨⟨hh, tk', e⟩, kh⟩ := kp
      subst e
      exact ⟨⟨h', tk, rfl⟩, fun b o e => he b o (fun q => by rw [q, fI] at e; cases e) (kh b o e)⟩
    have hC2 := hC'.at' fun o e => he _ _ nCI e
    refine wpAny_assign_Name (wpAny_storeName_local (lookup_relabel_local O.xl) hC2 (fun h₂ hn₂ hs₂ => ?_) (by
      show (scope.kind == .class || (scope.kind == .module && _)) = false
      rw [O.kind]; rfl))
    have k3 : Kp s { s' with heap := h₂, toks := tk + 1 } := by
      obtain ⟨⟨hh, tk', e⟩, kh⟩ := k2
      refine ⟨?_, fun b o e' => (hs₂.2 b (fun q => by rw [q] at e'; exact absurd (fC.symm.trans e') (fun z => nomatch z))).trans (kh b o e')⟩
      obtain ⟨⟨hh0, tk0, e0⟩, _⟩ := kp
      subst e0
      exact ⟨h₂, tk + 1, rfl⟩
    have kC : ∀ a o, NotFields o ∨ a = it → a ≠ C → h'.get? a = some o → h₂.get? a = some o := fun a o _ na e => (hs₂.2 a na).trans e
    have keepD : KeepS (fun a => D a ∨ a = T ∨ a = C) h' h₂ := fun a o na _ e => (hs₂.2 a (fun q => na (.inr (.inr q)))).trans e
    have hv2 : RepD (fun a => D a ∨ a = T ∨ a = C) h₂ v d := hv.moveS keepD fun _ _ n _ => n
    have hT2 : h₂.PlainList T ys := (hT'.at fun o e => he _ _ nTI e).at fun o e => (hs₂.2 T hTC).trans e
    have hr2 : RepAll (fun a => D a ∨ a = T ∨ a = C) h₂ ys.toList zd := (hr'.moveS kn.toS fun _ _ n _ => n).moveS keepD fun _ _ n _ => n
    have hit2 : ItAt (fun a => D a ∨ a = T ∨ a = C) h₂ it r' := by
      rcases hit'' with ⟨l, vs, m, i, all, ⟨o, ho, hc, hd⟩, nl, hl, ra, e⟩ | ⟨x, left, hi, e⟩
      · exact .inl ⟨l, vs, m, i, all, ⟨o, (hs₂.2 it (Ne.symm nCI)).trans ho, hc, hd⟩, nl, keepD _ _ nl (nf_seq rfl) hl, ra.moveS keepD fun _ _ n _ => n, e⟩
      · exact .inr ⟨x, left, (hs₂.2 it (Ne.symm nCI)).trans hi, e⟩
    have F3 : Rd c (compEnvC scope cl C env) (fun a => D a ∨ a = T ∨ a = C) ((x, .dat d) :: σc) { s' with heap := h₂, toks := tk + 1 } :=
      rd_comp O hsub h0 hcl (F.keeps k3) hn₂ (by simp) (let ⟨n, e⟩ := hT2; ⟨ys, n, e⟩) hv2 F k3 fT fC
    cases hel' with
    | skip he' hel'' =>
      refine wpAny_mono (TestsOk.step he' hscope hA F3) (fun ok s₃ h₃ => ?_) fun _ _ x => x.elim
      obtain ⟨k4, rfl⟩ := h₃
      simp only [Bool.false_eq_true, if_false]
      refine ⟨r'.length, by simp, r', zr, zd, ys, _, rfl, hel'', hz, k3.trans k4, hit2.move (fun a o _ e => k4.heap a o e) (fun _ _ n _ => n), hT2.at fun o e => k4.heap _ _ e, RepAll.keeps hr2 k4, hn₂.keeps k4.heap, ?_⟩
      simp only [List.length_cons] at hn'; omega
    | @take _ _ z zr' he' hel'' =>
      refine wpAny_mono (TestsOk.step he'.1 hscope hA F3) (fun ok s₃ h₃ => ?_) fun _ _ x => x.elim
      obtain ⟨k4, rfl⟩ := h₃
      simp only [if_true]
      refine wpAny_mono (he'.2 _ A _ s₃ hscope hA (F3.keeps k4)) (fun u s₄ h₄ => ?_) fun _ _ x => x.elim
      obtain ⟨k5, ru⟩ := h₄
      have k45 := k4.trans k5
      have hys : ys.size = zd.length := by simpa using hr'.length
      refine wpAny_list_append_plain (hsz := szL (by simp only [List.length_cons] at hn'; omega)) (hT2.at fun o e => k45.heap _ _ e) fun h₅ hl₅ hs₅ => ?_
      have k6 : Kp s { s₄ with heap := h₅ } := by
        obtain ⟨⟨hh, tk', e⟩, kh⟩ := k3.trans k45
        subst e
        exact ⟨⟨h₅, tk', rfl⟩, fun b o e' => (hs₅.2 b (fun q => by rw [q] at e'; rw [fT] at e'; cases e')).trans (kh b o e')⟩
      have keepT : KeepS (fun a => D a ∨ a = T ∨ a = C) s₄.heap h₅ := fun a o na _ e => (hs₅.2 a (fun q => na (.inr (.inl q)))).trans e
      have hit4 := hit2.move (fun a o _ e => k45.heap a o e) (fun _ _ n _ => n)
      refine ⟨r'.length, by simp, r', zr', zd ++ [z], ys.push u, _, rfl, hel'', by rw [hz]; simp, k6, ?_, hl₅, ?_, (hn₂.keeps k45.heap).sameBut hs₅ (Ne.symm hTC), ?_⟩
      · rcases hit4 with ⟨l, vs, m, i, all, ⟨o, ho, hc, hd⟩, nl, hl, ra, e⟩ | ⟨x, left, hi, e⟩
        · exact .inl ⟨l, vs, m, i, all, ⟨o, (hs₅.2 it (Ne.symm nTI)).trans ho, hc, hd⟩, nl, keepT _ _ nl (nf_seq rfl) hl, ra.moveS keepT fun _ _ n _ => n, e⟩
        · exact .inr ⟨x, left, (hs₅.2 it (Ne.symm nTI)).trans hi, e⟩
      · rw [Array.toList_push]
        exact ((RepAll.keeps hr2 k45).moveS keepT fun _ _ n _ => n).append (.cons (RepD.moveS keepT (fun _ _ n _ => n) ru) .nil)
      · simp only [List.length_cons, List.length_append, List.length_nil] at hn' ⊢; omega

theorem comp_core (O : OkScope scope sc x) (hsub : SubC scope x σ σc) (hel : CompAll (ElOk c k (relabelS scope sc) σc x ifs elt) ds zs) (hn : ds.length ≤ 1000)
    (h0 : env.scope = sc) (hA : AOk k A) (F : Rd c env D σ s) (hcl : ∀ y, (y, NameKind.free) ∈ scope.names → ∃ a, cl.lookup y = some a ∧ env.cells.lookup y = some a) (hi : EvI c k sc σ iter ds)
    {RR : Value → Addr → Result → Shared → Prop}
    (hRR : ∀ T C s' ys m', Kp s s' → s.heap.get? T = none → s.heap.get? C = none → T ≠ C → s'.heap.PlainList T ys → RepAll (fun a => D a ∨ a = T ∨ a = C) s'.heap ys.toList zs → s'.heap.Ns C m' → RR (.ref T) C (.ok .next) s') :
    wpAny c.M A (eval iter env) (fun xv s₁ => wpAny c.M A (pyIter xv) (fun it s₂ => wpAny c.M A (newList []) (fun acc s₃ => wpAny c.M A (newFunctionEnv scope env.globals cl [] env.qual none .none (some env)) (fun cenv s₄ =>
      codeAny c.M A (.compStart (.ListComp elt [⟨.Name x px, iter, ifs, 0⟩] scope pos) 0 it acc { cenv with scope := relabel scope env }) (RR acc cenv.locals) s₄) nE s₃) nE s₂) nE s₁) nE s := by
  refine wpAny_mono (hi env A D s h0 hA F) (fun xv s₁ h₁ => wpAny_mono h₁ (fun iv s₂ h₂ => ?_) fun _ _ x => x) fun _ _ x => x
  obtain ⟨k1, it, rfl, fI, hit⟩ := h₂
  refine wpAny_newObj_type (wpAny_newFunctionEnv O.cell (by intro y hy; simp at hy) (fun h₁ hns₁ hsb₁ => ?_) O.kind)
  dsimp only at hns₁ hsb₁ ⊢
  generalize hH2 : s₂.heap.push { cls := .type "list", dict := none, data := .seq ([] : List Value).toArray } = H2 at hns₁ hsb₁ ⊢
  have hC : H2.objs.size = s₂.heap.objs.size + 1 := by rw [← hH2, Heap.size_push]
  have hTC : s₂.heap.objs.size ≠ H2.objs.size := by rw [hC]; exact Nat.ne_of_lt (Nat.lt_succ_self _)
  have fresh : ∀ a, s₂.heap.objs.size ≤ a → s₂.heap.get? a = none := fun a ha => by
    cases e : s₂.heap.get? a with
    | none => rfl
    | some o' => exact absurd (Heap.lt_size e) (Nat.not_lt.mpr ha)
  have fT := fresh s₂.heap.objs.size (Nat.le_refl _)
  have fC := fresh H2.objs.size (by rw [hC]; exact Nat.le_succ _)
  have old : ∀ b o, s₂.heap.get? b = some o → h₁.get? b = some o := fun b o e => hsb₁.extBut b o (fun q => by rw [q, fC] at e; cases e) (Heap.get?_push_of_some _ (hH2 ▸ Heap.get?_push_of_some _ e))
  have hacc : h₁.PlainList s₂.heap.objs.size #[] := ⟨_, hsb₁.extBut _ _ hTC (Heap.get?_push_of_some _ (hH2 ▸ Heap.get?_push_size _ rfl))⟩
  have loop : ∀ s₃ : Shared, s₃ = { s₂ with heap := h₁, toks := s₂.toks + ([] : List (Str × Value)).length } →
      ItAt (fun a => D a ∨ a = s₂.heap.objs.size ∨ a = H2.objs.size) s₃.heap it ds ∧
      codeAny c.M A (.compLoop (.ListComp elt [⟨.Name x px, iter, ifs, 0⟩] scope pos) 0 (.ref it) (.ref s₂.heap.objs.size) (compEnvC scope cl H2.objs.size env)) (RR (.ref s₂.heap.objs.size) H2.objs.size) s₃ := by
    rintro s₃ rfl
    have k2 : Kp s { s₂ with heap := h₁, toks := s₂.toks + ([] : List (Str × Value)).length } := k1.trans ⟨⟨h₁, _, rfl⟩, old⟩
    have hit2 : ItAt (fun a => D a ∨ a = s₂.heap.objs.size ∨ a = H2.objs.size) h₁ it ds := hit.move (fun a o _ e => old a o e) fun a o nd e => by
      rintro (h | rfl | rfl)
      · exact nd h
      · rw [fT] at e; cases e
      · rw [fC] at e; cases e
    exact ⟨hit2, comp_loop O hsub hel hn h0 hA F hcl k2 fI (kp_fresh k1 fT) (kp_fresh k1 fC) hTC hit2 hacc hns₁ fun s' ys m' k3 hT3 hr3 hC3 =>
      hRR _ _ s' ys m' k3 (kp_fresh k1 fT) (kp_fresh k1 fC) hTC hT3 hr3 hC3⟩
  obtain ⟨hit3, hl⟩ := loop _ rfl
  exact codeAny_compStart_list hl (hit3.self hl)
end
end Mine

namespace Mine

section
variable {c : Cx} {k : Nat} {sc : Scope} {σ σc : Sg} {e elt iter : Expr} {ifs : List Expr} {x : Str} {px pos : Pos} {scope : Scope} {ds zs : List PyData}

theorem Rd.closes {env : Env} {D : Dirt} {s : Shared} (F : Rd c env D σ s) (O : OkScope scope sc x) (h0 : env.scope = sc) :
    ∃ cl, closureFor scope env = pure cl ∧ ∀ y, (y, NameKind.free) ∈ scope.names → ∃ a, cl.lookup y = some a ∧ env.cells.lookup y = some a :=
  closureFor_ok fun y hy e => F.hasC y.1 (by rw [Env.kindOf, h0]; exact O.free y hy e)

/-- [elt for x in iter if ..] -/
theorem Ev.comp (σc : Sg) (ds zs : List PyData) (hO : okScope scope sc x = true) (hsub : SubC scope x σ σc) (hi : EvI c k sc σ iter ds) (hel : CompAll (ElOk c k (relabelS scope sc) σc x ifs elt) ds zs) (hn : ds.length ≤ 1000)
    (hs : ∀ env v, foldedSetIterable iter env v = pure v := by intro _ _; rfl) :
    Ev c k sc σ (.ListComp elt [⟨.Name x px, iter, ifs, 0⟩] scope pos) (.dat (.list zs)) := fun env A D s h0 hA F => by
  have O := OkScope.of hO
  obtain ⟨cl, h1, h2⟩ := F.closes O h0
  rw [eval_ListComp]
  refine wpAny_comprehension_free (use := none) rfl (hs env) h1 O.kind O.names (comp_core O hsub hel hn h0 hA F h2 hi ?_)
  intro T C s' ys m' kp fT fC hTC hT hr hC
  refine ⟨m', hC, fun h' hs' => ?_⟩
  have k2 : Kp s { s' with heap := h' } := by
    obtain ⟨⟨hh, tk, e⟩, kh⟩ := kp
    subst e
    exact ⟨⟨h', tk, rfl⟩, fun b o e => (hs'.2 b (fun q => by rw [q, fC] at e; cases e)).trans (kh b o e)⟩
  obtain ⟨n, hT⟩ := hT
  refine ⟨k2, .list (fun d => ?_) ((hs'.2 T hTC).trans hT) (hr.moveS (fun a o na _ e => (hs'.2 a (fun q => na (.inr (.inr q)))).trans e) fun a o na _ d => na (.inl d))⟩
  obtain ⟨o, ho, _⟩ := F.dirt T d
  rw [fT] at ho; cases ho
theorem EvF.comp (σc : Sg) (ds : List PyData) (is : List Int) (hO : okScope scope sc x = true) (hsub : SubC scope x σ σc) (hi : EvI c k sc σ iter ds) (hel : CompAll (ElOk c k (relabelS scope sc) σc x ifs elt) ds (is.map .int)) (hn : ds.length ≤ 1000)
    (hs : ∀ env v, foldedSetIterable iter env v = pure v := by intro _ _; rfl) :
    EvF c k sc σ (.ListComp elt [⟨.Name x px, iter, ifs, 0⟩] scope pos) is := fun env A D s h0 hA F => by
  have O := OkScope.of hO
  obtain ⟨cl, h1, h2⟩ := F.closes O h0
  rw [eval_ListComp]
  refine wpAny_comprehension_free (use := none) rfl (hs env) h1 O.kind O.names (comp_core O hsub hel hn h0 hA F h2 hi ?_)
  intro T C s' ys m' kp fT fC hTC hT hr hC
  refine ⟨m', hC, fun h' hs' => ?_⟩
  have k2 : Kp s { s' with heap := h' } := by
    obtain ⟨⟨hh, tk, e⟩, kh⟩ := kp
    subst e
    exact ⟨⟨h', tk, rfl⟩, fun b o e => (hs'.2 b (fun q => by rw [q, fC] at e; cases e)).trans (kh b o e)⟩
  obtain ⟨n, hT⟩ := hT
  exact ⟨k2, T, ys, n, rfl, fT, (hs'.2 T hTC).trans hT, hr.ints⟩

/-! reading of an own list -/
def SubD (σ : Sg) : List (Str × PyData) → Prop
  | [] => True
  | (y, d) :: r => σ.lookup y = some (.dat d) ∧ SubD σ r
def datas (ρ : List (Str × PyData)) : Sg := ρ.map fun p => (p.1, .dat p.2)
theorem SubD.spec {σ : Sg} : ∀ {ρ : List (Str × PyData)}, SubD σ ρ → ∀ y pv, (datas ρ).lookup y = some pv → ∃ d, pv = .dat d ∧ σ.lookup y = some (.dat d)
  | [], _, y, pv, e => by simp [datas] at e
  | (z, d) :: r, h, y, pv, e => by
    rw [datas, List.map_cons, List.lookup_cons] at e
    cases hb : y == z with
    | true => rw [hb] at e; cases e; rw [beq_iff_eq.mp hb]; exact ⟨d, rfl, h.1⟩
    | false => rw [hb] at e; exact SubD.spec h.2 y pv e

theorem rd_freeze {x : Str} {xs : List PyData} {ρ : List (Str × PyData)} (hx : σ.lookup x = some (.own xs)) (hρ : SubD σ ρ) {env : Env} {D : Dirt} {s : Shared} (F : Rd c env D σ s) :
    ∃ T, (∃ o, s.heap.get? T = some o) ∧ Rd c env (fun a => D a ∧ a ≠ T) ((x, .dat (.list xs)) :: datas ρ) s := by
  obtain ⟨hd, v, hat, T, vs, n, rfl, dT, hl, hr⟩ := F.names x _ hx
  refine ⟨T, ⟨_, hl⟩, F.gnd, fun a h => F.dirt a h.1, fun y pv e => ?_, F.hasC, F.fn, F.gl, F.bl⟩
  rw [List.lookup_cons] at e
  have mv : ∀ {v : Value} {d : PyData}, RepD D s.heap v d → RepD (fun a => D a ∧ a ≠ T) s.heap v d := fun r => r.moveS (fun a o _ _ e => e) fun a o nd _ h => nd h.1
  have mvs : ∀ {v : List Value} {d : List PyData}, RepAll D s.heap v d → RepAll (fun a => D a ∧ a ≠ T) s.heap v d := fun r => r.moveS (fun a o _ _ e => e) fun a o nd _ h => nd h.1
  cases hb : y == x with
  | true =>
    rw [hb] at e; cases e; rw [eq_of_beq hb]
    exact ⟨hd, _, hat, .list (fun h => h.2 rfl) hl (mvs hr)⟩
  | false =>
    rw [hb] at e
    obtain ⟨d, rfl, e'⟩ := hρ.spec y pv e
    obtain ⟨hd', u, hu, ru⟩ := F.names y _ e'
    exact ⟨hd', u, hu, mv ru⟩

theorem Ev.freeze {x : Str} {xs : List PyData} (ρ : List (Str × PyData)) {i : Int} (hx : σ.lookup x = some (.own xs)) (hρ : SubD σ ρ) (h : Ev c k sc ((x, .dat (.list xs)) :: datas ρ) e (PI i)) : Ev c k sc σ e (PI i) := fun env A D s h0 hA F => by
  obtain ⟨T, _, F'⟩ := rd_freeze hx hρ F
  exact wpAny_mono (h env A _ s h0 hA F') (fun v s' h' => ⟨h'.1, by cases h'.2; exact RepD.int _ _⟩) fun _ _ x => x
theorem Ev.freezeB {x : Str} {xs : List PyData} (ρ : List (Str × PyData)) {i : Bool} (hx : σ.lookup x = some (.own xs)) (hρ : SubD σ ρ) (h : Ev c k sc ((x, .dat (.list xs)) :: datas ρ) e (PB i)) : Ev c k sc σ e (PB i) := fun env A D s h0 hA F => by
  obtain ⟨T, _, F'⟩ := rd_freeze hx hρ F
  exact wpAny_mono (h env A _ s h0 hA F') (fun v s' h' => ⟨h'.1, by cases h'.2; exact RepD.bool _⟩) fun _ _ x => x
theorem EvF.freeze {x : Str} {xs : List PyData} (ρ : List (Str × PyData)) {is : List Int} (hx : σ.lookup x = some (.own xs)) (hρ : SubD σ ρ) (h : EvF c k sc ((x, .dat (.list xs)) :: datas ρ) e is) : EvF c k sc σ e is := fun env A D s h0 hA F => by
  obtain ⟨T, _, F'⟩ := rd_freeze hx hρ F
  exact h env A _ s h0 hA F'
theorem EvB.freeze {x : Str} {xs : List PyData} (ρ : List (Str × PyData)) {b : Bool} (hx : σ.lookup x = some (.own xs)) (hρ : SubD σ ρ) (h : EvB c k sc ((x, .dat (.list xs)) :: datas ρ) e b) : EvB c k sc σ e b := fun env A D s h0 hA F => by
  obtain ⟨T, _, F'⟩ := rd_freeze hx hρ F
  exact h env A _ s h0 hA F'

/-! fewer names -/
def Le (σ' σ : Sg) : Prop := ∀ x pv, σ'.lookup x = some pv → σ.lookup x = some pv
theorem Rd.weaken {env : Env} {D : Dirt} {s : Shared} {σ' : Sg} (F : Rd c env D σ s) (h : Le σ' σ) : Rd c env D σ' s :=
  ⟨F.gnd, F.dirt, fun x pv e => F.names x pv (h x pv e), F.hasC, F.fn, F.gl, F.bl⟩
theorem Ev.weaken {σ' : Sg} {pv : PV} (h : Ev c k sc σ' e pv) (hl : Le σ' σ) : Ev c k sc σ e pv := fun env A D s h0 hA F => h env A D s h0 hA (F.weaken hl)
end
end Mine

namespace Mine

abbrev Prot := Addr → Obj → Prop

/-- a frame that may be written -/
structure FW (c : Cx) (P : Prot) (env : Env) (D : Dirt) (σ : Sg) (s : Shared) : Prop where
  rd : Rd c env D σ s
  gp : ∀ h : Heap, (∀ a o, P a o → h.get? a = some o) → Gnd c h
  keep : ∀ a o, P a o → s.heap.get? a = some o
  loc : D env.locals ∧ (∀ o, ¬ P env.locals o) ∧ ∃ m, s.heap.Ns env.locals m
  cel : ∀ x a, env.cells.lookup x = some a → D a ∧ (∀ o, ¬ P a o) ∧ ∃ v, s.heap.IsCell a v
  inj : ∀ x y a, env.cells.lookup x = some a → env.cells.lookup y = some a → x = y
  own : ∀ x xs T, σ.lookup x = some (.own xs) → At env s.heap x (.ref T) → (∀ o, ¬ P T o) ∧ ∀ y ys, σ.lookup y = some (.own ys) → At env s.heap y (.ref T) → y = x

section
variable {c : Cx} {P : Prot} {k : Nat} {sc : Scope} {σ σ' : Sg} {env : Env} {D : Dirt} {s s' : Shared} {x : Str} {v : Value} {pv : PV}

theorem Rd.atBack (F : Rd c env D σ s) (kn : KeepN s.heap s'.heap) {y : Str} {u : Value} (h : σ.lookup y = some pv) (a : At env s'.heap y u) : At env s.heap y u := by
  obtain ⟨_, u', a', _⟩ := F.names y pv h
  have := (a'.moveN kn).fn a
  exact this ▸ a'

/-- a step that changes nothing but iterators -/
theorem FW.keepN (F : FW c P env D σ s) (kn : KeepN s.heap s'.heap) (kp : ∀ a o, P a o → s'.heap.get? a = some o) : FW c P env D σ s' where
  rd := { gnd := F.gp _ kp
          dirt := fun a d => let ⟨o, ho, nf⟩ := F.rd.dirt a d; ⟨o, kn _ _ nf ho, nf⟩
          names := fun x pv h => let ⟨n, v, a, r⟩ := F.rd.names x pv h; ⟨n, v, a.moveN kn, r.moveN kn (fun _ _ n _ => n) fun _ d => d⟩
          hasC := F.rd.hasC, fn := F.rd.fn, gl := F.rd.gl, bl := F.rd.bl }
  gp := F.gp
  keep := kp
  loc := let ⟨a, b, m, o, es, ep, ho, hd, r⟩ := F.loc; ⟨a, b, m, o, es, ep, kn _ _ (fun fs e => by rw [hd] at e; cases e) ho, hd, r⟩
  cel := fun x a h => let ⟨p, q, v, o, ho, hd⟩ := F.cel x a h; ⟨p, q, v, o, kn _ _ (fun fs e => by rw [hd] at e; cases e) ho, hd⟩
  inj := F.inj
  own := fun x xs T h a => let ⟨p, q⟩ := F.own x xs T h (F.rd.atBack kn h a); ⟨p, fun y ys h' a' => q y ys h' (F.rd.atBack kn h' a')⟩
theorem FW.keeps (F : FW c P env D σ s) (kp : Kp s s') : FW c P env D σ s' := F.keepN kp.keepN fun a o p => kp.heap _ _ (F.keep a o p)
theorem FW.weaken (F : FW c P env D σ s) (h : Le σ' σ) : FW c P env D σ' s :=
  ⟨F.rd.weaken h, F.gp, F.keep, F.loc, F.cel, F.inj, fun x xs T e a => let ⟨p, q⟩ := F.own x xs T (h _ _ e) a; ⟨p, fun y ys e' a' => q y ys (h _ _ e') a'⟩⟩

/-- a new object comes under the dirt -/
theorem FW.grow (F : FW c P env D σ s) (kp : Kp s s') {T : Addr} (fT : s.heap.get? T = none) (hT : ∃ o, s'.heap.get? T = some o ∧ NotFields o) : FW c P env (fun a => D a ∨ a = T) σ s' := by
  have F' := F.keeps kp
  refine ⟨⟨F'.rd.gnd, fun a h => ?_, fun x pv h => ?_, F'.rd.hasC, F'.rd.fn, F'.rd.gl, F'.rd.bl⟩, F.gp, F'.keep, ⟨.inl F'.loc.1, F'.loc.2⟩, fun x a h => ⟨.inl (F'.cel x a h).1, (F'.cel x a h).2⟩, F'.inj, F'.own⟩
  · rcases h with h | rfl
    · exact F'.rd.dirt a h
    · exact hT
  · obtain ⟨n, v, a, r⟩ := F.rd.names x pv h
    exact ⟨n, v, a.moveN kp.keepN, r.moveN kp.keepN (fun a o nd ho h => h.elim nd fun q => by rw [q, fT] at ho; cases ho) fun a d => .inl d⟩

/-- writing at one dirty place b -/
theorem FW.write (F : FW c P env D σ s) {b : Addr} {h' : Heap} (hs : Heap.SameBut b s.heap h') (db : D b) (pb : ∀ o, ¬ P b o) (hb : ∃ o, h'.get? b = some o ∧ NotFields o) :
    Gnd c h' ∧ (∀ a o, P a o → h'.get? a = some o) ∧ (∀ a, D a → ∃ o, h'.get? a = some o ∧ NotFields o) := by
  have kp : ∀ a o, P a o → h'.get? a = some o := fun a o p => (hs.2 a (fun q => pb o (q ▸ p))).trans (F.keep a o p)
  refine ⟨F.gp _ kp, kp, fun a d => ?_⟩
  by_cases h : a = b
  · rw [h]; exact hb
  · obtain ⟨o, ho, nf⟩ := F.rd.dirt a d
    exact ⟨o, (hs.2 a h).trans ho, nf⟩

theorem ns_cell {h : Heap} {a : Addr} {m : Str → Option Value} {w : Option Value} (h1 : h.Ns a m) (h2 : h.IsCell a w) : False := by
  obtain ⟨o, es, ep, ho, hd, _⟩ := h1
  obtain ⟨o', ho', hd'⟩ := h2
  rw [ho] at ho'; cases ho'
  rw [hd] at hd'; cases hd'
theorem ns_list {h : Heap} {a : Addr} {m : Str → Option Value} {vs : Array Value} {n : Nat} (h1 : h.Ns a m) (h2 : IsL h a vs n) : False := by
  obtain ⟨o, es, ep, ho, hd, _⟩ := h1
  have h3 := ho.symm.trans h2
  cases h3
  cases hd
theorem cell_list {h : Heap} {a : Addr} {w : Option Value} {vs : Array Value} {n : Nat} (h1 : h.IsCell a w) (h2 : IsL h a vs n) : False := by
  obtain ⟨o, ho, hd⟩ := h1
  have h3 := ho.symm.trans h2
  cases h3
  cases hd

/-- what may be bound to a name: data, an object of the class, or an own list that no other name holds -/
def Bindable (P : Prot) (env : Env) (σ : Sg) (h : Heap) (x : Str) (v : Value) (pv : PV) : Prop :=
  ∀ xs, pv = .own xs → (∀ T, v = .ref T → ∀ o, ¬ P T o) ∧ ∀ y ys, y ≠ x → σ.lookup y = some (.own ys) → ¬ At env h y v

theorem FW.bound (F : FW c P env D σ s) {b : Addr} {h' : Heap} (hs : Heap.SameBut b s.heap h') (db : D b) (pb : ∀ o, ¬ P b o) (hb : ∃ o, h'.get? b = some o ∧ NotFields o)
    (hx : (x == ("__debug__" : Str)) = false) (r : Rep D s.heap v pv) (hB : Bindable P env σ s.heap x v pv)
    (bL : ∀ T vs n, IsL s.heap T vs n → T ≠ b) (hat : At env h' x v) (hats : ∀ y u, y ≠ x → At env s.heap y u → At env h' y u)
    (hL : ∃ m, h'.Ns env.locals m) (hCs : ∀ y a, env.cells.lookup y = some a → ∃ w, h'.IsCell a w) (t : Nat) : FW c P env D ((x, pv) :: σ) { s with heap := h', toks := t } := by
  obtain ⟨g, kp, dt⟩ := F.write hs db pb hb
  have ownT : ∀ {v : Value} {pv : PV}, Rep D s.heap v pv → Rep D h' v pv := fun {v pv} r => r.write hs db fun xs e q => by
    subst e
    obtain ⟨T, vs, n, e1, dT, hl, _⟩ := r
    rw [q] at e1; cases e1
    exact bL _ _ _ hl rfl
  have old : ∀ y q, y ≠ x → σ.lookup y = some q → ∃ u, At env s.heap y u ∧ At env h' y u ∧ Rep D h' u q := fun y q hy h => by
    obtain ⟨_, u, a, r⟩ := F.rd.names y q h
    exact ⟨u, a, hats y u hy a, ownT r⟩
  have lk : ∀ y q, List.lookup y ((x, pv) :: σ) = some q → (y = x ∧ q = pv) ∨ (y ≠ x ∧ σ.lookup y = some q) := fun y q e => by
    rw [List.lookup_cons] at e
    cases hb : y == x with
    | true => rw [hb] at e; cases e; exact .inl ⟨eq_of_beq hb, rfl⟩
    | false => rw [hb] at e; exact .inr ⟨by simpa using hb, e⟩
  refine ⟨⟨g, dt, fun y q e => ?_, F.rd.hasC, F.rd.fn, F.rd.gl, F.rd.bl⟩, F.gp, kp, ⟨F.loc.1, F.loc.2.1, hL⟩, fun y a h => ⟨(F.cel y a h).1, (F.cel y a h).2.1, hCs y a h⟩, F.inj, fun y xs T e a => ?_⟩
  · rcases lk y q e with ⟨rfl, rfl⟩ | ⟨hy, e'⟩
    · exact ⟨hx, v, hat, ownT r⟩
    · obtain ⟨u, _, a', r'⟩ := old y q hy e'
      exact ⟨(F.rd.names y q e').1, u, a', r'⟩
  · have backA : ∀ z q u, z ≠ x → σ.lookup z = some q → At env h' z u → At env s.heap z u := fun z q u hz hq au => by
      obtain ⟨u', a1, a2, _⟩ := old z q hz hq
      exact (a2.fn au) ▸ a1
    rcases lk y _ e with ⟨rfl, e'⟩ | ⟨hy, e'⟩
    · have hv : v = .ref T := hat.fn a
      obtain ⟨p, q⟩ := hB xs e'.symm
      refine ⟨p T hv, fun z ys h1 h2 => ?_⟩
      rcases lk z _ h1 with ⟨rfl, _⟩ | ⟨hz, h1'⟩
      · rfl
      · exact absurd (hv ▸ backA z _ _ hz h1' h2) (q z ys hz h1')
    · have a0 := backA y _ _ hy e' a
      obtain ⟨p, q⟩ := F.own y xs T e' a0
      refine ⟨p, fun z ys h1 h2 => ?_⟩
      rcases lk z _ h1 with ⟨rfl, e2⟩ | ⟨hz, h1'⟩
      · have hv : v = .ref T := hat.fn h2
        exact absurd (hv ▸ a0) ((hB ys e2.symm).2 y xs hy e')
      · exact q z ys h1' (backA z _ _ hz h1' h2)

/-- what a store leaves as it is -/
structure Stored (env : Env) (x : Str) (s s' : Shared) : Prop where
  same : ∃ h tk, s' = { s with heap := h, toks := tk }
  lists : ∀ T vs n, IsL s.heap T vs n → IsL s'.heap T vs n
  ats : ∀ y u, y ≠ x → At env s.heap y u → At env s'.heap y u

/-- x = v -/
theorem FW.store (F : FW c P env D σ s) {A : Around} (hk : env.kindOf x = some .local ∨ env.kindOf x = some .cell) (hx : (x == ("__debug__" : Str)) = false) (r : Rep D s.heap v pv) (hB : Bindable P env σ s.heap x v pv) :
    wpAny c.M A (storeName env x v) (fun _ s' => FW c P env D ((x, pv) :: σ) s' ∧ Stored env x s s') nE s := by
  obtain ⟨dL, pL, m, hm⟩ := F.loc
  have hp : (env.scope.kind == .class || (env.scope.kind == .module && env.locals != env.globals)) = false := by rw [F.rd.fn]; rfl
  rcases hk with hk | hk
  · refine wpAny_storeName_local hk hm (fun h' hn hs => ?_) hp
    have hats : ∀ y u, y ≠ x → At env s.heap y u → At env h' y u := by
      rintro y u hy (⟨hky, m', hm', e⟩ | ⟨hky, a, ha, hi⟩)
      · refine .inl ⟨hky, _, hn, ?_⟩
        have : m y = some u := by
          obtain ⟨o, es, ep, ho, hd, _, r1⟩ := hm
          obtain ⟨o', es', ep', ho', hd', _, r2⟩ := hm'
          rw [ho] at ho'; cases ho'
          rw [hd] at hd'; cases hd'
          rw [← r1, r2, e]
        simpa [hy] using this
      · exact .inr ⟨hky, a, ha, hi.sameBut hs (fun q => ns_cell hm (q ▸ hi))⟩
    refine ⟨?_, ⟨h', _, rfl⟩, fun T vs n hl => (hs.2 T (fun q => ns_list hm (q ▸ hl))).trans hl, hats⟩
    exact F.bound hs dL pL (by obtain ⟨o, es, ep, ho, hd, _⟩ := hn; exact ⟨o, ho, fun fs e => by rw [hd] at e; cases e⟩) hx r hB (fun T vs n hl q => ns_list hm (q ▸ hl)) (.inl ⟨hk, _, hn, by simp⟩) hats ⟨_, hn⟩
      (fun y a h => let ⟨_, _, w, hw⟩ := F.cel y a h; ⟨w, hw.sameBut hs (fun q => ns_cell hm (q ▸ hw))⟩) _
  · obtain ⟨a, ha⟩ := F.rd.hasC x hk
    obtain ⟨da, pa, w, hw⟩ := F.cel x a ha
    refine wpAny_storeName_cell F.rd.fn hk ha hw fun h' hv hs => ?_
    have hats : ∀ y u, y ≠ x → At env s.heap y u → At env h' y u := by
      rintro y u hy (⟨hky, m', hm', e⟩ | ⟨hky, b, hb, hi⟩)
      · exact .inl ⟨hky, m', hm'.sameBut hs (fun q => ns_cell hm' (q ▸ hw)), e⟩
      · exact .inr ⟨hky, b, hb, hi.sameBut hs (fun q => hy (F.inj y x a (q ▸ hb) ha))⟩
    refine ⟨?_, ⟨h', s.toks, rfl⟩, fun T vs n hl => (hs.2 T (fun q => cell_list hw (q ▸ hl))).trans hl, hats⟩
    refine F.bound hs da pa (by obtain ⟨o, ho, hd⟩ := hv; exact ⟨o, ho, fun fs e => by rw [hd] at e; cases e⟩) hx r hB (fun T vs n hl q => cell_list hw (q ▸ hl)) (.inr ⟨hk, a, ha, hv⟩) hats
      ⟨m, hm.sameBut hs (fun q => ns_cell hm (q ▸ hw))⟩ (fun y b h => ?_) _
    by_cases hy : y = x
    · subst hy; rw [ha] at h; cases h; exact ⟨_, hv⟩
    · obtain ⟨_, _, w', hw'⟩ := F.cel y b h
      exact ⟨w', hw'.sameBut hs (fun q => hy (F.inj y x a (q ▸ h) ha))⟩

/-- an own list is written -/
theorem FW.writeOwn (F : FW c P env D σ s) {xs ys : List PyData} {T : Addr} {h' : Heap} {vs : Array Value} {n : Nat} (hx : σ.lookup x = some (.own xs)) (hat : At env s.heap x (.ref T)) (dT : D T)
    (hs : Heap.SameBut T s.heap h') (hl : ∃ vs n, IsL s.heap T vs n) (hl' : IsL h' T vs n) (hr : RepAll D s.heap vs.toList ys) (t : Nat) : FW c P env D ((x, .own ys) :: σ) { s with heap := h', toks := t } := by
  obtain ⟨pT, uT⟩ := F.own x xs T hx hat
  obtain ⟨g, kp, dt⟩ := F.write hs dT pT ⟨_, hl', nf_seq rfl⟩
  obtain ⟨vs0, n0, hl0⟩ := hl
  have hats : ∀ y u, At env s.heap y u → At env h' y u := by
    rintro y u (⟨hky, m', hm', e⟩ | ⟨hky, b, hb, hi⟩)
    · exact .inl ⟨hky, m', hm'.sameBut hs (fun q => ns_list hm' (q ▸ hl0)), e⟩
    · exact .inr ⟨hky, b, hb, hi.sameBut hs (fun q => cell_list hi (q ▸ hl0))⟩
  have keepD : KeepS D s.heap h' := fun a o na _ e => (hs.2 a (fun q => na (q ▸ dT))).trans e
  have lk : ∀ y q, List.lookup y ((x, .own ys) :: σ) = some q → (y = x ∧ q = .own ys) ∨ (y ≠ x ∧ σ.lookup y = some q) := fun y q e => by
    rw [List.lookup_cons] at e
    cases hb : y == x with
    | true => rw [hb] at e; cases e; exact .inl ⟨eq_of_beq hb, rfl⟩
    | false => rw [hb] at e; exact .inr ⟨by simpa using hb, e⟩
  have old : ∀ y q, y ≠ x → σ.lookup y = some q → ∃ u, At env s.heap y u ∧ At env h' y u ∧ Rep D h' u q := fun y q hy h => by
    obtain ⟨_, u, a, r⟩ := F.rd.names y q h
    refine ⟨u, a, hats y u a, r.write hs dT fun zs e q' => ?_⟩
    subst e; subst q'
    exact hy (uT y zs h a)
  have backA : ∀ z q u, z ≠ x → σ.lookup z = some q → At env h' z u → At env s.heap z u := fun z q u hz hq au => by
    obtain ⟨u', a1, a2, _⟩ := old z q hz hq
    exact (a2.fn au) ▸ a1
  obtain ⟨dL, pL, m, hm⟩ := F.loc
  refine ⟨⟨g, dt, fun y q e => ?_, F.rd.hasC, F.rd.fn, F.rd.gl, F.rd.bl⟩, F.gp, kp, ⟨dL, pL, m, hm.sameBut hs (fun q => ns_list hm (q ▸ hl0))⟩,
    fun y a h => ⟨(F.cel y a h).1, (F.cel y a h).2.1, let ⟨w, hw⟩ := (F.cel y a h).2.2; ⟨w, hw.sameBut hs (fun q => cell_list hw (q ▸ hl0))⟩⟩, F.inj, fun y zs T' e a => ?_⟩
  · rcases lk y q e with ⟨rfl, rfl⟩ | ⟨hy, e'⟩
    · exact ⟨(F.rd.names _ _ hx).1, _, hats _ _ hat, T, vs, n, rfl, dT, hl', hr.moveS keepD fun _ _ n _ => n⟩
    · obtain ⟨u, _, a', r'⟩ := old y q hy e'
      exact ⟨(F.rd.names y q e').1, u, a', r'⟩
  · rcases lk y _ e with ⟨rfl, _⟩ | ⟨hy, e'⟩
    · have hv : Value.ref T = .ref T' := (hats _ _ hat).fn a
      cases hv
      refine ⟨pT, fun z ws h1 h2 => ?_⟩
      rcases lk z _ h1 with ⟨rfl, _⟩ | ⟨hz, h1'⟩
      · rfl
      · exact uT z ws h1' (backA z _ _ hz h1' h2)
    · have a0 := backA y _ _ hy e' a
      obtain ⟨p, q⟩ := F.own y zs T' e' a0
      refine ⟨p, fun z ws h1 h2 => ?_⟩
      rcases lk z _ h1 with ⟨rfl, e2⟩ | ⟨hz, h1'⟩
      · have hv : Value.ref T = .ref T' := (hats _ _ hat).fn h2
        cases hv
        exact q _ xs hx hat
      · exact q z ws h1' (backA z _ _ hz h1' h2)

/-- an own list becomes data -/
theorem FW.freeze (F : FW c P env D σ s) {xs : List PyData} (hx : σ.lookup x = some (.own xs)) :
    ∃ T, (∀ o, ¬ P T o) ∧ FW c P env (fun a => D a ∧ a ≠ T) ((x, .dat (.list xs)) :: σ) s := by
  obtain ⟨hd, v, hat, T, vs, n, rfl, dT, hl, hr⟩ := F.rd.names x _ hx
  obtain ⟨pT, uT⟩ := F.own x xs T hx hat
  have lk : ∀ y q, List.lookup y ((x, .dat (.list xs)) :: σ) = some q → (y = x ∧ q = .dat (.list xs)) ∨ (y ≠ x ∧ σ.lookup y = some q) := fun y q e => by
    rw [List.lookup_cons] at e
    cases hb : y == x with
    | true => rw [hb] at e; cases e; exact .inl ⟨eq_of_beq hb, rfl⟩
    | false => rw [hb] at e; exact .inr ⟨by simpa using hb, e⟩
  have mvs : ∀ {v : List Value} {d : List PyData}, RepAll D s.heap v d → RepAll (fun a => D a ∧ a ≠ T) s.heap v d := fun r => r.moveS (fun a o _ _ e => e) fun a o nd _ h => nd h.1
  obtain ⟨dL, pL, m, hm⟩ := F.loc
  refine ⟨T, pT, ⟨F.rd.gnd, fun a h => F.rd.dirt a h.1, fun y q e => ?_, F.rd.hasC, F.rd.fn, F.rd.gl, F.rd.bl⟩, F.gp, F.keep, ⟨⟨dL, fun q => ns_list hm (q ▸ hl)⟩, pL, m, hm⟩,
    fun y a h => ⟨⟨(F.cel y a h).1, fun q => ?_⟩, (F.cel y a h).2⟩, F.inj, fun y zs T' e a => ?_⟩
  · rcases lk y q e with ⟨rfl, rfl⟩ | ⟨hy, e'⟩
    · exact ⟨hd, _, hat, .list (fun h => h.2 rfl) hl (mvs hr)⟩
    · obtain ⟨hd', u, hu, ru⟩ := F.rd.names y q e'
      refine ⟨hd', u, hu, ?_⟩
      cases q with
      | dat d => exact RepD.moveS (fun a o _ _ e => e) (fun a o nd _ h => nd h.1) ru
      | own zs =>
        obtain ⟨T', vs', n', rfl, dT', hl', hr'⟩ := ru
        refine ⟨T', vs', n', rfl, ⟨dT', fun q => hy (uT y zs e' (q ▸ hu))⟩, hl', mvs hr'⟩
      | inst ks =>
        obtain ⟨z, kv, e, hi, r⟩ := ru
        exact ⟨z, kv, e, hi.moveS (fun a o _ _ e => e) (fun a o nd _ h => nd h.1), RepD.moveS (fun a o _ _ e => e) (fun a o nd _ h => nd h.1) r⟩
  · obtain ⟨w, hw⟩ := (F.cel y a h).2.2
    exact cell_list hw (q ▸ hl)
  · rcases lk y _ e with ⟨rfl, e'⟩ | ⟨hy, e'⟩
    · cases e'
    · obtain ⟨p, q⟩ := F.own y zs T' e' a
      refine ⟨p, fun z ws h1 h2 => ?_⟩
      rcases lk z _ h1 with ⟨rfl, e2⟩ | ⟨hz, h1'⟩
      · cases e2
      · exact q z ws h1' h2
end
end Mine

namespace Mine

inductive Fl where
  | nxt
  | brk
  | ret (pv : PV)

def FlRep (P : Prot) (D : Dirt) (h : Heap) : Flow → Fl → Prop
  | .next, .nxt => True
  | .brk, .brk => True
  | .ret v, .ret pv => Rep D h v pv ∧ ∀ xs T, pv = .own xs → v = .ref T → ∀ o, ¬ P T o
  | _, _ => False

def PostS (c : Cx) (P : Prot) (env : Env) (D : Dirt) (s : Shared) (Q : Fl → Sg → Prop) (f : Flow) (s' : Shared) : Prop :=
  ∃ D' σ' fl, FW c P env D' σ' s' ∧ (∀ a o, P a o → (D' a ↔ D a)) ∧ (∃ h tk, s' = { s with heap := h, toks := tk }) ∧ FlRep P D' s'.heap f fl ∧ Q fl σ'

def Wp (c : Cx) (k : Nat) (sc : Scope) (ss : List Stmt) (σ : Sg) (Q : Fl → Sg → Prop) : Prop :=
  ∀ (env : Env) (A : Around) (P : Prot) (D : Dirt) (s : Shared), env.scope = sc → AOk k A → FW c P env D σ s → wpAny c.M A (execs ss env) (PostS c P env D s Q) nE s
def Wp1 (c : Cx) (k : Nat) (sc : Scope) (st : Stmt) (σ : Sg) (Q : Fl → Sg → Prop) : Prop :=
  ∀ (env : Env) (A : Around) (P : Prot) (D : Dirt) (s : Shared), env.scope = sc → AOk k A → FW c P env D σ s → wpAny c.M A (exec st env) (PostS c P env D s Q) nE s

theorem same_trans {s s₁ s₂ : Shared} (h1 : ∃ h tk, s₁ = { s with heap := h, toks := tk }) (h2 : ∃ h tk, s₂ = { s₁ with heap := h, toks := tk }) : ∃ h tk, s₂ = { s with heap := h, toks := tk } := by
  obtain ⟨h, tk, rfl⟩ := h1
  obtain ⟨h', tk', rfl⟩ := h2
  exact ⟨h', tk', rfl⟩

section
variable {c : Cx} {P : Prot} {k : Nat} {sc : Scope} {σ σ' : Sg} {env : Env} {D D₁ : Dirt} {s s₁ s' : Shared} {x : Str} {v : Value} {pv : PV} {Q Q' : Fl → Sg → Prop} {f : Flow} {st : Stmt} {rest body orelse : List Stmt} {e t : Expr} {pos p1 : Pos}

theorem PostS.after (h : PostS c P env D₁ s₁ Q f s') (hD : ∀ a o, P a o → (D₁ a ↔ D a)) (hs : ∃ h tk, s₁ = { s with heap := h, toks := tk }) : PostS c P env D s Q f s' := by
  obtain ⟨D', σ', fl, F, b, sm, r, q⟩ := h
  exact ⟨D', σ', fl, F, fun a o p => (b a o p).trans (hD a o p), same_trans hs sm, r, q⟩
theorem PostS.mono (h : PostS c P env D s Q f s') (hQ : ∀ fl σ, Q fl σ → Q' fl σ) : PostS c P env D s Q' f s' := by
  obtain ⟨D', σ', fl, F, b, sm, r, q⟩ := h
  exact ⟨D', σ', fl, F, b, sm, r, hQ _ _ q⟩
theorem PostS.next (F : FW c P env D σ s) (q : Q .nxt σ) : PostS c P env D s Q .next s := ⟨D, σ, .nxt, F, fun _ _ _ => .rfl, ⟨s.heap, s.toks, rfl⟩, trivial, q⟩

theorem Wp.mono (h : Wp c k sc rest σ Q) (hQ : ∀ fl σ, Q fl σ → Q' fl σ) : Wp c k sc rest σ Q' := fun env A P D s h0 hA F => wpAny_mono (h env A P D s h0 hA F) (fun _ _ p => p.mono hQ) fun _ _ x => x
theorem Wp1.mono (h : Wp1 c k sc st σ Q) (hQ : ∀ fl σ, Q fl σ → Q' fl σ) : Wp1 c k sc st σ Q' := fun env A P D s h0 hA F => wpAny_mono (h env A P D s h0 hA F) (fun _ _ p => p.mono hQ) fun _ _ x => x
theorem Wp.weaken (σ' : Sg) (h : Wp c k sc rest σ' Q) (hl : Le σ' σ) : Wp c k sc rest σ Q := fun env A P D s h0 hA F => h env A P D s h0 hA (F.weaken hl)
theorem Wp1.weaken (σ' : Sg) (h : Wp1 c k sc st σ' Q) (hl : Le σ' σ) : Wp1 c k sc st σ Q := fun env A P D s h0 hA F => h env A P D s h0 hA (F.weaken hl)
theorem Wp.nil (h : Q .nxt σ) : Wp c k sc [] σ Q := fun env A P D s h0 hA F => wpAny_execs_nil (PostS.next F h)

/-- the rest, where the statement goes on -/
def seqQ (c : Cx) (k : Nat) (sc : Scope) (rest : List Stmt) (Q : Fl → Sg → Prop) : Fl → Sg → Prop
  | .nxt, σ => Wp c k sc rest σ Q
  | fl, σ => Q fl σ
theorem Wp.cons (h : Wp1 c k sc st σ (seqQ c k sc rest Q)) : Wp c k sc (st :: rest) σ Q := fun env A P D s h0 hA F => by
  refine wpAny_execs_cons (wpAny_mono (h env A P D s h0 hA F) (fun f s' p => ?_) fun _ _ x => x)
  obtain ⟨D', σ', fl, F', b, sm, r, q⟩ := p
  match f, fl, r, q with
  | .next, .nxt, _, q => exact wpAny_mono (q env A P D' s' h0 hA F') (fun _ _ p => p.after b sm) fun _ _ x => x
  | .brk, .brk, _, q => exact ⟨D', σ', .brk, F', b, sm, trivial, q⟩
  | .ret v, .ret pv, r, q => exact ⟨D', σ', .ret pv, F', b, sm, r, q⟩

theorem notOwn_dat {h : Heap} {d : PyData} : Bindable P env σ h x v (.dat d) := fun xs e => by cases e
theorem notOwn_inst {h : Heap} {d : PyData} : Bindable P env σ h x v (.inst d) := fun xs e => by cases e

def isVar (sc : Scope) (x : Str) : Prop := (sc.names.lookup x = some .local ∨ sc.names.lookup x = some .cell) ∧ (x == ("__debug__" : Str)) = false

/-- store, and on -/
theorem FW.storeP (F : FW c P env D σ s) {A : Around} (h0 : env.scope = sc) (hx : isVar sc x) (r : Rep D s.heap v pv) (hB : Bindable P env σ s.heap x v pv) {Q' : Unit → Shared → Prop}
    (h : ∀ s', FW c P env D ((x, pv) :: σ) s' → (∃ h tk, s' = { s with heap := h, toks := tk }) → Q' () s') : wpAny c.M A (storeName env x v) Q' nE s :=
  wpAny_mono (F.store (by rw [Env.kindOf, h0]; exact hx.1) hx.2 r hB) (fun _ s' h' => h s' h'.1 h'.2.same) fun _ _ x => x

/-- x = e -/
theorem Wp1.assign {d : PyData} (he : Ev c k sc σ e (.dat d)) (hx : isVar sc x) (q : Q .nxt ((x, .dat d) :: σ)) (hsw : ∀ env : Env, env.scope = sc → swapsWith e (some (.Name x p1)) pos.line env = pure false := by intro env h; first | rfl | (cases env; dsimp only at h; subst h; rfl)) :
    Wp1 c k sc (.Assign [.Name x p1] e pos) σ Q := fun env A P D s h0 hA F => by
  refine wpAny_Assign_Name (wpAny_mono (he env A D s h0 hA F.rd) (fun v s₁ h₁ => ?_) fun _ _ x => x) (hsw env h0)
  obtain ⟨k1, r1⟩ := h₁
  exact (F.keeps k1).storeP h0 hx r1 notOwn_dat fun s' F' sm => (PostS.next F' q).after (fun _ _ _ => .rfl) (same_trans k1.same sm)
theorem Wp1.assignI {ks : PyData} (he : Ev c k sc σ e (.inst ks)) (hx : isVar sc x) (q : Q .nxt ((x, .inst ks) :: σ)) (hsw : ∀ env : Env, env.scope = sc → swapsWith e (some (.Name x p1)) pos.line env = pure false := by intro env h; first | rfl | (cases env; dsimp only at h; subst h; rfl)) :
    Wp1 c k sc (.Assign [.Name x p1] e pos) σ Q := fun env A P D s h0 hA F => by
  refine wpAny_Assign_Name (wpAny_mono (he env A D s h0 hA F.rd) (fun v s₁ h₁ => ?_) fun _ _ x => x) (hsw env h0)
  obtain ⟨k1, r1⟩ := h₁
  exact (F.keeps k1).storeP h0 hx r1 notOwn_inst fun s' F' sm => (PostS.next F' q).after (fun _ _ _ => .rfl) (same_trans k1.same sm)

theorem own_fresh (F : FW c P env D σ s) (k1 : Kp s s₁) {T : Addr} {vs : Array Value} {n : Nat} {is : List Int} (fT : s.heap.get? T = none) (hl : IsL s₁.heap T vs n) (hi : IntsAre vs.toList is) :
    FW c P env (fun a => D a ∨ a = T) σ s₁ ∧ Rep (fun a => D a ∨ a = T) s₁.heap (.ref T) (.own (is.map .int)) ∧ Bindable P env σ s₁.heap x (.ref T) (.own (is.map .int)) ∧ (∀ a o, P a o → ((D a ∨ a = T) ↔ D a)) := by
  have pT : ∀ o, ¬ P T o := fun o p => by have := F.keep T o p; rw [fT] at this; cases this
  refine ⟨F.grow k1 fT ⟨_, hl, nf_seq rfl⟩, ⟨T, vs, n, rfl, .inr rfl, hl, RepAll.ofInts hi⟩, fun xs _ => ⟨fun T' e o p => ?_, fun y ys hy h a => ?_⟩, fun a o p => ⟨fun h => h.elim id fun q => absurd (q ▸ p) (pT o), .inl⟩⟩
  · cases e; exact pT o p
  · have a0 := F.rd.atBack k1.keepN h a
    obtain ⟨_, u, a1, T', vs', n', e, dT, hl', _⟩ := F.rd.names y _ h
    have := a0.fn a1
    rw [e] at this; cases this
    have h3 := hl'.symm.trans fT
    cases h3

/-- x = a new list -/
theorem Wp1.assignF {is : List Int} (he : EvF c k sc σ e is) (hx : isVar sc x) (q : Q .nxt ((x, .own (is.map .int)) :: σ)) (hsw : ∀ env : Env, env.scope = sc → swapsWith e (some (.Name x p1)) pos.line env = pure false := by intro env h; first | rfl | (cases env; dsimp only at h; subst h; rfl)) :
    Wp1 c k sc (.Assign [.Name x p1] e pos) σ Q := fun env A P D s h0 hA F => by
  refine wpAny_Assign_Name (wpAny_mono (he env A D s h0 hA F.rd) (fun v s₁ h₁ => ?_) fun _ _ x => x) (hsw env h0)
  obtain ⟨k1, T, vs, n, rfl, fT, hl, hi⟩ := h₁
  obtain ⟨F1, r1, hB, b⟩ := own_fresh (x := x) F k1 fT hl hi
  exact F1.storeP h0 hx r1 hB fun s' F' sm => (PostS.next F' q).after b (same_trans k1.same sm)

theorem Wp1.ret {d : PyData} (he : Ev c k sc σ e (.dat d)) (q : Q (.ret (.dat d)) σ) : Wp1 c k sc (.Return (some e) pos) σ Q := fun env A P D s h0 hA F => by
  refine wpAny_Return_some (wpAny_mono (he env A D s h0 hA F.rd) (fun v s₁ h₁ => ?_) fun _ _ x => x)
  exact ⟨D, σ, .ret (.dat d), F.keeps h₁.1, fun _ _ _ => .rfl, h₁.1.same, ⟨h₁.2, fun xs T e => by cases e⟩, q⟩
theorem Wp1.retOwn {xs : List PyData} (hx : σ.lookup x = some (.own xs)) (q : Q (.ret (.own xs)) σ) : Wp1 c k sc (.Return (some (.Name x p1)) pos) σ Q := fun env A P D s h0 hA F => by
  obtain ⟨hd, v, hat, r⟩ := F.rd.names x _ hx
  have key : ∀ T, v = .ref T → ∀ o, ¬ P T o := fun T e => (F.own x xs T hx (e ▸ hat)).1
  refine wpAny_Return_some (wpAny_Name ?_ hd)
  have fin : PostS c P env D s Q (.ret v) s := ⟨D, σ, .ret (.own xs), F, fun _ _ _ => .rfl, ⟨s.heap, s.toks, rfl⟩, ⟨r, fun _ T _ e => key T e⟩, q⟩
  rcases hat with ⟨hk, m, hn, hm⟩ | ⟨hk, cc, hc, hi⟩
  · exact wpAny_loadName_local F.rd.fn hk hn hm fin
  · exact wpAny_loadName_cell F.rd.fn hk hc hi fin
theorem Wp1.brk (q : Q .brk σ) : Wp1 c k sc (.Break pos) σ Q := fun env A P D s h0 hA F =>
  wpAny_Break ⟨D, σ, .brk, F, fun _ _ _ => .rfl, ⟨s.heap, s.toks, rfl⟩, trivial, q⟩

theorem Wp1.ite {b : Bool} (ht : EvB c k sc σ t b) (h1 : b = true → Wp c k sc body σ Q) (h2 : b = false → Wp c k sc orelse σ Q) : Wp1 c k sc (.If t body orelse pos) σ Q := fun env A P D s h0 hA F => by
  refine wpAny_If (wpAny_mono (ht env A D s h0 hA F.rd) (fun b' s₁ h₁ => ?_) fun _ _ x => x)
  obtain ⟨k1, rfl⟩ := h₁
  cases b' with
  | true => exact wpAny_mono (h1 rfl env A P D s₁ h0 hA (F.keeps k1)) (fun _ _ p => p.after (fun _ _ _ => .rfl) k1.same) fun _ _ x => x
  | false => exact wpAny_mono (h2 rfl env A P D s₁ h0 hA (F.keeps k1)) (fun _ _ p => p.after (fun _ _ _ => .rfl) k1.same) fun _ _ x => x

/-- x += e -/
theorem Wp1.aug {a b : Int} (hx : σ.lookup x = some (PI a)) (he : Ev c k sc σ e (PI b)) (hv : isVar sc x) (q : Q .nxt ((x, PI (a + b)) :: σ)) : Wp1 c k sc (.AugAssign (.Name x p1) .Add e pos) σ Q := fun env A P D s h0 hA F => by
  obtain ⟨hd, v, hat, r⟩ := F.rd.names x _ hx
  cases r with | int _ t =>
  have fin : wpAny c.M A (eval e env) (fun v s₂ => wpAny c.M A (inplaceOp .Add (.int a t) v) (fun r s₃ => wpAny c.M A (storeName env x r) (fun _ => PostS c P env D s Q .next) nE s₃) nE s₂) nE s := by
    refine wpAny_mono (he env A D s h0 hA F.rd) (fun v s₁ h₁ => ?_) fun _ _ x => x
    obtain ⟨k1, r1⟩ := h₁
    cases r1 with | int _ u =>
    refine wpAny_iadd_int ?_
    have k2 := k1.trans (.toks s₁ (s₁.toks + 1))
    exact (F.keeps k2).storeP h0 hv (pv := PI (a + b)) (RepD.int _ _) notOwn_dat fun s' F' sm => (PostS.next F' q).after (fun _ _ _ => .rfl) (same_trans k2.same sm)
  refine wpAny_AugAssign_Name ?_
  rcases hat with ⟨hk, m, hn, hm⟩ | ⟨hk, cc, hc, hi⟩
  · exact wpAny_loadName_local F.rd.fn hk hn hm fin
  · exact wpAny_loadName_cell F.rd.fn hk hc hi fin

/-- the own list's place -/
theorem FW.ownAt (F : FW c P env D σ s) {xs : List PyData} (hx : σ.lookup x = some (.own xs)) {A : Around} {Q' : Value → Shared → Prop}
    (h : ∀ T vs n, At env s.heap x (.ref T) → D T → IsL s.heap T vs n → RepAll D s.heap vs.toList xs → Q' (.ref T) s) : wpAny c.M A (eval (.Name x p1) env) Q' nE s := by
  obtain ⟨hd, v, hat, T, vs, n, rfl, dT, hl, hr⟩ := F.rd.names x _ hx
  refine wpAny_Name ?_ hd
  have fin := h T vs n hat dT hl hr
  rcases hat with ⟨hk, m, hn, hm⟩ | ⟨hk, cc, hc, hi⟩
  · exact wpAny_loadName_local F.rd.fn hk hn hm fin
  · exact wpAny_loadName_cell F.rd.fn hk hc hi fin

theorem IsL.upd {h : Heap} {l : Addr} {vs : Array Value} {n : Nat} (hl : IsL h l vs n) (g : Array Value → Array Value) : ∃ m, IsL (h.update l (Obj.mapSeq g)) l (g vs) m := ⟨_, hl.update g⟩

/-- x.append(e) -/
theorem Wp1.append {xs : List PyData} {d : PyData} {apos : Pos} {cpos : Pos} (hx : σ.lookup x = some (.own xs)) (he : Ev c k sc σ e (.dat d)) (hn : xs.length ≤ 1000) (q : Q .nxt ((x, .own (xs ++ [d])) :: σ))
    (hl : (apos.endLine == cpos.line) = true := by rfl)
    (hs : ∀ env : Env, starEach [e] env = [(false, eval e env)] := by intro _; rfl) :
    Wp1 c k sc (.Expr (.Call (.Attribute (.Name x p1) "append" apos) [e] [] cpos) pos) σ Q := fun env A P D s h0 hA F => by
  refine wpAny_Expr_any (wpAny_Call_method (T := "list") (id := "list.append") rfl (by rw [hs]; rfl) hl PySem.F.plainAttrs_list slot_list_append (by show builtinType _ = _; rw [builtinType_eq_fast]; kernel_rfl) ?_) (by simp [interactive, F.rd.fn]) rfl
  refine F.ownAt hx fun T vs n hat dT hL hr => ?_
  refine ⟨⟨_, hL, rfl⟩, fun a e => ⟨_, by cases e; exact hL, rfl⟩, ?_⟩
  rw [hs]
  refine PySem.P.append_list (wpAny_mono (he env A D s h0 hA F.rd) (fun v s₁ h₁ => ?_) fun _ _ x => x)
  obtain ⟨k1, r1⟩ := h₁
  have hL1 : IsL s₁.heap T vs n := k1.heap _ _ hL
  have F1 := F.keeps k1
  have hsz : vs.size = xs.length := by simpa using hr.length
  refine ⟨vs, n, szL (by omega), hL1, ?_⟩
  obtain ⟨m, hL2⟩ := IsL.upd hL1 (fun ys => ys.push v)
  have F2 := F1.writeOwn (ys := xs ++ [d]) hx (hat.moveN k1.keepN) dT (Heap.SameBut.update ..) ⟨_, _, hL1⟩ hL2 (by
    rw [Array.toList_push]; exact (RepAll.keeps hr k1).append (.cons r1 .nil)) s₁.toks
  exact (PostS.next F2 q).after (fun _ _ _ => .rfl) (same_trans k1.same ⟨_, _, rfl⟩)
/-- x.extend(e) -/
theorem Wp1.extend {xs ys : List PyData} {apos : Pos} {cpos : Pos} (hx : σ.lookup x = some (.own xs)) (he : Ev c k sc σ e (.dat (.list ys))) (hn : xs.length + ys.length ≤ 1000) (q : Q .nxt ((x, .own (xs ++ ys)) :: σ))
    (hl : (apos.endLine == cpos.line) = true := by rfl)
    (hs : ∀ env : Env, starEach [e] env = [(false, eval e env)] := by intro _; rfl) :
    Wp1 c k sc (.Expr (.Call (.Attribute (.Name x p1) "extend" apos) [e] [] cpos) pos) σ Q := fun env A P D s h0 hA F => by
  refine wpAny_Expr_any (wpAny_Call_method (T := "list") (id := "list.extend") rfl (by rw [hs]; rfl) hl PySem.F.plainAttrs_list PySem.F.slot_list_extend (by show builtinType _ = _; rw [builtinType_eq_fast]; kernel_rfl) ?_) (by simp [interactive, F.rd.fn]) rfl
  refine F.ownAt hx fun T vs n hat dT hL hr => ?_
  refine ⟨⟨_, hL, rfl⟩, fun a e => ⟨_, by cases e; exact hL, rfl⟩, ?_⟩
  rw [hs]
  refine PySem.P.extend_list (wpAny_mono (he env A D s h0 hA F.rd) (fun v s₁ h₁ => ?_) fun _ _ x => x)
  obtain ⟨k1, r1⟩ := h₁
  cases r1 with | @list b ws m _ nb hb rb =>
  have hL1 : IsL s₁.heap T vs n := k1.heap _ _ hL
  have F1 := F.keeps k1
  have hsz : vs.size = xs.length := by simpa using hr.length
  have hsw : ws.size = ys.length := by simpa using rb.length
  refine ⟨b, vs, ws, n, m, szL (by omega), by have := szL (n := vs.size + ws.size) (by omega); omega, ?_, rfl, hL1, hb, ?_⟩
  · have := szL (n := vs.size + ws.size) (by omega)
    simp only [Builtin.List.listTooLong, Bool.and_eq_true, Bool.not_eq_true', decide_eq_true_eq, not_and, Nat.not_lt]
    intro _; exact this
  obtain ⟨m2, hL2⟩ := IsL.upd hL1 (fun zs => zs ++ ws)
  have F2 := F1.writeOwn (ys := xs ++ ys) hx (hat.moveN k1.keepN) dT (Heap.SameBut.update ..) ⟨_, _, hL1⟩ hL2 (by
    rw [Array.toList_append]; exact (RepAll.keeps hr k1).append rb) s₁.toks
  exact (PostS.next F2 q).after (fun _ _ _ => .rfl) (same_trans k1.same ⟨_, _, rfl⟩)
end
end Mine

namespace Mine

section
variable {c : Cx} {P : Prot} {k : Nat} {sc scope : Scope} {σ σ' σc : Sg} {env : Env} {D D₁ : Dirt} {s s₁ s' : Shared} {x y : Str} {v : Value} {pv : PV} {Q Q' : Fl → Sg → Prop} {f : Flow} {st : Stmt} {rest body orelse : List Stmt} {e e' t elt iter : Expr} {ifs : List Expr} {pos p1 p2 p3 px : Pos}
  {ds zs : List PyData}

/-- x[i] = e -/
theorem Wp1.setitem {xs : List PyData} {d : PyData} {i : Int} (j : Nat) (hx : σ.lookup x = some (.own xs)) (he : Ev c k sc σ e (.dat d)) (hi : Ev c k sc σ e' (PI i)) (hj : i = (j : Int)) (hn : j < xs.length) (hn' : xs.length ≤ 1000) (q : Q .nxt ((x, .own (xs.set j d)) :: σ))
    (hsw : ∀ env : Env, swapsWith e (some (.Subscript (.Name x p1) e' p2)) pos.line env = pure false := by intro _; rfl) :
    Wp1 c k sc (.Assign [.Subscript (.Name x p1) e' p2] e pos) σ Q := fun env A P D s h0 hA F => by
  refine wpAny_Assign_Subscript (wpAny_mono (he env A D s h0 hA F.rd) (fun v s₁ h₁ => ?_) fun _ _ x => x) (hsw env)
  obtain ⟨k1, r1⟩ := h₁
  have F1 := F.keeps k1
  refine F1.ownAt hx fun T vs n hat dT hL hr => ?_
  refine wpAny_mono (hi env A D s₁ h0 hA F1.rd) (fun iv s₂ h₂ => ?_) fun _ _ x => x
  obtain ⟨k2, r2⟩ := h₂
  cases r2 with | int _ u =>
  have hL2 : IsL s₂.heap T vs n := k2.heap _ _ hL
  have hsz : vs.size = xs.length := by simpa using hr.length
  refine ki_setAt hL2 (by omega) (by omega) (by omega) ?_
  obtain ⟨m, hL3⟩ := IsL.upd hL2 (fun ys => ys.setIfInBounds i.toNat v)
  have F2 := F1.keeps k2
  have F3 := F2.writeOwn (ys := xs.set j d) hx (hat.moveN k2.keepN) dT (Heap.SameBut.update ..) ⟨_, _, hL2⟩ hL3 (by
    rw [hj, Int.toNat_natCast, Array.toList_setIfInBounds]; exact (RepAll.keeps hr k2).set j (RepD.keeps r1 k2)) s₂.toks
  exact (PostS.next F3 q).after (fun _ _ _ => .rfl) (same_trans (k1.trans k2).same ⟨_, _, rfl⟩)

/-- the comprehension's own names go: C is no longer spoken of -/
theorem FW.drop {C : Addr} {h' : Heap} {m : Str → Option Value} (F : FW c P env (fun a => D a ∨ a = C) σ s) (hC : s.heap.Ns C m) (dC : ¬ D C) (pC : ∀ o, ¬ P C o) (hs : Heap.SameBut C s.heap h') (dL : D env.locals) (dK : ∀ x a, env.cells.lookup x = some a → D a) (t : Nat) :
    FW c P env D σ { s with heap := h', toks := t } := by
  have kp : ∀ a o, P a o → h'.get? a = some o := fun a o p => (hs.2 a (fun q => pC o (q ▸ p))).trans (F.keep a o p)
  have kS : KeepS (fun a => D a ∨ a = C) s.heap h' := fun a o na _ e => (hs.2 a (fun q => na (.inr q))).trans e
  have nn : ∀ a (o : Obj), ¬ (D a ∨ a = C) → s.heap.get? a = some o → ¬ D a := fun a o na _ d => na (.inl d)
  have neL : env.locals ≠ C := fun q => dC (q ▸ dL)
  have neC : ∀ x a, env.cells.lookup x = some a → a ≠ C := fun x a h q => dC (q ▸ dK x a h)
  have atF : ∀ x u, At env s.heap x u → At env h' x u := by
    rintro x u (⟨hk, m, hm, e⟩ | ⟨hk, a, ha, hi⟩)
    · exact .inl ⟨hk, m, hm.sameBut hs neL, e⟩
    · exact .inr ⟨hk, a, ha, hi.sameBut hs (neC x a ha)⟩
  have atB : ∀ x u, At env h' x u → At env s.heap x u := by
    rintro x u (⟨hk, m, ⟨o, es, ep, ho, r⟩, e⟩ | ⟨hk, a, ha, o, ho, hd⟩)
    · exact .inl ⟨hk, m, ⟨o, es, ep, (hs.2 _ neL).symm.trans ho, r⟩, e⟩
    · exact .inr ⟨hk, a, ha, o, (hs.2 _ (neC x a ha)).symm.trans ho, hd⟩
  obtain ⟨_, pL, mL, hL⟩ := F.loc
  refine ⟨⟨F.gp h' kp, fun a d => ?_, fun x pv h => ?_, F.rd.hasC, F.rd.fn, F.rd.gl, F.rd.bl⟩, F.gp, kp, ⟨dL, pL, mL, hL.sameBut hs neL⟩, fun x a h => ⟨dK x a h, (F.cel x a h).2.1, let ⟨w, hw⟩ := (F.cel x a h).2.2; ⟨w, hw.sameBut hs (neC x a h)⟩⟩, F.inj,
    fun x xs T e a => let ⟨p, q⟩ := F.own x xs T e (atB _ _ a); ⟨p, fun y ys e' a' => q y ys e' (atB _ _ a')⟩⟩
  · obtain ⟨o, ho, nf⟩ := F.rd.dirt a (.inl d)
    exact ⟨o, (hs.2 a (fun q => dC (q ▸ d))).trans ho, nf⟩
  · obtain ⟨n, u, a, r⟩ := F.rd.names x pv h
    refine ⟨n, u, atF _ _ a, ?_⟩
    cases pv with
    | dat d => exact RepD.moveS kS nn r
    | own xs =>
      obtain ⟨T, vs, n, rfl, dT, hl, hr⟩ := r
      have nT : T ≠ C := fun q => ns_list hC (q ▸ hl)
      exact ⟨T, vs, n, rfl, dT.resolve_right nT, (hs.2 T nT).trans hl, hr.moveS kS nn⟩
    | inst ks =>
      obtain ⟨z, kv, e, hi, r⟩ := r
      exact ⟨z, kv, e, hi.moveS kS nn, RepD.moveS kS nn r⟩

/-- y = [..]: a comprehension stored as it stands -/
theorem Wp1.assignComp (σc : Sg) (ds zs : List PyData) {el it : Expr} (hO : okScope scope sc x = true) (hsub : SubC scope x σ σc) (hi : EvI c k sc σ it ds) (hel : CompAll (ElOk c k (relabelS scope sc) σc x ifs el) ds zs) (hn : ds.length ≤ 1000)
    (hy : isVar sc y) (q : Q .nxt ((y, .dat (.list zs)) :: σ))
    (hsw : ∀ env : Env, env.scope = sc → swapsWith (.ListComp el [⟨.Name x px, it, ifs, 0⟩] scope p1) (some (.Name y p2)) pos.line env = pure true := by intro env h; first | rfl | (cases env; dsimp only at h; subst h; rfl))
    (hs : ∀ env v, foldedSetIterable it env v = pure v := by intro _ _; rfl) :
    Wp1 c k sc (.Assign [.Name y p2] (.ListComp el [⟨.Name x px, it, ifs, 0⟩] scope p1) pos) σ Q := fun env A P D s h0 hA F => by
  have O := OkScope.of hO
  obtain ⟨cl, h1, h2⟩ := F.rd.closes O h0
  rw [exec_Assign_Name_used _ _ _ _ (hsw env h0)]
  refine wpAny_bind (wpAny_standAt (wpAny_bind ?_))
  show wpAny _ A (do let _ ← comprehension (.ListComp el [⟨.Name x px, it, ifs, 0⟩] scope p1) scope env _ (newList []) false (eval it env) (some (PySem.assign (.Name y p2) env))) _ _ s
  refine wpAny_bind (wpAny_mono (wpAny_comprehension_free (use := some (PySem.assign (.Name y p2) env)) (Q := fun _ s' => PostS c P env D s Q .next s') rfl (hs env) h1 O.kind O.names (comp_core O hsub hel hn h0 hA F.rd h2 hi ?_)) (fun _ s' hq => wpAny_pure (wpAny_pure hq)) fun _ _ e => e)
  intro T C s' ys m' kp fT fC hTC hT hr hC
  show wpAny _ A (PySem.assign (.Name y p2) env (.ref T)) _ _ _
  obtain ⟨n, hT⟩ := hT
  have dC : ¬ D C := fun d => by obtain ⟨o, ho, _⟩ := F.rd.dirt C d; rw [fC] at ho; cases ho
  have dT : ¬ D T := fun d => by obtain ⟨o, ho, _⟩ := F.rd.dirt T d; rw [fT] at ho; cases ho
  have pC : ∀ o, ¬ P C o := fun o p => by have := F.keep C o p; rw [fC] at this; cases this
  have hCo : ∃ o, s'.heap.get? C = some o ∧ NotFields o := by obtain ⟨o, es, ep, ho, hd, _⟩ := hC; exact ⟨o, ho, fun fs e => by rw [hd] at e; cases e⟩
  have F1 := F.grow kp fC hCo
  have rT : RepD (fun a => D a ∨ a = C) s'.heap (.ref T) (.list zs) := .list (fun d => d.elim dT hTC) hT (hr.moveS (fun a o _ _ e => e) fun a o na _ d => na (d.elim .inl fun q => .inr (.inr q)))
  obtain ⟨oC, hoC, _⟩ := hCo
  -- the store keeps C too
  have F2 : FW c (fun a o => P a o ∨ (a = C ∧ o = oC)) env (fun a => D a ∨ a = C) σ s' := by
    have neL : env.locals ≠ C := fun q => dC (q ▸ F.loc.1)
    have neC : ∀ x a, env.cells.lookup x = some a → a ≠ C := fun x a h q => dC (q ▸ (F.cel x a h).1)
    refine ⟨F1.rd, fun h hh => F.gp h fun a o p => hh a o (.inl p), fun a o p => p.elim (F1.keep a o) (fun q => by rw [q.1, q.2]; exact hoC), ⟨F1.loc.1, fun o p => p.elim (F1.loc.2.1 o) fun q => neL q.1, F1.loc.2.2⟩,
      fun x a h => ⟨(F1.cel x a h).1, fun o p => p.elim ((F1.cel x a h).2.1 o) fun q => neC x a h q.1, (F1.cel x a h).2.2⟩, F1.inj, fun x xs T' e a => ?_⟩
    obtain ⟨p, q⟩ := F1.own x xs T' e a
    refine ⟨fun o pp => pp.elim (p o) fun qq => ?_, q⟩
    obtain ⟨_, u, a1, T2, vs2, n2, e2, _, hl2, _⟩ := F1.rd.names x _ e
    have := a1.fn a
    rw [e2] at this; cases this
    exact ns_list hC (qq.1 ▸ hl2)
  refine wpAny_assign_Name (F2.storeP (pv := .dat (.list zs)) h0 hy rT notOwn_dat fun s'' F3 sm => ?_)
  have hC3 : s''.heap.Ns C m' := hC.at' fun o e => by rw [hoC] at e; cases e; exact F3.keep C _ (.inr ⟨rfl, rfl⟩)
  refine ⟨m', hC3, fun h' hs' => ?_⟩
  have F4 : FW c P env (fun a => D a ∨ a = C) ((y, .dat (.list zs)) :: σ) s'' :=
    ⟨F3.rd, F.gp, fun a o p => F3.keep a o (.inl p), ⟨F3.loc.1, fun o p => F3.loc.2.1 o (.inl p), F3.loc.2.2⟩, fun x a h => ⟨(F3.cel x a h).1, fun o p => (F3.cel x a h).2.1 o (.inl p), (F3.cel x a h).2.2⟩, F3.inj,
      fun x xs T' e a => let ⟨p, q⟩ := F3.own x xs T' e a; ⟨fun o pp => p o (.inl pp), q⟩⟩
  have F5 := F4.drop (h' := h') hC3 dC pC hs' F.loc.1 (fun x a h => (F.cel x a h).1) s''.toks
  exact (PostS.next F5 q).after (fun _ _ _ => .rfl) (same_trans kp.same (same_trans sm ⟨_, _, rfl⟩))

/-- an own list is handed on as data from here -/
theorem Wp.freeze {xs : List PyData} (hx : σ.lookup x = some (.own xs)) (h : Wp c k sc rest ((x, .dat (.list xs)) :: σ) Q) : Wp c k sc rest σ Q := fun env A P D s h0 hA F => by
  obtain ⟨T, pT, F'⟩ := F.freeze hx
  exact wpAny_mono (h env A P _ s h0 hA F') (fun _ _ p => p.after (fun a o pa => ⟨fun h => h.1, fun h => ⟨h, fun q => pT o (q ▸ pa)⟩⟩) ⟨_, _, rfl⟩) fun _ _ x => x
end
end Mine

namespace Mine

section
variable {c : Cx} {P : Prot} {k : Nat} {sc scope : Scope} {σ σ' σc : Sg} {env : Env} {D D₁ : Dirt} {s s₁ s' : Shared} {x y : Str} {v : Value} {pv : PV} {Q Q' : Fl → Sg → Prop} {f : Flow} {st : Stmt} {rest body orelse : List Stmt} {e e' t iter test : Expr} {pos p1 p2 p3 px : Pos}
  {ds zs : List PyData}

/-- P and all that is not dirty -/
def ProtAll (P : Prot) (D : Dirt) (h : Heap) : Prot := fun a o => P a o ∨ (h.get? a = some o ∧ ¬ D a)

theorem FW.all (F : FW c P env D σ s) : FW c (ProtAll P D s.heap) env D σ s := by
  refine ⟨F.rd, fun h hh => F.gp h fun a o p => hh a o (.inl p), fun a o p => p.elim (F.keep a o) (·.1), ⟨F.loc.1, fun o p => p.elim (F.loc.2.1 o) fun q => q.2 F.loc.1, F.loc.2.2⟩,
    fun x a h => ⟨(F.cel x a h).1, fun o p => p.elim ((F.cel x a h).2.1 o) fun q => q.2 (F.cel x a h).1, (F.cel x a h).2.2⟩, F.inj, fun x xs T e a => ?_⟩
  obtain ⟨p, q⟩ := F.own x xs T e a
  refine ⟨fun o pp => pp.elim (p o) fun qq => ?_, q⟩
  obtain ⟨_, u, a1, T2, vs2, n2, e2, dT, hl2, _⟩ := F.rd.names x _ e
  have := a1.fn a
  rw [e2] at this; cases this
  exact qq.2 dT
theorem FW.less {P' : Prot} (F : FW c P' env D σ s) (h : ∀ a o, P a o → P' a o) (gp : ∀ h : Heap, (∀ a o, P a o → h.get? a = some o) → Gnd c h) : FW c P env D σ s :=
  ⟨F.rd, gp, fun a o p => F.keep a o (h a o p), ⟨F.loc.1, fun o p => F.loc.2.1 o (h _ _ p), F.loc.2.2⟩, fun x a e => ⟨(F.cel x a e).1, fun o p => (F.cel x a e).2.1 o (h _ _ p), (F.cel x a e).2.2⟩, F.inj,
    fun x xs T e a => let ⟨p, q⟩ := F.own x xs T e a; ⟨fun o pp => p o (h _ _ pp), q⟩⟩
/-- behind a body that kept all that was not dirty -/
theorem PostS.less (gp : ∀ h : Heap, (∀ a o, P a o → h.get? a = some o) → Gnd c h) {h : Heap} (p : PostS c (ProtAll P D h) env D s Q f s') : PostS c P env D s Q f s' := by
  obtain ⟨D', σ', fl, F, b, sm, r, q⟩ := p
  refine ⟨D', σ', fl, F.less (fun a o p => .inl p) gp, fun a o p => b a o (.inl p), sm, ?_, q⟩
  match f, fl, r with
  | .next, .nxt, _ => trivial
  | .brk, .brk, _ => trivial
  | .ret v, .ret pv, r => exact ⟨r.1, fun xs T e1 e2 o p => r.2 xs T e1 e2 o (.inl p)⟩

/-- a for's turns -/
def WpFor (c : Cx) (k : Nat) (sc : Scope) (body : List Stmt) (b : PyData → Sg → Sg) (Q : Fl → Sg → Prop) : List PyData → Sg → Prop
  | [], σ => Q .nxt σ
  | d :: r, σ => Wp c k sc body (b d σ) (fun fl σ' => match fl with | .nxt => WpFor c k sc body b Q r σ' | .brk => Q .nxt σ' | .ret v => Q (.ret v) σ')

theorem PostS.same (h : PostS c P env D s Q f s') : ∃ h tk, s' = { s with heap := h, toks := tk } := let ⟨_, _, _, _, _, sm, _⟩ := h; sm

theorem wp_for (b : PyData → Sg → Sg) {target : Expr} (ok : PyData → Prop)
    (hass : ∀ {env : Env} {A : Around} {P : Prot} {D : Dirt} {s : Shared} {σ : Sg} {v : Value} {d : PyData} {it : Addr} {r : List PyData} {Q' : Unit → Shared → Prop}, env.scope = sc → AOk k A → ok d → FW c P env D σ s → RepD D s.heap v d → ItAt D s.heap it r →
      (∀ s', FW c P env D (b d σ) s' → (∃ h tk, s' = { s with heap := h, toks := tk }) → Q' () s') →
      wpAny c.M A (letOwnedTupleGo target (.ref it) v) (fun _ s₁ => wpAny c.M A (PySem.assign target env v) Q' nE s₁) nE s)
    (hi : EvI c k sc σ iter ds) (hok : ∀ d ∈ ds, ok d) (hw : WpFor c k sc body b Q ds σ) (hs : ∀ env v, foldedSetIterable iter env v = pure v := by intro _ _; rfl) :
    Wp1 c k sc (.For target iter body [] pos) σ Q := fun env A P D s h0 hA F => by
  refine wpAny_For (wpAny_mono (hi env A D s h0 hA F.rd) (fun xv s₁ h₁ => wpAny_mono h₁ (fun iv s₂ h₂ => ?_) fun _ _ x => x) fun _ _ x => x) (hs env)
  obtain ⟨k1, it, rfl, fI, hit⟩ := h₂
  have F2 := F.keeps k1
  refine codeAny_forLoop_any (fun n s' => ∃ r σ' D', n = r.length ∧ (∀ d ∈ r, ok d) ∧ FW c P env D' σ' s' ∧ (∀ a o, P a o → (D' a ↔ D a)) ∧ (∃ h tk, s' = { s with heap := h, toks := tk }) ∧ (∀ o, ¬ P it o) ∧ ItAt D' s'.heap it r ∧ WpFor c k sc body b Q r σ') ?_ ds.length
    ⟨ds, σ, D, rfl, hok, F2, fun _ _ _ => .rfl, k1.same, (fun o p => by have := F.keep it o p; rw [fI] at this; cases this), hit, hw⟩
  rintro n s' ⟨r, σ', D', rfl, hok', F', bs, sm, pI, hit', hw'⟩
  have hfI := hit'.fields
  refine hit'.next hA.hd (fun hr h' he => ?_) (fun d r' hr v h' tk he hv hit'' => ?_)
  · subst hr
    have F3 : FW c P env D' σ' { s' with heap := h' } := F'.keepN (keepN_it hfI he) fun a o p => he a o (fun q => pI o (q ▸ p)) (F'.keep a o p)
    refine wpAny_execs_nil ?_
    exact (PostS.next F3 hw').after bs (same_trans sm ⟨_, _, rfl⟩)
  · subst hr
    have F3 : FW c P env D' σ' { s' with heap := h', toks := tk } := F'.keepN (keepN_it hfI he) fun a o p => he a o (fun q => pI o (q ▸ p)) (F'.keep a o p)
    have F4 := F3.all
    have hit3 := hit''
    refine wpAny_mono (hass h0 hA (hok' d (.head _)) F4 hv hit'' (Q' := fun _ s₃ => FW c (ProtAll P D' h') env D' (b d σ') s₃ ∧ ∃ h tk', s₃ = { s' with heap := h, toks := tk' }) fun s₃ F5 sm5 => ⟨F5, same_trans ⟨_, _, rfl⟩ sm5⟩) (fun _ s₁' h₁' => wpAny_mono h₁' (fun _ s₃ h₃ => ?_) fun _ _ x => x.elim) fun _ _ x => x.elim
    obtain ⟨F5, sm5⟩ := h₃
    refine wpAny_mono (hw' env A (ProtAll P D' h') D' s₃ h0 hA F5) (fun f s₄ p => ?_) fun _ _ x => x.elim
    have p' := PostS.less F.gp p
    obtain ⟨D4, σ4, fl, F6, b6, sm6, r6, q6⟩ := p
    have itKeep : ItAt D4 s₄.heap it r' := by
      have hin : ∀ a o, h'.get? a = some o → ¬ D' a → s₄.heap.get? a = some o ∧ ¬ D4 a := fun a o e nd => ⟨F6.keep a o (.inr ⟨e, nd⟩), fun d4 => nd ((b6 a o (.inr ⟨e, nd⟩)).mp d4)⟩
      have nI : ¬ D' it := fun d => by
        obtain ⟨o, ho, nf⟩ := F'.rd.dirt it d
        obtain ⟨o2, ho2, nn⟩ := hfI
        rw [ho] at ho2; cases ho2
        exact nn nf
      rcases hit3 with ⟨l, vs, m, i, all, ⟨o, ho, hc, hd⟩, nl, hl, ra, e⟩ | ⟨z, left, hi, e⟩
      · exact .inl ⟨l, vs, m, i, all, ⟨o, (hin _ _ ho nI).1, hc, hd⟩, (hin _ _ hl nl).2, (hin _ _ hl nl).1, ra.moveS (fun a o na _ e => (hin a o e na).1) (fun a o na e => (hin a o e na).2), e⟩
      · exact .inr ⟨z, left, (hin _ _ hi nI).1, e⟩
    have smF := same_trans sm (same_trans sm5 sm6)
    have bF : ∀ a o, P a o → (D4 a ↔ D a) := fun a o p => (b6 a o (.inl p)).trans (bs a o p)
    match f, fl, r6, q6 with
    | .next, .nxt, _, q6 => exact ⟨r'.length, by simp, r', σ4, D4, rfl, fun d hd => hok' d (.tail _ hd), F6.less (fun a o p => .inl p) F.gp, bF, smF, pI, itKeep, q6⟩
    | .brk, .brk, _, q6 => exact ⟨D4, σ4, .nxt, F6.less (fun a o p => .inl p) F.gp, bF, smF, trivial, q6⟩
    | .ret v, .ret pv, r6, q6 => exact ⟨D4, σ4, .ret pv, F6.less (fun a o p => .inl p) F.gp, bF, smF, ⟨r6.1, fun xs T e1 e2 o p => r6.2 xs T e1 e2 o (.inl p)⟩, q6⟩

/-- for x in iter -/
theorem Wp1.for1 (hx : isVar sc x) (hi : EvI c k sc σ iter ds) (hw : WpFor c k sc body (fun d σ => (x, .dat d) :: σ) Q ds σ) (hs : ∀ env v, foldedSetIterable iter env v = pure v := by intro _ _; rfl) :
    Wp1 c k sc (.For (.Name x p1) iter body [] pos) σ Q := by
  refine wp_for (fun d σ => (x, .dat d) :: σ) (fun _ => True) ?_ hi (fun _ _ => trivial) hw hs
  intro env A P D s σ v d it r Q' h0 hA _ F hv hit h
  refine wpAny_of_eq (show letOwnedTupleGo (.Name x p1) (.ref it) v = pure () from rfl) (wpAny_assign_Name (F.storeP (pv := .dat d) h0 hx hv notOwn_dat h))
/-- for x, y in iter -/
theorem Wp1.for2 {n : Nat} (hx : isVar sc x) (hy : isVar sc y) (hi : EvI c k sc σ iter ds) (hok : ∀ d ∈ ds, ∃ a b, d = .tuple [a, b])
    (hw : WpFor c k sc body (fun d σ => match d with | .tuple [a, b] => (y, .dat b) :: (x, .dat a) :: σ | _ => σ) Q ds σ) (hs : ∀ env v, foldedSetIterable iter env v = pure v := by intro _ _; rfl) :
    Wp1 c k sc (.For (.Tuple [.Name x p1, .Name y p2] n p3) iter body [] pos) σ Q := by
  refine wp_for (fun d σ => match d with | .tuple [a, b] => (y, .dat b) :: (x, .dat a) :: σ | _ => σ) (fun d => ∃ a b, d = .tuple [a, b]) ?_ hi hok hw hs
  rintro env A P D s σ v d it r Q' h0 hA ⟨a, b, rfl⟩ F hv hit h
  cases hv with | @tuple T vs m _ nT hT ra =>
  obtain ⟨v1, v2, hvs, r1, r2⟩ : ∃ v1 v2, vs.toList = [v1, v2] ∧ RepD D s.heap v1 a ∧ RepD D s.heap v2 b := by
    generalize vs.toList = l at ra
    cases ra with | cons r1 ra => cases ra with | cons r2 ra => cases ra; exact ⟨_, _, rfl, r1, r2⟩
  have main : wpAny c.M A (PySem.assign (.Tuple [.Name x p1, .Name y p2] n p3) env (.ref T)) Q' nE s := by
    refine wpAny_assign_Tuple hA.hd ⟨_, hT, rfl, m, rfl⟩ ?_ rfl fun h' he => ?_
    · show 2 = vs.size
      have := congrArg List.length hvs
      simpa using this.symm
    · have k1 : Kp s { s with heap := h' } := ⟨⟨h', s.toks, rfl⟩, fun b o e => he b o (fun q => by rw [q, fresh_size] at e; cases e) e⟩
      rw [hvs]
      show wpAny c.M A (assignInOrder [PySem.assign (.Name x p1) env, PySem.assign (.Name y p2) env] [v1, v2]) Q' nE _
      have F1 := F.keeps k1
      refine wpAny_assignInOrder_more (wpAny_assign_Name (F1.all.storeP (pv := .dat a) h0 hx (RepD.keeps r1 k1) notOwn_dat fun s2 F2 sm2 => ?_))
      have r2' : RepD D s2.heap v2 b := RepD.moveS (fun a o na _ e => F2.keep a o (.inr ⟨e, na⟩)) (fun _ _ n _ => n) (RepD.keeps r2 k1)
      refine wpAny_assignInOrder_more (wpAny_assign_Name ((F2.less (fun a o p => .inl p) F.gp).storeP (pv := .dat b) h0 hy r2' notOwn_dat fun s3 F3 sm3 => ?_))
      exact wpAny_assignInOrder_none (h s3 F3 (same_trans k1.same (same_trans sm2 sm3)))
  rcases hit with ⟨l, vs', m', i, all, hli, _⟩ | ⟨z, left, hri, _⟩
  · exact wpAny_letOwnedTupleGo_listiter hli main
  · unfold letOwnedTupleGo
    refine wpAny_bind (wpAny_load hri ?_)
    show wpAny _ A (if (["enumerate", "zip", "dict_itemiterator", "dict_reverseitemiterator", "odict_iterator", "itertools.zip_longest", "itertools.pairwise"].contains "range_iterator" && _) = true then _ else _) _ nE s
    rw [show (["enumerate", "zip", "dict_itemiterator", "dict_reverseitemiterator", "odict_iterator", "itertools.zip_longest", "itertools.pairwise"].contains "range_iterator") = false from by decide, Bool.false_and, if_neg (by decide)]
    exact wpAny_pure main

/-- a while's turns, at most n of them -/
def WpWhile (c : Cx) (k : Nat) (sc : Scope) (test : Expr) (body orelse : List Stmt) (Q : Fl → Sg → Prop) : Nat → Sg → Prop
  | 0, _ => False
  | n + 1, σ => ∃ b, EvB c k sc σ test b ∧ (b = true → Wp c k sc body σ (fun fl σ' => match fl with | .nxt => WpWhile c k sc test body orelse Q n σ' | .brk => Q .nxt σ' | .ret v => Q (.ret v) σ')) ∧ (b = false → Wp c k sc orelse σ Q)

theorem Wp1.while (n : Nat) (hw : WpWhile c k sc test body orelse Q n σ) : Wp1 c k sc (.While test body orelse pos) σ Q := fun env A P D s h0 hA F => by
  refine wpAny_While ?_
  refine codeAny_whileLoop (fun n s' => ∃ σ' D', FW c P env D' σ' s' ∧ (∀ a o, P a o → (D' a ↔ D a)) ∧ (∃ h tk, s' = { s with heap := h, toks := tk }) ∧ WpWhile c k sc test body orelse Q n σ') ?_ n
    ⟨σ, D, F, fun _ _ _ => .rfl, ⟨_, _, rfl⟩, hw⟩
  rintro n s' ⟨σ', D', F', bs, sm, hw'⟩
  cases n with
  | zero => exact hw'.elim
  | succ n =>
    obtain ⟨b, ht, h1, h2⟩ := hw'
    refine wpAny_mono (ht env A D' s' h0 hA F'.rd) (fun b' s₁ h₁ => ?_) fun _ _ x => x.elim
    obtain ⟨k1, rfl⟩ := h₁
    cases b' with
    | true =>
      refine wpAny_mono (h1 rfl env A P D' s₁ h0 hA (F'.keeps k1)) (fun f s₂ p => ?_) fun _ _ x => x.elim
      obtain ⟨D2, σ2, fl, F2, b2, sm2, r2, q2⟩ := p
      have smF := same_trans sm (same_trans k1.same sm2)
      have bF : ∀ a o, P a o → (D2 a ↔ D a) := fun a o p => (b2 a o p).trans (bs a o p)
      match f, fl, r2, q2 with
      | .next, .nxt, _, q2 => exact ⟨n, Nat.lt_succ_self n, σ2, D2, F2, bF, smF, q2⟩
      | .brk, .brk, _, q2 => exact ⟨D2, σ2, .nxt, F2, bF, smF, trivial, q2⟩
      | .ret v, .ret pv, r2, q2 => exact ⟨D2, σ2, .ret pv, F2, bF, smF, r2, q2⟩
    | false =>
      refine wpAny_mono (h2 rfl env A P D' s₁ h0 hA (F'.keeps k1)) (fun f s₂ p => ?_) fun _ _ x => x.elim
      exact (p.after (fun _ _ _ => .rfl) k1.same).after bs sm
end
end Mine

namespace Mine

section
variable {c : Cx} {P : Prot} {k : Nat} {sc scope : Scope} {σ σ' σc : Sg} {env : Env} {A : Around} {D D₁ : Dirt} {s s₁ s' : Shared} {x y z w : Str} {v : Value} {pv : PV} {Q Q' : Fl → Sg → Prop} {f : Flow} {e e' e1 e2 e3 e4 val : Expr} {pos p1 p2 p3 p4 p5 p6 : Pos} {d1 d2 d3 d4 : PyData}

theorem RepAll.inv {h : Heap} {vs : List Value} {d : PyData} {ds : List PyData} : RepAll D h vs (d :: ds) → ∃ v vs', vs = v :: vs' ∧ RepD D h v d ∧ RepAll D h vs' ds
  | .cons a b => ⟨_, _, rfl, a, b⟩
theorem RepAll.inv0 {h : Heap} {vs : List Value} : RepAll D h vs [] → vs = []
  | .nil => rfl

theorem unpack_step {ds : List PyData} {Q' : List Value → Shared → Prop} (hA : AOk k A) (r : RepD D s.heap v (.tuple ds)) (h : ∀ vs s', Kp s s' → RepAll D s'.heap vs ds → Q' vs s') :
    wpAny c.M A (unpackItems v ds.length none) Q' nE s := by
  cases r with | @tuple T vs n _ nT hT ra =>
  have e : ds.length = vs.size := by have := ra.length; simpa using this.symm
  rw [e]
  refine wpAny_unpackItems_tuple hA.hd ⟨_, hT, rfl, n, rfl⟩ fun h' he => ?_
  have k1 : Kp s { s with heap := h' } := ⟨⟨h', s.toks, rfl⟩, fun b o e => he b o (fun q => by rw [q, fresh_size] at e; cases e) e⟩
  exact h _ _ k1 (RepAll.keeps ra k1)

theorem FW.bindP (F : FW c P env D σ s) (h0 : env.scope = sc) (hx : isVar sc x) (r : Rep D s.heap v pv) (hB : Bindable P env σ s.heap x v pv) {Q' : Unit → Shared → Prop}
    (h : ∀ s', FW c P env D ((x, pv) :: σ) s' → Stored env x s s' → (∀ {u : Value} {d : PyData}, RepD D s.heap u d → RepD D s'.heap u d) → Q' () s') : wpAny c.M A (bindName env x v) Q' nE s := by
  refine wpAny_bindName (wpAny_mono (F.all.store (by rw [Env.kindOf, h0]; exact hx.1) hx.2 r (fun xs e => ?_)) (fun _ s' h' => ?_) fun _ _ x => x)
  · obtain ⟨p, q⟩ := hB xs e
    refine ⟨fun T hT o pp => pp.elim (p T hT o) fun qq => ?_, q⟩
    subst e
    obtain ⟨T', vs, n, e1, dT, _⟩ := r
    rw [hT] at e1; cases e1
    exact qq.2 dT
  · exact h s' (h'.1.less (fun a o p => .inl p) F.gp) h'.2 fun r => RepD.moveS (fun a o na _ e => h'.1.keep a o (.inr ⟨e, na⟩)) (fun _ _ n _ => n) r

/-- x, y = value: both names local, one line: stores exchanged -/
theorem Wp1.tup2s {n : Nat} (he : Ev c k sc σ val (.dat (.tuple [d1, d2]))) (hx : isVar sc x) (hy : isVar sc y) (q : Q .nxt ((x, .dat d1) :: (y, .dat d2) :: σ))
    (hw : ∀ env : Env, env.scope = sc → swappedStores [.Tuple [.Name x p1, .Name y p2] n p3] val env = pure (some [x, y]) := by intro env h; first | rfl | (cases env; dsimp only at h; subst h; rfl))
    (hs : ∀ env : Env, swapsWithSole [.Tuple [.Name x p1, .Name y p2] n p3] val pos.line env = pure false := by intro _; rfl) :
    Wp1 c k sc (.Assign [.Tuple [.Name x p1, .Name y p2] n p3] val pos) σ Q := fun env A P D s h0 hA F => by
  refine Assign_Tuple_swapped (wpAny_mono (he env A D s h0 hA F.rd) (fun v s₁ h₁ => ?_) fun _ _ x => x) (hs env) (hw env h0)
  obtain ⟨k1, r1⟩ := h₁
  refine unpack_step (ds := [d1, d2]) hA r1 fun vs s₂ k2 ra => ?_
  obtain ⟨v1, _, rfl, ra1, ra⟩ := ra.inv
  obtain ⟨v2, _, rfl, ra2, ra⟩ := ra.inv
  cases ra.inv0
  show wpAny c.M A (assignInOrder [fun v => bindName env y v, fun v => bindName env x v] [_, _]) _ nE s₂
  have F2 := (F.keeps k1).keeps k2
  refine wpAny_assignInOrder_more (F2.bindP (pv := .dat d2) h0 hy ra2 notOwn_dat fun s₃ F3 sm3 kp3 => ?_)
  refine wpAny_assignInOrder_more (F3.bindP (pv := .dat d1) h0 hx (kp3 ra1) notOwn_dat fun s₄ F4 sm4 kp4 => wpAny_assignInOrder_none ?_)
  exact (PostS.next F4 q).after (fun _ _ _ => .rfl) (same_trans (k1.trans k2).same (same_trans sm3.same sm4.same))
theorem Wp1.tup3s {n : Nat} (he : Ev c k sc σ val (.dat (.tuple [d1, d2, d3]))) (hx : isVar sc x) (hy : isVar sc y) (hz : isVar sc z) (q : Q .nxt ((x, .dat d1) :: (y, .dat d2) :: (z, .dat d3) :: σ))
    (hw : ∀ env : Env, env.scope = sc → swappedStores [.Tuple [.Name x p1, .Name y p2, .Name z p4] n p3] val env = pure (some [x, y, z]) := by intro env h; first | rfl | (cases env; dsimp only at h; subst h; rfl))
    (hs : ∀ env : Env, swapsWithSole [.Tuple [.Name x p1, .Name y p2, .Name z p4] n p3] val pos.line env = pure false := by intro _; rfl) :
    Wp1 c k sc (.Assign [.Tuple [.Name x p1, .Name y p2, .Name z p4] n p3] val pos) σ Q := fun env A P D s h0 hA F => by
  refine Assign_Tuple_swapped (wpAny_mono (he env A D s h0 hA F.rd) (fun v s₁ h₁ => ?_) fun _ _ x => x) (hs env) (hw env h0)
  obtain ⟨k1, r1⟩ := h₁
  refine unpack_step (ds := [d1, d2, d3]) hA r1 fun vs s₂ k2 ra => ?_
  obtain ⟨v1, _, rfl, ra1, ra⟩ := ra.inv
  obtain ⟨v2, _, rfl, ra2, ra⟩ := ra.inv
  obtain ⟨v3, _, rfl, ra3, ra⟩ := ra.inv
  cases ra.inv0
  show wpAny c.M A (assignInOrder [fun v => bindName env z v, fun v => bindName env y v, fun v => bindName env x v] [_, _, _]) _ nE s₂
  have F2 := (F.keeps k1).keeps k2
  refine wpAny_assignInOrder_more (F2.bindP (pv := .dat d3) h0 hz ra3 notOwn_dat fun s₃ F3 sm3 kp3 => ?_)
  refine wpAny_assignInOrder_more (F3.bindP (pv := .dat d2) h0 hy (kp3 ra2) notOwn_dat fun s₄ F4 sm4 kp4 => ?_)
  refine wpAny_assignInOrder_more (F4.bindP (pv := .dat d1) h0 hx (kp4 (kp3 ra1)) notOwn_dat fun s₅ F5 sm5 kp5 => wpAny_assignInOrder_none ?_)
  exact (PostS.next F5 q).after (fun _ _ _ => .rfl) (same_trans (k1.trans k2).same (same_trans sm3.same (same_trans sm4.same sm5.same)))
/-- x, y = value, in order -/
theorem Wp1.tup2 {n : Nat} (he : Ev c k sc σ val (.dat (.tuple [d1, d2]))) (hx : isVar sc x) (hy : isVar sc y) (q : Q .nxt ((y, .dat d2) :: (x, .dat d1) :: σ))
    (hw : ∀ env : Env, env.scope = sc → swappedStores [.Tuple [.Name x p1, .Name y p2] n p3] val env = pure none := by intro env h; first | rfl | (cases env; dsimp only at h; subst h; rfl))
    (hs : ∀ env : Env, swapsWithSole [.Tuple [.Name x p1, .Name y p2] n p3] val pos.line env = pure false := by intro _; rfl) :
    Wp1 c k sc (.Assign [.Tuple [.Name x p1, .Name y p2] n p3] val pos) σ Q := fun env A P D s h0 hA F => by
  refine Assign_Tuple (wpAny_mono (he env A D s h0 hA F.rd) (fun v s₁ h₁ => ?_) fun _ _ x => x) (hs env) (hw env h0)
  obtain ⟨k1, r1⟩ := h₁
  cases r1 with | @tuple T vs m _ nT hT ra =>
  have hsz : vs.size = 2 := by have := ra.length; simpa using this
  refine wpAny_assign_Tuple hA.hd ⟨_, hT, rfl, m, rfl⟩ hsz.symm rfl fun h' he => ?_
  have k2 : Kp s₁ { s₁ with heap := h' } := ⟨⟨h', s₁.toks, rfl⟩, fun b o e => he b o (fun q => by rw [q, fresh_size] at e; cases e) e⟩
  have ra := RepAll.keeps ra k2
  generalize vs.toList = l at ra
  obtain ⟨v1, _, rfl, ra1, ra⟩ := ra.inv
  obtain ⟨v2, _, rfl, ra2, ra⟩ := ra.inv
  cases ra.inv0
  show wpAny c.M A (assignInOrder [PySem.assign (.Name x p1) env, PySem.assign (.Name y p2) env] [_, _]) _ nE _
  have F2 := (F.keeps k1).keeps k2
  refine wpAny_assignInOrder_more (wpAny_bind (wpAny_standAt (F2.bindP (pv := .dat d1) h0 hx ra1 notOwn_dat fun s₃ F3 sm3 kp3 => ?_)))
  refine wpAny_assignInOrder_more (wpAny_bind (wpAny_standAt (F3.bindP (pv := .dat d2) h0 hy (kp3 ra2) notOwn_dat fun s₄ F4 sm4 kp4 => wpAny_assignInOrder_none ?_)))
  exact (PostS.next F4 q).after (fun _ _ _ => .rfl) (same_trans (k1.trans k2).same (same_trans sm3.same sm4.same))
/-- x, y, z, w = e1, e2, e3, []: the last one a new list of the name's own -/
theorem Wp1.tup4own {n m : Nat} {is : List Int} (h1 : Ev c k sc σ e1 (.dat d1)) (h2 : Ev c k sc σ e2 (.dat d2)) (h3 : Ev c k sc σ e3 (.dat d3)) (h4 : EvF c k sc σ e4 is)
    (hx : isVar sc x) (hy : isVar sc y) (hz : isVar sc z) (hw' : isVar sc w) (q : Q .nxt ((w, .own (is.map .int)) :: (z, .dat d3) :: (y, .dat d2) :: (x, .dat d1) :: σ))
    (he : ∀ env pos, backTo pos (starEach [e1, e2, e3, e4] env) = [(false, eval e1 env), (false, eval e2 env), (false, eval e3 env), (false, eval e4 env)] := by intro _ _; rfl)
    (hw : ∀ env : Env, swappedStores [.Tuple [.Name x p1, .Name y p2, .Name z p4, .Name w p5] n p3] (.Tuple [e1, e2, e3, e4] m p6) env = pure none := by intro _; rfl)
    (hs : ∀ env : Env, swapsWithSole [.Tuple [.Name x p1, .Name y p2, .Name z p4, .Name w p5] n p3] (.Tuple [e1, e2, e3, e4] m p6) pos.line env = pure false := by intro _; rfl) :
    Wp1 c k sc (.Assign [.Tuple [.Name x p1, .Name y p2, .Name z p4, .Name w p5] n p3] (.Tuple [e1, e2, e3, e4] m p6) pos) σ Q := fun env A P D s h0 hA F => by
  refine Assign_Tuple (wpAny_Tuple ?_) (hs env) (hw env)
  rw [he]
  refine Calls.spliced_cons (wpAny_mono (h1 env A D s h0 hA F.rd) (fun v1 s₁ g1 => ?_) fun _ _ x => x)
  refine Calls.spliced_cons (wpAny_mono (h2 env A D s₁ h0 hA (F.rd.keeps g1.1)) (fun v2 s₂ g2 => ?_) fun _ _ x => x)
  refine Calls.spliced_cons (wpAny_mono (h3 env A D s₂ h0 hA ((F.rd.keeps g1.1).keeps g2.1)) (fun v3 s₃ g3 => ?_) fun _ _ x => x)
  refine Calls.spliced_cons (wpAny_mono (h4 env A D s₃ h0 hA (((F.rd.keeps g1.1).keeps g2.1).keeps g3.1)) (fun v4 s₄ g4 => Calls.spliced_nil ?_) fun _ _ x => x)
  obtain ⟨k1, r1⟩ := g1
  obtain ⟨k2, r2⟩ := g2
  obtain ⟨k3, r3⟩ := g3
  obtain ⟨k4, T, vs, nn, rfl, fT, hl, hi⟩ := g4
  refine ⟨szL (by simp), ?_⟩
  have k5 := Kp.push s₄ { cls := .type "tuple", data := .seq [v1, v2, v3, .ref T].toArray }
  refine wpAny_assign_Tuple hA.hd ⟨_, Heap.get?_push_size _ rfl, rfl, _, rfl⟩ rfl rfl fun h' he' => ?_
  have k6 : Kp { s₄ with heap := s₄.heap.push { cls := .type "tuple", data := .seq [v1, v2, v3, .ref T].toArray } } { s₄ with heap := h' } := ⟨⟨h', _, rfl⟩, fun b o e => he' b o (fun q => by rw [q, fresh_size] at e; cases e) e⟩
  have k56 : Kp s₄ { s₄ with heap := h' } := k5.trans k6
  have kA : Kp s { s₄ with heap := h' } := (((k1.trans k2).trans k3).trans k4).trans k56
  have hl' : IsL h' T vs nn := k56.heap _ _ hl
  have fT0 : s.heap.get? T = none := kp_fresh ((k1.trans k2).trans k3) fT
  obtain ⟨F6, rT, hB, b⟩ := own_fresh (x := w) F kA fT0 hl' hi
  have up : ∀ {v : Value} {d : PyData} {sx : Shared}, Kp sx s₃ → RepD D sx.heap v d → RepD (fun a => D a ∨ a = T) h' v d := fun {v d sx} kx r =>
    RepD.moveS (fun a o _ _ e => (k4.trans k56).heap a o e) (fun a o nd e h => h.elim nd fun q => by rw [q, fT] at e; cases e) (RepD.keeps r kx)
  show wpAny c.M A (assignInOrder [PySem.assign (.Name x p1) env, PySem.assign (.Name y p2) env, PySem.assign (.Name z p4) env, PySem.assign (.Name w p5) env] [v1, v2, v3, .ref T]) _ nE _
  refine wpAny_assignInOrder_more (wpAny_bind (wpAny_standAt (F6.bindP (pv := .dat d1) h0 hx (up (k2.trans k3) r1) notOwn_dat fun s₇ F7 sm7 kp7 => ?_)))
  refine wpAny_assignInOrder_more (wpAny_bind (wpAny_standAt (F7.bindP (pv := .dat d2) h0 hy (kp7 (up k3 r2)) notOwn_dat fun s₈ F8 sm8 kp8 => ?_)))
  refine wpAny_assignInOrder_more (wpAny_bind (wpAny_standAt (F8.bindP (pv := .dat d3) h0 hz (kp8 (kp7 (up (.refl s₃) r3))) notOwn_dat fun s₉ F9 sm9 kp9 => ?_)))
  have rT9 : Rep (fun a => D a ∨ a = T) s₉.heap (.ref T) (.own (is.map .int)) := ⟨T, vs, nn, rfl, .inr rfl, sm9.lists _ _ _ (sm8.lists _ _ _ (sm7.lists _ _ _ hl')), RepAll.ofInts hi⟩
  refine wpAny_assignInOrder_more (wpAny_bind (wpAny_standAt (F9.bindP (pv := .own (is.map .int)) h0 hw' rT9 (fun xs e => ⟨(hB xs e).1, fun u ys hu hlk hat => ?_⟩) fun s₁₀ F10 sm10 kp10 => wpAny_assignInOrder_none ?_)))
  · have lk : ∀ (a : Str) (d : PyData) (τ : Sg), List.lookup u ((a, PV.dat d) :: τ) = some (.own ys) → u ≠ a ∧ τ.lookup u = some (.own ys) := fun a d τ e => by
      rw [List.lookup_cons] at e
      cases hb : u == a with
      | true => rw [hb] at e; cases e
      | false => rw [hb] at e; exact ⟨by simpa using hb, e⟩
    obtain ⟨n1, e1⟩ := lk _ _ _ hlk
    obtain ⟨n2, e2⟩ := lk _ _ _ e1
    obtain ⟨n3, e3⟩ := lk _ _ _ e2
    obtain ⟨_, u0, hat0, _⟩ := F6.rd.names u _ e3
    have := (sm9.ats u u0 n1 (sm8.ats u u0 n2 (sm7.ats u u0 n3 hat0))).fn hat
    exact (hB xs e).2 u ys hu e3 (this ▸ hat0)
  · exact (PostS.next F10 q).after b (same_trans kA.same (same_trans sm7.same (same_trans sm8.same (same_trans sm9.same sm10.same))))
end
end Mine

namespace Mine

def RepPs (D : Dirt) (h : Heap) : List Value → List PV → Prop
  | [], [] => True
  | v :: vs, p :: ps => Rep D h v p ∧ RepPs D h vs ps
  | _, _ => False
theorem RepPs.len {D : Dirt} {h : Heap} : ∀ {vs : List Value} {ps : List PV}, RepPs D h vs ps → vs.length = ps.length
  | [], [], _ => rfl
  | _ :: _, _ :: _, h => by simp [RepPs.len h.2]
  | [], _ :: _, h => h.elim
  | _ :: _, [], h => h.elim
theorem RepAll.ps {D : Dirt} {h : Heap} : ∀ {vs : List Value} {ds : List PyData}, RepAll D h vs ds → RepPs D h vs (ds.map .dat)
  | _, _, .nil => trivial
  | _, _, .cons a b => ⟨a, RepAll.ps b⟩

theorem bindL_notin {kindOf : Str → Option NameKind} {x : Str} : ∀ (binds : List (Str × Value)) (m : Str → Option Value), x ∉ binds.map (·.1) → bindL kindOf binds m x = m x
  | [], m, _ => rfl
  | (n, v) :: r, m, h => by
    unfold bindL
    simp only [List.map_cons, List.mem_cons, not_or] at h
    rw [bindL_notin r _ h.2]
    split
    · simp [h.1]
    · rfl
theorem bindC_notin {kindOf : Str → Option NameKind} {x : Str} : ∀ (binds : List (Str × Value)) (m : Str → Option Value), x ∉ binds.map (·.1) → bindC kindOf binds m x = m x
  | [], m, _ => rfl
  | (n, v) :: r, m, h => by
    unfold bindC
    simp only [List.map_cons, List.mem_cons, not_or] at h
    rw [bindC_notin r _ h.2]
    split
    · rfl
    · simp [h.1]
theorem bindL_mem {kindOf : Str → Option NameKind} {x : Str} {v : Value} (hk : kindOf x = some .local) : ∀ (binds : List (Str × Value)) (m : Str → Option Value), (binds.map (·.1)).Nodup → (x, v) ∈ binds → bindL kindOf binds m x = some v
  | (n, u) :: r, m, nd, h => by
    rw [List.map_cons, List.nodup_cons] at nd
    unfold bindL
    rcases List.mem_cons.mp h with e | h
    · cases e
      rw [bindL_notin r _ nd.1, if_pos hk]; simp
    · exact bindL_mem hk r _ nd.2 h
theorem bindC_mem {kindOf : Str → Option NameKind} {x : Str} {v : Value} (hk : ¬ kindOf x = some .local) : ∀ (binds : List (Str × Value)) (m : Str → Option Value), (binds.map (·.1)).Nodup → (x, v) ∈ binds → bindC kindOf binds m x = some v
  | (n, u) :: r, m, nd, h => by
    rw [List.map_cons, List.nodup_cons] at nd
    unfold bindC
    rcases List.mem_cons.mp h with e | h
    · cases e
      rw [bindC_notin r _ nd.1, if_neg hk]; simp
    · exact bindC_mem hk r _ nd.2 h

/-- a function of the text's, in the written part -/
structure FnAt (c : Cx) (a : Addr) (fd : FuncData) (body : List Stmt) (ns : List Str) : Prop where
  at' : ∃ o, c.K.lookup a = some o ∧ o.data = .func fd
  code : codeIn c.K fd.code fd.qualname = true
  body : fd.body = .stmts body
  bind : ∀ vals : List Value, vals.length = ns.length → bindArgs fd ⟨vals, []⟩ = pure (ns.zip vals)
  clo : fd.closure = []
  kinds : ns.all (fun y => fd.scope.names.lookup y == some .local || fd.scope.names.lookup y == some .cell) = true
  nd : ns.Nodup
  dbg : ns.all (fun y => !(y == ("__debug__" : Str))) = true
  gl : fd.globals = mainGlobals
  bi : fd.builtins = builtinsNs
  co : fd.scope.isCoroutine = false
  gen : fd.scope.isGenerator = false
  kind : fd.scope.kind = .function
  names : (fd.scope.names.map (·.1)).Nodup

section
variable {c : Cx} {k : Nat} {A : Around} {D : Dirt} {s : Shared} {a : Addr} {fd : FuncData} {body : List Stmt} {ns : List Str} {ps : List PV} {vs : List Value} {Q : Fl → Sg → Prop}

theorem zip_lookup : ∀ {ns : List Str} {vs : List Value} {ps : List PV} {h : Heap}, RepPs D h vs ps → vs.length = ns.length → ns.Nodup → ∀ x pv, (ns.zip ps).lookup x = some pv → ∃ v, (x, v) ∈ ns.zip vs ∧ Rep D h v pv ∧ x ∈ ns
  | [], _, _, _, _, _, _, x, pv, e => by simp at e
  | n :: ns, [], [], _, _, hl, _, x, pv, e => by simp at hl
  | n :: ns, v :: vs, p :: ps, h, r, hl, nd, x, pv, e => by
    rw [List.zip_cons_cons, List.lookup_cons] at e
    cases hb : x == n with
    | true =>
      rw [hb] at e; cases e
      rw [eq_of_beq hb]
      exact ⟨v, .head _, r.1, .head _⟩
    | false =>
      rw [hb] at e
      obtain ⟨u, h1, h2, h3⟩ := zip_lookup r.2 (by simpa using hl) (List.nodup_cons.mp nd).2 x pv e
      exact ⟨u, .tail _ h1, h2, .tail _ h3⟩
  | _ :: _, [], _ :: _, _, h, _, _, _, _, _ => h.elim
  | _ :: _, _ :: _, [], _, h, _, _, _, _, _ => h.elim

theorem AOk.deeper {A : Around} (h : AOk (k + 1) A) (env : Env) : AOk k (A.deeper env) where
  hd := h.hd
  dp := by have := h.dp; show A.depth + 1 + k * 20 ≤ 600; omega
  un := by have := h.un; show A.units + 3 + k * 100 ≤ 5000; omega

theorem call_core (X : FnAt c a fd body ns) (hw : Wp c k fd.scope body (ns.zip ps) Q) (hA : AOk (k + 1) A) (G : Gnd c s.heap) (hD : ∀ a, D a → ∃ o, s.heap.get? a = some o ∧ NotFields o) (hr : RepPs D s.heap vs ps) (hl : vs.length = ns.length) (hno : ∀ p ∈ ps, ∀ xs, p ≠ .own xs)
    {R : Result → Shared → Prop} (hR : ∀ v s' D' σ' fl, Kp s s' → (∀ a o, s.heap.get? a = some o → (D' a ↔ D a)) → FlRep (fun b o => s.heap.get? b = some o) D' s'.heap v fl → Q fl σ' → R (.ok (.ret (match v with | .ret v => v | _ => .none))) s') :
    codeAny c.M A (.call (.ref a) ⟨vs, []⟩) R s := by
  obtain ⟨o, ho, hd⟩ := X.at'
  have hk := X.kinds
  rw [List.all_eq_true] at hk
  have hbk : ∀ x ∈ ns.zip vs, fd.scope.names.lookup x.1 = some .local ∨ (fd.scope.names.lookup x.1 = some .cell ∧ ((cellsFrom (s.heap.objs.size + 1) fd.scope.names []).lookup x.1).isSome = true) := fun x hx => by
    have := hk x.1 (List.of_mem_zip hx).1
    rcases Bool.or_eq_true_iff.mp this with q | q
    · exact .inl (by simpa using q)
    · have q' : fd.scope.names.lookup x.1 = some .cell := by simpa using q
      exact .inr ⟨q', cellsFrom_some _ _ _ (.inl q')⟩
  refine codeAny_call_cells (by have := hA.dp; show A.depth < 1000; omega) (G.inK _ _ ho) hd G.lim (codeRec_of G.inK X.code) X.body (X.bind vs hl) X.clo hbk (fun s₁ Y => ?_) X.co X.gen X.kind
  have hsub : ∀ b o, s.heap.get? b = some o → s₁.heap.get? b = some o := Y.toInCall.keep
  have nL : ∀ o, ¬ s.heap.get? s.heap.objs.size = some o := fun o e => by rw [fresh_size] at e; cases e
  have nC : ∀ n x, (callEnvC fd s.heap.objs.size a).cells.lookup n = some x → ∀ o, ¬ s.heap.get? x = some o := fun n x h o e => by
    have h1 := Y.above n x (mem_of_lookup h)
    have h2 : x < s.heap.objs.size := Heap.lt_size e
    exact Nat.lt_irrefl _ (Nat.lt_trans h1 h2)
  have nodup : ((ns.zip vs).map (·.1)).Nodup := by
    have : (ns.zip vs).map (·.1) = ns := by rw [List.map_fst_zip]; omega
    rw [this]; exact X.nd
  have hdb := X.dbg
  rw [List.all_eq_true] at hdb
  have F : FW c (fun b o => s.heap.get? b = some o) (callEnvC fd s.heap.objs.size a) (fun x => D x ∨ x = s.heap.objs.size ∨ ∃ n, (callEnvC fd s.heap.objs.size a).cells.lookup n = some x) (ns.zip ps) s₁ := by
    refine ⟨⟨G.keeps hsub, fun x h => ?_, fun x pv e => ?_, fun x hx => ?_, X.kind, X.gl, X.bi⟩, fun h hh => G.keeps fun b o e => hh b o e, hsub, ⟨.inr (.inl rfl), nL, _, Y.toInCall.ns⟩,
      fun x b h => ⟨.inr (.inr ⟨x, h⟩), nC x b h, _, Y.cell x b h⟩, fun x y b h1 h2 => name_of_addr Y.apart (mem_of_lookup h1) (mem_of_lookup h2), fun x xs T e hat => ?_⟩
    · rcases h with h | rfl | ⟨n, h⟩
      · obtain ⟨o, ho, nf⟩ := hD x h; exact ⟨o, hsub _ _ ho, nf⟩
      · obtain ⟨o, es, ep, ho, hd, _⟩ := Y.toInCall.ns
        exact ⟨o, ho, fun fs e => by rw [hd] at e; cases e⟩
      · obtain ⟨o, ho, hd⟩ := Y.cell n x h
        exact ⟨o, ho, fun fs e => by rw [hd] at e; cases e⟩
    · obtain ⟨v, hm, rv, hxn⟩ := zip_lookup hr hl X.nd x pv e
      refine ⟨by simpa using hdb x hxn, v, ?_, ?_⟩
      · rcases hbk (x, v) hm with h | ⟨h, h2⟩
        · exact .inl ⟨h, _, Y.toInCall.ns, bindL_mem (show (callEnvC fd s.heap.objs.size a).kindOf x = some .local from h) _ _ nodup hm⟩
        · obtain ⟨b, hb⟩ := Option.isSome_iff_exists.mp h2
          refine .inr ⟨h, b, hb, ?_⟩
          have := Y.cell x b hb
          rwa [bindC_mem (by show ¬ fd.scope.names.lookup x = _; rw [h]; decide) _ _ nodup hm] at this
      · refine rv.moveN (fun b o _ e => hsub b o e) (fun b o nd e h => ?_) fun b h => .inl h
        rcases h with h | rfl | ⟨n, h⟩
        · exact nd h
        · exact nL _ e
        · exact nC n b h _ e
    · obtain ⟨b, hb⟩ := Option.isSome_iff_exists.mp (cellsFrom_some (x := x) fd.scope.names (s.heap.objs.size + 1) [] (.inl hx))
      exact ⟨b, hb⟩
    · obtain ⟨v, hm, rv, hxn⟩ := zip_lookup hr hl X.nd x _ e
      exact absurd rfl (hno _ (List.of_mem_zip (mem_of_lookup e)).2 xs)
  refine wpAny_mono (hw (callEnvC fd s.heap.objs.size a) _ _ _ s₁ rfl (hA.deeper _) F) (fun f s' p => ?_) fun _ _ x => x.elim
  obtain ⟨D', σ', fl, F', b, sm, r, q⟩ := p
  exact hR f s' D' σ' fl ⟨same_trans Y.toInCall.same sm, fun b o e => F'.keep b o e⟩ (fun x o e => (b x o e).trans ⟨fun h => by
    rcases h with h | rfl | ⟨n, h⟩
    · exact h
    · exact absurd e (nL o)
    · exact absurd e (nC n x h o), .inl⟩) r q

theorem repD_back {D' : Dirt} {s s' : Shared} (hD : ∀ a, D a → ∃ o, s.heap.get? a = some o ∧ NotFields o) (b : ∀ a o, s.heap.get? a = some o → (D' a ↔ D a)) : ∀ a (o : Obj), ¬ D' a → s'.heap.get? a = some o → ¬ D a := fun a o nd _ d => by
  obtain ⟨o', ho', _⟩ := hD a d
  exact nd ((b a o' ho').mpr d)

/-- a def's contract: data -/
theorem cg_def {ds : List PyData} {d : PyData} (X : FnAt c a fd body ns) (hl : ds.length = ns.length) (hw : Wp c k fd.scope body (ns.zip (ds.map .dat)) (fun fl _ => fl = .ret (.dat d))) : CallG c (k + 1) (.ref a) ds (aD d) := fun A D s vs hA G hD ra => by
  refine wpAny_call (call_core X hw hA G hD ra.ps (by rw [ra.length]; exact hl) (fun p hp xs e => by obtain ⟨d, _, rfl⟩ := List.mem_map.mp hp; cases e) ?_)
  rintro f s' D' σ' fl kp b r rfl
  match f, r with
  | .ret v, r => exact ⟨kp, RepD.moveS (fun a o _ _ e => e) (repD_back hD b) r.1⟩
/-- a def's contract: a new list of ints -/
theorem cg_defF {ds : List PyData} {is : List Int} (X : FnAt c a fd body ns) (hl : ds.length = ns.length) (hw : Wp c k fd.scope body (ns.zip (ds.map .dat)) (fun fl _ => fl = .ret (.own (is.map .int)))) : CallG c (k + 1) (.ref a) ds (aF is) := fun A D s vs hA G hD ra => by
  refine wpAny_call (call_core X hw hA G hD ra.ps (by rw [ra.length]; exact hl) (fun p hp xs e => by obtain ⟨d, _, rfl⟩ := List.mem_map.mp hp; cases e) ?_)
  rintro f s' D' σ' fl kp b r rfl
  match f, r with
  | .ret v, r =>
    obtain ⟨⟨T, vs, n, rfl, dT, hl, hr⟩, pT⟩ := r
    refine ⟨kp, T, vs, n, rfl, ?_, hl, hr.ints⟩
    cases e : s.heap.get? T with
    | none => rfl
    | some o => exact absurd e (pT _ T rfl rfl o)
end
end Mine

namespace Mine

/-- the class TupleComp, in the written part -/
structure TCOk (K : Frag) : Prop where
  makes : makesIn K 45 = true
  keep : keepIn K (.ref 45) = true
  init : findIn K (.ref 45) "__init__" = some (some (.ref 35))
  initT : typeIn K (.ref 35) = some (.type "function")
  sattr : findIn K (.ref 45) "__setattr__" = some (some (.builtin "object.__setattr__"))
  over : plainOver K 45 = true
  taker : takerIn K 45 "comp_select_list" = some none
  hasD : (clsIn K 45).any (·.hasDict) = true
  gattr : findIn K (.ref 45) "__getattribute__" = some (some (.builtin "object.__getattribute__"))
  gat : findIn K (.ref 45) "__getattr__" = some none
  cmp : findIn K (.ref 45) "compare" = some (some (.ref 42))
  cmpT : typeIn K (.ref 42) = some (.type "function")
  csl : findIn K (.ref 45) "comp_select_list" = some none
  cls : ∃ o cd, K.lookup 45 = some o ∧ o.data = .cls cd
  fn42 : ∃ o fd, K.lookup 42 = some o ∧ o.data = .func fd

theorem TCOk.find {K : Frag} (T : TCOk K) {od : Obj} {kv : Value} (h : W.lookIn "comp_select_list" od = some (some kv)) : findObj K 45 (some od) "comp_select_list" = some (.value kv) := by
  have hd := T.hasD
  obtain ⟨cd, hc, hd'⟩ := any_some hd
  unfold findObj
  rw [hc, T.csl]
  have : W.ownOf cd (some od) "comp_select_list" = some (some kv) := by unfold W.ownOf; rw [if_pos hd']; exact h
  simp only [Option.bind_some, this]

theorem IsInst.at' {D : Dirt} {h : Heap} {x : Addr} {kv : Value} : IsInst D h x kv → ∃ dx od, InstAt h x (instObj 45 dx) 45 (some od) ∧ W.lookIn "comp_select_list" od = some (some kv) ∧ W.lookIn "compare" od = some none
  | ⟨dx, od, hx, hdx, _, _, _, g1, g2⟩ => ⟨dx, od, ⟨hx, rfl, rfl, hdx⟩, g1, g2⟩

section
variable {c : Cx} {k : Nat} {sc : Scope} {σ : Sg} {e : Expr} {pos p1 : Pos} {ks : PyData}

/-- self.comp_select_list -/
theorem Ev.csl (T : TCOk c.K) {xs : List PyData} (he : Ev c k sc σ e (.inst (.list xs))) (hn : ∀ env, eval (.Attribute e "comp_select_list" pos) env = (do
      let o ← eval e env
      standAt pos.atName
      let r ← holding [o] (getAttr o "comp_select_list" true)
      letTemporaryGo e o r
      pure r) := by intro _; with_unfolding_all rfl) : Ev c k sc σ (.Attribute e "comp_select_list" pos) (.dat (.list xs)) := fun env A D s h0 hA F => by
  refine Attribute_any_ (prog := c.prog) (w := c.w) (wpAny_mono (he env A D s h0 hA F) (fun v s₁ h₁ => ?_) fun _ _ x => x) (hn env)
  obtain ⟨k1, x, kv, rfl, hi, hr⟩ := h₁
  obtain ⟨dx, od, I, g1, _⟩ := hi.at'
  have G1 := (F.keeps k1).gnd
  have hh : handedIn kv = true := by cases hr; rfl
  exact get_value G1.inK I T.gattr (T.find g1) hh ⟨k1.trans (.toks s₁ _), RepD.keeps hr (.toks s₁ _)⟩

def CallP (c : Cx) (k : Nat) (fv : Value) (ps : List PV) (R : Ans) : Prop :=
  ∀ (A : Around) (D : Dirt) (s : Shared) (vs : List Value), AOk k A → Gnd c s.heap → (∀ a, D a → ∃ o, s.heap.get? a = some o ∧ NotFields o) → RepPs D s.heap vs ps →
    wpAny c.M A (call fv vs) (fun v s' => Kp s s' ∧ R D s v s') nE s

theorem cp_def {a : Addr} {fd : FuncData} {body : List Stmt} {ns : List Str} {ps : List PV} {d : PyData} (X : FnAt c a fd body ns) (hl : ps.length = ns.length) (hno : ∀ p ∈ ps, ∀ xs, p ≠ .own xs) (hw : Wp c k fd.scope body (ns.zip ps) (fun fl _ => fl = .ret (.dat d))) : CallP c (k + 1) (.ref a) ps (aD d) := fun A D s vs hA G hD ra => by
  refine wpAny_call (call_core X hw hA G hD ra (by rw [ra.len]; exact hl) hno ?_)
  rintro f s' D' σ' fl kp b r rfl
  match f, r with
  | .ret v, r => exact ⟨kp, RepD.moveS (fun a o _ _ e => e) (repD_back hD b) r.1⟩

/-- o.compare(..) -/
theorem Ev.cmpCall (T : TCOk c.K) {o : Expr} {apos : Pos} {es : List Expr} {ds : List PyData} {d : PyData} (ho : Ev c k sc σ o (.inst ks)) (ha : EvAll c k sc σ (e :: es) ds) (hf : CallP c k (.ref 42) (.inst ks :: ds.map .dat) (aD d))
    (hb : ∀ env, attributeBase o "compare" env (eval o env) = eval o env := by intro _; rfl)
    (he : ∀ env pos, backTo pos (starEach (e :: es) env) = (false, eval e env) :: backTo pos (starEach es env) := by intro _ _; rfl)
    (hfew : ∀ env : Env, methodCallForm ((e :: es).length + 0) (backTo pos (starEach (e :: es) env)) (backToKw pos (keywordEach [] env)) = true := by intro _; rfl)
    (hline : (apos.endLine == pos.line) = true := by rfl) :
    Ev c k sc σ (.Call (.Attribute o "compare" apos) (e :: es) [] pos) (.dat d) := fun env A D s h0 hA F => by
  rw [arm_eval_Call, hb]
  refine wpAny_bind (wpAny_mono (ho env A D s h0 hA F) (fun v s₁ h₁ => wpAny_bind (wpAny_standAt ?_)) fun _ _ x => x)
  obtain ⟨k1, x, kv, rfl, hi, hr⟩ := h₁
  obtain ⟨dx, od, I, _, g2⟩ := hi.at'
  have F1 := F.keeps k1
  have hpos : methodCallPos true o env apos pos = pure pos := by unfold methodCallPos; simp [hline]
  unfold methodCall
  have hform : methodCallForm ((e :: es).length + ([] : List Keyword).length) (backTo pos (starEach (e :: es) env)) (backToKw pos (keywordEach [] env)) = true := hfew env
  rw [hform]
  refine wpAny_bind (wpAny_holding ?_)
  show wpAny _ _ (getMethod (.ref x) "compare" _) _ _ _
  refine method_fn F1.gnd.inK I T.gattr T.gat T.cmp T.cmpT (by show (W.lookIn "compare" od).map _ = _; rw [g2]; rfl) ?_
  refine wpAny_bind (wpAny_of_eq hpos ?_)
  obtain ⟨of, fd, hof, hfd⟩ := T.fn42
  have h1 := ha env A D s₁ pos h0 hA F1
  rw [he] at h1 ⊢
  refine Calls.callWith_function (o := of) (fd := fd) (Calls.evalArgs_plain (wpAny_mono h1 (fun vs s₂ h₂ => ?_) fun _ _ x => x))
  obtain ⟨k2, ra⟩ := h₂
  refine ⟨⟨k2.heap _ _ (F1.gnd.inK _ _ hof), hfd⟩, ?_⟩
  have rI : Rep D s₂.heap (.ref x) (.inst ks) := Rep.keeps (s := s₁) (show Rep D s₁.heap (.ref x) (.inst ks) from ⟨x, kv, rfl, hi, hr⟩) k2
  refine wpAny_mono (hf A D s₂ (.ref x :: vs) hA (F1.keeps k2).gnd (F1.keeps k2).dirt ⟨rI, ra.ps⟩) (fun v s₃ h₃ => ?_) fun _ _ x => x
  exact ⟨(k1.trans k2).trans h₃.1, h₃.2⟩

theorem under_make (A : Around) (rest : List Value) : (A.under (.builtin "type.__call__" ⟨.ref 45 :: rest, []⟩)).depth = A.depth + 1 ∧ (A.under (.builtin "type.__call__" ⟨.ref 45 :: rest, []⟩)).units = A.units + 1 ∧ (A.under (.builtin "type.__call__" ⟨.ref 45 :: rest, []⟩)).handled = A.handled := by
  refine ⟨?_, ?_, rfl⟩
  · show A.depth + Code.weight _ = _
    rfl
  · show A.units + Code.cUnits _ = _
    rfl

/-- TupleComp(keys) -/
theorem cg_tc (T : TCOk c.K) {fd : FuncData} {body : List Stmt} (X : FnAt c 35 fd body ["self", "comp_select_list"]) {p1 p2 p3 p4 : Pos} (hb : body = [.Assign [.Attribute (.Name "self" p1) "comp_select_list" p2] (.Name "comp_select_list" p3) p4])
    (hcell : ∀ x ∈ fd.scope.names, x.2 ≠ .cell) (hl1 : fd.scope.names.lookup ("self" : Str) = some .local) (hl2 : fd.scope.names.lookup ("comp_select_list" : Str) = some .local) :
    CallG c k (.ref 45) [ks] (aI ks) := fun A D s vs hA G hD ra => by
  obtain ⟨kv, _, rfl, rk, ra⟩ := RepAll.inv ra
  cases RepAll.inv0 ra
  refine wpAny_call ?_
  obtain ⟨h, g, d, t, os⟩ := s
  obtain ⟨u1, u2, u3⟩ := under_make A [kv]
  refine make_core (makes_of G.inK T.makes) (looks_findIn G.inK T.init) (fun self => bind_fn G.inK self T.initT) (.inl rfl) ?_
  have kA : ∀ b o, h.get? b = some o → ((h.push emptyDict).push (instObj 45 h.objs.size)).get? b = some o := fun b o e => Heap.get?_push_of_some _ (Heap.get?_push_of_some _ e)
  have hx : ((h.push emptyDict).push (instObj 45 h.objs.size)).get? (h.objs.size + 1) = some (instObj 45 h.objs.size) := by
    have := Heap.get?_push_size (h.push emptyDict) (o := instObj 45 h.objs.size) rfl
    rwa [Heap.size_push] at this
  have hdx : ((h.push emptyDict).push (instObj 45 h.objs.size)).get? h.objs.size = some emptyDict := Heap.get?_push_of_some _ (Heap.get?_push_size _ rfl)
  have hsz : ((h.push emptyDict).push (instObj 45 h.objs.size)).objs.size = h.objs.size + 2 := by rw [Heap.size_push, Heap.size_push]
  obtain ⟨of, hof, hfd⟩ := X.at'
  have G2 : Gnd c ((h.push emptyDict).push (instObj 45 h.objs.size)) := G.keeps kA
  refine codeAny_call_def (s := ⟨(h.push emptyDict).push (instObj 45 h.objs.size), g, d, t, os⟩) (by have := hA.dp; rw [u1]; show A.depth + 1 < 1000; omega) (G2.inK _ _ hof) hfd G2.lim (codeRec_of G2.inK X.code) X.body (.of_eq (X.bind [.ref (h.objs.size + 1), kv] rfl)) hcell (fun y hy => ?_) (fun h₁ hns hk => ?_) X.co X.gen X.kind
  · simp only [List.zip_cons_cons, List.zip_nil_left, List.mem_cons, List.not_mem_nil, or_false] at hy
    rcases hy with rfl | rfl
    · exact hl1
    · exact hl2
  dsimp only at hns hk ⊢
  rw [hb]
  have hlim : (h.objs.size + 2 : Nat) = ((h.push emptyDict).push (instObj 45 h.objs.size)).objs.size := hsz.symm
  have hm1 : (fun x => List.lookup x (List.reverse ((["self", "comp_select_list"] : List Str).zip [.ref (h.objs.size + 1), kv]))) "self" = some (.ref (h.objs.size + 1)) := by rfl
  have hm2 : (fun x => List.lookup x (List.reverse ((["self", "comp_select_list"] : List Str).zip [.ref (h.objs.size + 1), kv]))) "comp_select_list" = some kv := by rfl
  refine wpAny_execs_cons (plainObj_wpAny_Assign_Attribute (wpAny_Name (wpAny_loadName_local X.kind hl2 hns hm2 (wpAny_Name (wpAny_loadName_local X.kind hl1 hns hm1 ?_) (by decide))) (by decide)))
  have hx1 := hk _ _ hx
  have hdx1 := hk _ _ hdx
  have I : W.InstAt h₁ (h.objs.size + 1) (instObj 45 h.objs.size) 45 (some emptyDict) := ⟨hx1, rfl, rfl, hdx1⟩
  have G3 : Gnd c h₁ := G2.keeps hk
  have neL : h.objs.size ≠ ((h.push emptyDict).push (instObj 45 h.objs.size)).objs.size := by rw [hsz]; omega
  have hF : Fr (((h.push emptyDict).push (instObj 45 h.objs.size)).hide h.objs.size) ((h.push emptyDict).push (instObj 45 h.objs.size)).objs.size h₁ _ := ⟨hns, fun b o e => hk b o (Heap.of_hide e), Nat.le_of_eq (Heap.hide_size _ _)⟩
  have hN : News (((h.push emptyDict).push (instObj 45 h.objs.size)).hide h.objs.size) ((h.push emptyDict).push (instObj 45 h.objs.size)).objs.size h₁ ([] ++ (h.objs.size, emptyDict) :: []) := fun p hp => by
    simp only [List.nil_append, List.mem_cons, List.not_mem_nil, or_false] at hp
    subst hp
    exact ⟨hdx1, neL, Heap.hide_self _ _⟩
  refine W.set_plain (K := c.K) G3.inK I T.sattr ?_
  refine osa_dict (K := c.K) (s := ⟨h₁, g, d, _, os⟩) (es := [⟨PyData.keyHash c.w.params "comp_select_list", .str "comp_select_list" _, kv⟩]) (n := 1) hF hN G3.inK I rfl T.over T.taker T.hasD (by rfl) (by intro p hp; cases hp) (by intro p hp; cases hp) (od' := dictOf [⟨PyData.keyHash c.w.params "comp_select_list", .str "comp_select_list" _, kv⟩] 1) (by rfl) rfl (by simp) fun h' hF' hN' => ?_
  refine wpAny_execs_nil ?_
  have fX : h.get? (h.objs.size + 1) = none := by
    cases e : h.get? (h.objs.size + 1) with
    | none => rfl
    | some o => have := Heap.lt_size e; exact absurd this (by show ¬ (h.objs.size + 1 < h.objs.size); omega)
  have hide_of : ∀ b o, b ≠ h.objs.size → ((h.push emptyDict).push (instObj 45 h.objs.size)).get? b = some o → h'.get? b = some o := fun b o hb e => hF'.keep b o ((Heap.hide_ne _ hb).trans e)
  refine ⟨rfl, ⟨⟨h', _, rfl⟩, fun b o e => hide_of b o (fun q => by rw [q] at e; have := fresh_size h; rw [this] at e; cases e) (kA b o e)⟩, h.objs.size + 1, kv, rfl, ⟨h.objs.size, _, hide_of _ _ (by omega) hx, (hN' _ (.head _)).1, fun dd => ?_, fun dd => ?_, (fun fs e => by cases e), (by rfl), (by rfl)⟩, ?_⟩
  · obtain ⟨o, ho, _⟩ := hD _ dd; have h9 := fX.symm.trans ho; cases h9
  · obtain ⟨o, ho, _⟩ := hD _ dd; have h9 := (fresh_size h).symm.trans ho; cases h9
  · exact RepD.moveS (fun b o _ _ e => hide_of b o (fun q => by rw [q] at e; have h9 := (fresh_size h).symm.trans e; cases h9) (kA b o e)) (fun _ _ n _ => n) rk

theorem Ev.mkTC (T : TCOk c.K) {es : List Expr} {f : Str} {p2 : Pos} (hg : GlobV c sc f (.ref 45)) (ha : EvAll c k sc σ (e :: es) [ks]) (hf : CallG c k (.ref 45) [ks] (aI ks))
    (he : ∀ env, starEach (e :: es) env = (false, eval e env) :: starEach es env := by intro _; rfl)
    (hp : ∀ env pos, (backTo pos (starEach es env)).any (·.1) = false := by intro _ _; rfl) :
    Ev c k sc σ (.Call (.Name f p2) (e :: es) [] pos) (.inst ks) := fun env A D s h0 hA F => by
  refine wpAny_Call_NameR (glob_step hg h0 F ?_)
  refine callWith_K (h₀ := s.heap) F.gnd.inK T.keep (wpAny_mono (ha env A D s pos h0 hA F) (fun vs s₁ h₁ => ⟨(F.keeps h₁.1).gnd.inK, ?_⟩) fun _ _ x => x) (he env) (hp env pos)
  exact wpAny_mono (hf A D s₁ vs hA (F.keeps h₁.1).gnd (F.keeps h₁.1).dirt h₁.2) (fun v s₂ h₂ => ⟨h₁.1.trans h₂.1, h₂.2⟩) fun _ _ x => x
end
end Mine

namespace Mine

section
variable {prog : Program} {w : World} {A : Around} {E : Value → Shared → Prop} {s : Shared}
theorem adjust_upto (b n : Nat) (hb : b ≤ n) : Builtin.Slice.sliceAdjust none (some (b : Int)) 1 (n : Int) = ((0 : Int), (b : Int)) := by
  unfold Builtin.Slice.sliceAdjust
  have h1 : ¬ ((1 : Int) < 0) := by omega
  have h2 : ¬ ((b : Int) < 0) := by omega
  simp only [h1, h2, if_false]
  congr 1
  omega
theorem places_upto (b : Nat) : Builtin.Slice.slicePlaces (0 : Int) (b : Int) 1 = b := by
  unfold Builtin.Slice.slicePlaces
  have h1 : (1 : Int) > 0 := by omega
  simp only [h1, if_true, Int.ediv_one]
  split <;> omega
theorem sliceApplied_upto {sl : Addr} {b n : Nat} {u : Tok} {Q : Int × Int × Nat → Shared → Prop} (hs : s.heap.IsSliceOf sl .none (.int b u) .none) (hb : b ≤ n) (h : Q ((0 : Int), 1, b) s) :
    wpAny (model prog w) A (Builtin.Slice.sliceApplied (.ref sl) (pure (n : Int))) Q E s := by
  obtain ⟨os, hos, hcs, hds⟩ := id hs
  unfold Builtin.Slice.sliceApplied Builtin.Slice.sliceFields
  refine wpAny_bind (wpAny_bind (wpAny_field hos hds (x := .none) rfl (wpAny_bind (wpAny_field hos hds (x := .int b u) rfl (wpAny_bind (wpAny_field hos hds (x := .none) rfl (wpAny_pure ?_)))))))
  refine wpAny_bind (slicePart_none ?_)
  show wpAny _ _ (if ((1 : Int) == 0) = true then _ else _) _ _ s
  rw [if_neg (by decide)]
  refine wpAny_bind (slicePart_none (wpAny_bind (slicePart_int (wpAny_bind (wpAny_pure ?_)))))
  show wpAny _ _ (match Builtin.Slice.sliceAdjust none (some (b : Int)) 1 (n : Int) with | (lo, hi) => pure (lo, (1 : Int), Builtin.Slice.slicePlaces lo hi 1)) _ _ s
  rw [adjust_upto b n hb]
  show wpAny _ _ (pure ((0 : Int), (1 : Int), Builtin.Slice.slicePlaces (0 : Int) (b : Int) 1)) _ _ s
  rw [places_upto]
  exact wpAny_pure h
theorem pick_upto (xs : Array Value) (b : Nat) : ((List.range b).filterMap fun (k : Nat) => xs[((0 : Int) + (k : Int) * 1).toNat]?).toArray = (xs.toList.take b).toArray := by
  have e : (fun (k : Nat) => xs[((0 : Int) + (k : Int) * 1).toNat]?) = fun k => xs[0 + k]? := by
    funext k
    have : ((0 : Int) + (k : Int) * 1).toNat = 0 + k := by omega
    rw [this]
  rw [e]
  have := pick_run xs 0 b
  rw [List.filterMap_map] at this
  have e2 : ((fun x => xs[x]?) ∘ fun x => 0 + x) = fun k => xs[0 + k]? := rfl
  rw [e2] at this
  rw [this]; rfl

theorem getItem_tuple_upto {t sl : Addr} {items : Array Value} {b : Nat} {u : Tok} {Q : Value → Shared → Prop} (ht : IsTup s.heap t items) (hs : s.heap.IsSliceOf sl .none (.int b u) .none) (hb : b < items.size)
    (h : Q (.ref s.heap.objs.size) { s with heap := s.heap.push { cls := .type "tuple", data := .seq (items.toList.take b).toArray } })
    (hsz : items.size ≤ sizeLine := by size_fits) : wpAny (model prog w) A (getItem (.ref t) (.ref sl)) Q E s := by
  have hdrop : sizeOk (.seq (items.toList.take b).toArray) := by
    show (items.toList.take b).toArray.size ≤ sizeLine
    rw [List.size_toArray, List.length_take, Array.length_toList]
    omega
  obtain ⟨os, hos, hcs, hds⟩ := id hs
  have hTs : s.TypeIs (.ref sl) "slice" := ⟨os, hos, hcs⟩
  unfold getItem
  try with_reducible refine wpAny_holding ?_
  first | refine wpAny_bind (wpAny_pure ?_) | skip
  refine wpAny_bind (wpAny_sequenceKey ht.typeIs (by decide) ?_)
  refine wpAny_bind (wpAny_callSpecial?_slot (name := Str.ofString "__getitem__") ht.typeIs slot_tuple_getitem
    (wpAny_call_entry slot_tuple_getitem ht.typeIs entry_tuple_getitem ?_ (args_tuple_getitem _ _)))
  show wpAny _ _ (Builtin.Tuple.tupleItemsOf (.ref t) >>= _) _ _ s
  refine wpAny_bind (tupleItemsOf_ ht ?_)
  refine wpAny_bind (wpAny_typeOf hTs ?_)
  rw [if_pos (by decide)]
  refine wpAny_bind (sliceApplied_upto hs (Nat.le_of_lt hb) ?_)
  have hno : ¬ (((0 : Int) == 0 && (1 : Int) == 1 && b == items.size) = true) := by
    have : (b == items.size) = false := by rw [beq_eq_false_iff_ne]; omega
    rw [this]; simp
  show wpAny _ _ (if ((0 : Int) == 0 && (1 : Int) == 1 && b == items.size) = true then _ else _) _ _ s
  rw [if_neg hno, pick_upto items b]
  first
    | exact wpAny_bind (m := Builtin.Tuple.tupleExact _) (wpAny_newObj_type (wpAny_pure ⟨_, rfl, wpAny_pure h⟩) hdrop)
    | exact wpAny_bind (m := Builtin.Tuple.tupleExact _) (wpAny_newObj_type (wpAny_bind (wpAny_pure (wpAny_pure ⟨_, rfl, wpAny_pure h⟩))) hdrop)
    | exact wpAny_bind (wpAny_bind (m := Builtin.Tuple.tupleExact _) (wpAny_newObj_type (wpAny_pure (wpAny_pure ⟨_, rfl, wpAny_pure h⟩)) hdrop))
    | exact wpAny_bind (wpAny_bind (m := Builtin.Tuple.tupleExact _) (wpAny_newObj_type (wpAny_pure ⟨_, rfl, wpAny_pure h⟩) hdrop))
end

section
variable {c : Cx} {k : Nat} {sc : Scope} {σ : Sg} {l r e x y : Expr} {a b : Int} {pos p2 : Pos} {p q : PyData}
/-- t[:b] -/
theorem Ev.tupTo {xs : List PyData} {hi : Expr} {j : Nat} (hl : Ev c k sc σ e (.dat (.tuple xs))) (hhi : Ev c k sc σ hi (PI b)) (hj : b = (j : Int)) (hb : j < xs.length) (hn : xs.length ≤ 1000)
    : Ev c k sc σ (.Subscript e (.Slice none (some hi) none p2) pos) (.dat (.tuple (xs.take j))) := by
  intro env A D s h0 hA F
  refine Subscript_ (wpAny_mono (hl env A D s h0 hA F) (fun o s₁ h₁ => ?_) fun _ _ x => x)
  obtain ⟨k1, r1⟩ := h₁
  refine wpAny_Slice (wpAny_evalPart_none (wpAny_evalPart_some (wpAny_mono (hhi env A D s₁ h0 hA (F.keeps k1)) (fun v s₂ h₂ => ?_) fun _ _ x => x)))
  obtain ⟨k2, r2⟩ := h₂
  refine wpAny_evalPart_none ?_
  subst hj
  cases r2 with | int _ t2 =>
  have k4 := Kp.push s₂ { cls := .type "slice", data := .fields #[.none, .int (j : Int) t2, .none] }
  have r1 := RepD.keeps (RepD.keeps r1 k2) k4
  cases r1 with | @tuple t vs n _ na hl ra =>
  have hsz : vs.size = xs.length := by have := ra.length; simpa using this
  have k5 := (k1.trans k2).trans k4
  refine tail_any (prog := c.prog) (w := c.w) (T := "tuple") (id := "tuple.__getitem__") (s := { s₂ with heap := s₂.heap.push { cls := .type "slice", data := .fields #[.none, .int (j : Int) t2, .none] } }) ⟨_, hl, rfl⟩ slot_tuple_getitem.lookup
    (getItem_tuple_upto ⟨_, hl, rfl, n, rfl⟩ (Heap.IsSliceOf.new ..) (by omega) ?_ (szL (by omega))) rfl
  exact ⟨k5.trans (.push _ _), .tuple (notD (F.keeps k5).exi) (IsT.new _ _) (RepAll.keeps (by simpa using ra.take j) (.push _ _))⟩
/-- t[a:] -/
theorem Ev.tupFrom {xs : List PyData} {lo : Expr} {j : Nat} (hl : Ev c k sc σ e (.dat (.tuple xs))) (hlo : Ev c k sc σ lo (PI a)) (hj : a = (j : Int)) (h1 : 1 ≤ j) (hb : j ≤ xs.length) (hn : xs.length ≤ 1000)
    : Ev c k sc σ (.Subscript e (.Slice (some lo) none none p2) pos) (.dat (.tuple (xs.drop j))) := by
  intro env A D s h0 hA F
  refine Subscript_ (wpAny_mono (hl env A D s h0 hA F) (fun o s₁ h₁ => ?_) fun _ _ x => x)
  obtain ⟨k1, r1⟩ := h₁
  refine wpAny_Slice (wpAny_evalPart_some (wpAny_mono (hlo env A D s₁ h0 hA (F.keeps k1)) (fun v s₂ h₂ => ?_) fun _ _ x => x))
  obtain ⟨k2, r2⟩ := h₂
  refine wpAny_evalPart_none (wpAny_evalPart_none ?_)
  subst hj
  cases r2 with | int _ t2 =>
  have k4 := Kp.push s₂ { cls := .type "slice", data := .fields #[.int (j : Int) t2, .none, .none] }
  have r1 := RepD.keeps (RepD.keeps r1 k2) k4
  cases r1 with | @tuple t vs n _ na hl ra =>
  have hsz : vs.size = xs.length := by have := ra.length; simpa using this
  have k5 := (k1.trans k2).trans k4
  refine tail_any (prog := c.prog) (w := c.w) (T := "tuple") (id := "tuple.__getitem__") (s := { s₂ with heap := s₂.heap.push { cls := .type "slice", data := .fields #[.int (j : Int) t2, .none, .none] } }) ⟨_, hl, rfl⟩ slot_tuple_getitem.lookup
    (getItem_tuple_from ⟨_, hl, rfl, n, rfl⟩ (Heap.IsSliceOf.new ..) h1 (by omega) ?_ (szL (by omega))) rfl
  exact ⟨k5.trans (.push _ _), .tuple (notD (F.keeps k5).exi) (IsT.new _ _) (RepAll.keeps (by simpa using ra.drop j) (.push _ _))⟩
end
end Mine

namespace Mine

def nth : List Stmt → Nat → Stmt
  | [], _ => .Pass ⟨0, 0, 0, 0⟩
  | a :: _, 0 => a
  | _ :: r, n + 1 => nth r n
def bodyOf : Stmt → List Stmt
  | .FunctionDef (body := b) .. => b
  | .ClassDef (body := b) .. => b
  | _ => []
def scopeOf : Stmt → Scope
  | .FunctionDef (scope := s) .. => s
  | _ => { kind := .function, names := [], isGenerator := false, isCoroutine := false }
def forBody : Stmt → List Stmt
  | .For (body := b) .. => b
  | _ => []
def whTest : Stmt → Expr
  | .While (test := t) .. => t
  | _ => .Constant .none 0 ⟨0, 0, 0, 0⟩
def whBody : Stmt → List Stmt
  | .While (body := b) .. => b
  | _ => []
def whElse : Stmt → List Stmt
  | .While (orelse := b) .. => b
  | _ => []
def top (i : Nat) : Stmt := nth PySem.Challenge.pw_rw0008_01.main.body i
def sGen := top 1
def sInit := nth (bodyOf (top 3)) 0
def sCmp := nth (bodyOf (top 3)) 1
def sWord := top 5
def sTop := top 6
def sChain := top 7
def sLocal := top 8
def sWalk := top 9
def sLaw := top 10

/-- the text's globals and what they are -/
structure GlOk (c : Cx) : Prop where
  gen : c.gl "_generate_overlap_table" = some (.ref 21)
  tc : c.gl "TupleComp" = some (.ref 45)
  word : c.gl "_law_word" = some (.ref 54)
  top : c.gl "_law_top" = some (.ref 59)
  chain : c.gl "_law_chain" = some (.ref 64)
  loc : c.gl "_law_local" = some (.ref 71)
  walk : c.gl "_law_walk" = some (.ref 76)
  len : c.gl "len" = none
  sum : c.gl "sum" = none
  max : c.gl "max" = none
  min : c.gl "min" = none
  abs : c.gl "abs" = none
  range : c.gl "range" = none
  tuple : c.gl "tuple" = none
  list : c.gl "list" = none
  int : c.gl "int" = none
  bool : c.gl "bool" = none
  isinstance : c.gl "isinstance" = none

theorem glob_b {c : Cx} {sc : Scope} {x : Str} {fv : Value} (h : sc.names.lookup x = some .globalImplicit) (hd : (x == ("__debug__" : Str)) = false) (hg : c.gl x = none) (hn : (x == ("__name__" : Str)) = false) (hb : bootBuiltins x = some fv) : GlobV c sc x fv :=
  ⟨h, hd, .inr ⟨hg, by simpa using hn, hb⟩⟩
theorem glob_g {c : Cx} {sc : Scope} {x : Str} {fv : Value} (h : sc.names.lookup x = some .globalImplicit) (hd : (x == ("__debug__" : Str)) = false) (hg : c.gl x = some fv) : GlobV c sc x fv :=
  ⟨h, hd, .inl hg⟩
theorem bb_len : bootBuiltins "len" = some (.builtin "len") := boot_len
theorem bb_sum : bootBuiltins "sum" = some (.builtin "sum") := boot_sum
theorem bb_max : bootBuiltins "max" = some (.builtin "max") := boot_max
theorem bb_min : bootBuiltins "min" = some (.builtin "min") := boot_min
theorem bb_abs : bootBuiltins "abs" = some (.builtin "abs") := boot_abs
theorem bb_range : bootBuiltins "range" = some (.type "range") := boot_range
theorem bb_tuple : bootBuiltins "tuple" = some (.type "tuple") := PyProof.Rows.boot_tuple
theorem bb_list : bootBuiltins "list" = some (.type "list") := PyProof.Rows.boot_list
theorem bb_int : bootBuiltins "int" = some (.type "int") := PyProof.Rows.boot_int
theorem bb_bool : bootBuiltins "bool" = some (.type "bool") := PyProof.Rows.boot_bool
theorem bb_isinstance : bootBuiltins "isinstance" = some (.builtin "isinstance") := boot_isinstance

section
variable {c : Cx} {k : Nat} {σ : Sg} {e : Expr} {p2 pos : Pos} {sc : Scope}
/-- len(e) -/
theorem Ev.len (g : GlOk c) {xs : List PyData} (h : Ev c k sc σ e (.dat (.list xs))) (hn : xs.length ≤ 1000) (hl : sc.names.lookup ("len" : Str) = some .globalImplicit)
    (he : ∀ env pos, backTo pos (starEach [e] env) = (false, eval e env) :: backTo pos (starEach [] env) := by intro _ _; rfl) :
    Ev c k sc σ (.Call (.Name "len" p2) [e] [] pos) (PI xs.length) :=
  Ev.call (glob_b hl rfl g.len rfl bb_len) trivial (.cons h .nil he) (cg_len hn) he
end

end Mine

namespace Mine

/-! borders of the first m letters of g -/
def Bd (g : Nat → Int) (m k : Nat) : Prop := k < m ∧ ∀ i, i < k → g i = g (m - k + i)
def bd (g : Nat → Int) (m k : Nat) : Bool := (List.range k).all fun i => g i == g (m - k + i)
def lbF (g : Nat → Int) (m : Nat) : Nat → Nat
  | 0 => 0
  | k + 1 => if bd g m (k + 1) then k + 1 else lbF g m k
/-- the longest proper border -/
def lb (g : Nat → Int) (m : Nat) : Nat := lbF g m (m - 1)

theorem bd_iff {g : Nat → Int} {m k : Nat} (h : k < m) : bd g m k = true ↔ Bd g m k := by
  unfold bd Bd
  rw [List.all_eq_true]
  constructor
  · intro x; exact ⟨h, fun i hi => by simpa using x i (List.mem_range.mpr hi)⟩
  · rintro ⟨_, x⟩ i hi; simpa using x i (List.mem_range.mp hi)

theorem lbF_spec {g : Nat → Int} {m : Nat} : ∀ k, k < m → Bd g m (lbF g m k) ∧ lbF g m k ≤ k ∧ ∀ b, b ≤ k → Bd g m b → b ≤ lbF g m k
  | 0, h => ⟨⟨h, fun i hi => absurd hi (Nat.not_lt_zero _)⟩, Nat.le_refl _, fun b hb _ => hb⟩
  | k + 1, h => by
    obtain ⟨h1, h2, h3⟩ := lbF_spec (g := g) (m := m) k (by omega)
    unfold lbF
    by_cases hb : bd g m (k + 1) = true
    · rw [if_pos hb]; exact ⟨(bd_iff h).mp hb, Nat.le_refl _, fun b hb _ => hb⟩
    · rw [if_neg hb]
      refine ⟨h1, by omega, fun b hb' x => ?_⟩
      rcases Nat.lt_or_ge b (k + 1) with q | q
      · exact h3 b (by omega) x
      · have : b = k + 1 := by omega
        subst this
        exact absurd ((bd_iff h).mpr x) hb
theorem lb_bd {g : Nat → Int} {m : Nat} (h : 0 < m) : Bd g m (lb g m) := (lbF_spec (m - 1) (by omega)).1
theorem lb_lt {g : Nat → Int} {m : Nat} (h : 0 < m) : lb g m < m := (lb_bd h).1
theorem lb_max {g : Nat → Int} {m b : Nat} (h : Bd g m b) : b ≤ lb g m := by
  have := h.1
  exact (lbF_spec (g := g) (m := m) (m - 1) (by omega)).2.2 b (by omega) h
theorem lb_uniq {g : Nat → Int} {m b : Nat} (h : Bd g m b) (h' : ∀ c, Bd g m c → c ≤ b) : lb g m = b := by
  have h1 := lb_max h
  have h2 := h' _ (lb_bd (g := g) (m := m) (by have := h.1; omega))
  omega
theorem bd_succ {g : Nat → Int} {i b : Nat} : Bd g (i + 1) (b + 1) ↔ Bd g i b ∧ g b = g i := by
  unfold Bd
  constructor
  · rintro ⟨h1, h2⟩
    refine ⟨⟨by omega, fun j hj => ?_⟩, ?_⟩
    · have := h2 j (by omega); rwa [show i + 1 - (b + 1) + j = i - b + j by omega] at this
    · have := h2 b (by omega); rwa [show i + 1 - (b + 1) + b = i by omega] at this
  · rintro ⟨⟨h1, h2⟩, h3⟩
    refine ⟨by omega, fun j hj => ?_⟩
    rcases Nat.lt_or_ge j b with q | q
    · rw [show i + 1 - (b + 1) + j = i - b + j by omega]; exact h2 j q
    · have : j = b := by omega
      subst this
      rw [show i + 1 - (j + 1) + j = i by omega]; exact h3
theorem bd_down {g : Nat → Int} {i b b' : Nat} (h : Bd g i b') (h' : Bd g i b) (hlt : b < b') : Bd g b' b := by
  refine ⟨hlt, fun j hj => ?_⟩
  have h1 := h'.2 j hj
  have h2 := h.2 (b' - b + j) (by omega)
  have := h.1
  rw [show i - b' + (b' - b + j) = i - b + j by omega] at h2
  rw [h1, h2]
theorem bd_up {g : Nat → Int} {i b b' : Nat} (h : Bd g i b') (h' : Bd g b' b) : Bd g i b := by
  have hlt := h'.1
  have hl := h.1
  refine ⟨by omega, fun j hj => ?_⟩
  have h1 := h'.2 j hj
  have h2 := h.2 (b' - b + j) (by omega)
  rw [show i - b' + (b' - b + j) = i - b + j by omega] at h2
  rw [h1, h2]
theorem lb_one {g : Nat → Int} : lb g 1 = 0 := by have := lb_lt (g := g) (m := 1) (by omega); omega

/-- the letters of w -/
abbrev gg (w : List Int) : Nat → Int := fun i => w.getD i 0
/-- the overlap table -/
def kmp (w : List Int) : List Int := (List.range w.length).map fun i => (lb (gg w) (i + 1) : Int)
theorem kmp_length (w : List Int) : (kmp w).length = w.length := by simp [kmp]
/-- the table when i places are filled -/
def tabAt (w : List Int) (i : Nat) : List Int := (List.range w.length).map fun j => if j < i then (lb (gg w) (j + 1) : Int) else 0
theorem tabAt_length (w : List Int) (i : Nat) : (tabAt w i).length = w.length := by simp [tabAt]
theorem tabAt_get (w : List Int) {i j : Nat} (hj : j < w.length) (h : j < i) : (tabAt w i)[j]? = some (lb (gg w) (j + 1) : Int) := by
  simp [tabAt, hj, h]
theorem tabAt_one (w : List Int) : tabAt w 1 = List.replicate w.length 0 := by
  apply List.ext_getElem?
  intro i
  rw [List.getElem?_replicate]
  by_cases h : i < w.length
  · simp only [tabAt, List.getElem?_map, List.getElem?_range h, Option.map_some, if_pos h]
    by_cases h0 : i < 1
    · have : i = 0 := by omega
      subst this
      simp [lb_one]
    · simp [h0]
  · rw [if_neg h]; simp [tabAt]; omega
theorem tabAt_end (w : List Int) : tabAt w w.length = kmp w := by
  unfold tabAt kmp
  apply List.map_congr_left
  intro j hj
  rw [if_pos (List.mem_range.mp hj)]
theorem tabAt_zero (w : List Int) (h : w.length = 0) : List.replicate w.length 0 = kmp w := by simp [kmp, h]
theorem tabAt_set (w : List Int) {i : Nat} (hi : i < w.length) {v : Int} (hv : v = (lb (gg w) (i + 1) : Int)) : (tabAt w i).set i v = tabAt w (i + 1) := by
  apply List.ext_getElem?
  intro j
  rw [List.getElem?_set]
  by_cases h : i = j
  · subst h
    simp [tabAt, hi, hv]
  · rw [if_neg h]
    by_cases hj : j < w.length
    · simp only [tabAt, List.getElem?_map, List.getElem?_range hj, Option.map_some]
      congr 1
      by_cases h2 : j < i
      · rw [if_pos h2, if_pos (by omega)]
      · rw [if_neg h2, if_neg (by omega)]
    · rw [List.getElem?_eq_none (by rw [tabAt_length]; omega), List.getElem?_eq_none (by rw [tabAt_length]; omega)]
end Mine

namespace Mine

def SubS (σ : Sg) : Sg → Prop
  | [] => True
  | (y, p) :: r => σ.lookup y = some p ∧ SubS σ r
theorem SubS.le {σ : Sg} : ∀ {σ' : Sg}, SubS σ σ' → Le σ' σ
  | [], _, y, pv, e => by simp at e
  | (z, p) :: r, h, y, pv, e => by
    rw [List.lookup_cons] at e
    cases hb : y == z with
    | true => rw [hb] at e; cases e; rw [beq_iff_eq.mp hb]; exact h.1
    | false => rw [hb] at e; exact SubS.le h.2 y pv e

theorem getI {w : List Int} {i : Nat} (h : i < w.length) : (w.map PyData.int)[i]? = some (.int (w.getD i 0)) := by
  rw [List.getElem?_map, List.getElem?_eq_getElem h]
  simp [List.getD, List.getElem?_eq_getElem h]
theorem getI' {w : List Int} {i : Nat} {a : Int} (h : w[i]? = some a) : (w.map PyData.int)[i]? = some (.int a) := by
  rw [List.getElem?_map, h]; rfl
theorem rng_nil (a : Int) : rng a 0 = [] := rfl

theorem Ev.cast {c : Cx} {k : Nat} {sc : Scope} {σ : Sg} {e : Expr} {p q : PV} (h : Ev c k sc σ e p) (hq : p = q) : Ev c k sc σ e q := hq ▸ h
theorem Ev.castI {c : Cx} {k : Nat} {sc : Scope} {σ : Sg} {e : Expr} {a b : Int} (h : Ev c k sc σ e (PI a)) (hq : a = b) : Ev c k sc σ e (PI b) := hq ▸ h
theorem Ev.lenI {c : Cx} {k : Nat} {sc : Scope} {σ : Sg} {e : Expr} {p2 pos : Pos} (g : GlOk c) {xs : List Int} (h : Ev c k sc σ e (.dat (dI xs))) (hn : xs.length ≤ 1000) (hl : sc.names.lookup ("len" : Str) = some .globalImplicit)
    (he : ∀ env pos, backTo pos (starEach [e] env) = (false, eval e env) :: backTo pos (starEach [] env) := by intro _ _; rfl) :
    Ev c k sc σ (.Call (.Name "len" p2) [e] [] pos) (PI xs.length) := (Ev.len g h (by simpa using hn) hl he).castI (by simp)

section
variable {c : Cx} {k : Nat} (w : List Int) (hw : w.length ≤ 300)

/-- the names between the turns -/
def genS (w : List Int) (i : Nat) : Sg := [("table", .own ((tabAt w i).map .int)), ("prefix", .dat (dI w))]

theorem gen_body (hw : w.length ≤ 300) (Q : Fl → Sg → Prop)
    (i : Nat) (h1 : 1 ≤ i) (hi : i < w.length) (hq : ∀ σ, SubS σ (genS w (i + 1)) → Q .nxt σ) : Wp c k (scopeOf sGen) (forBody (nth (bodyOf sGen) 1)) (("i", PI i) :: genS w i) Q := by
  -- idx = table[i - 1]
  have tb : ∀ j, j < i → (((tabAt w i).map PyData.int)[j]? = some (.int (lb (gg w) (j + 1) : Int))) := fun j hj => getI' (tabAt_get w (by omega) hj)
  have tl : ((tabAt w i).map PyData.int).length ≤ 1000 := by simp [tabAt_length]; omega
  have wl : (w.map PyData.int).length ≤ 1000 := by simp; omega
  refine Wp.cons (Wp1.assign (d := .int (lb (gg w) i : Int)) (Ev.freeze (x := "table") (xs := (tabAt w i).map .int) [("i", .int i)] rfl ⟨rfl, trivial⟩ (Ev.item (i - 1) (Ev.var rfl) ((Ev.sub (Ev.var (pv := PI i) rfl) (.int (i := 1))).castI (b := ((i - 1 : Nat) : Int)) (by omega)) rfl ((tb (i - 1) (by omega)).trans (by rw [show i - 1 + 1 = i by omega])) tl)) ⟨.inl rfl, rfl⟩ ?_)
  refine Wp.cons ?_
  -- the while
  have main : ∀ (n idx : Nat) (σ : Sg), idx < n → Bd (gg w) i idx → (∀ b, Bd (gg w) i b → gg w b = gg w i → b ≤ idx) → SubS σ [("idx", PI idx), ("i", PI i), ("table", .own ((tabAt w i).map .int)), ("prefix", .dat (dI w))] →
      WpWhile c k (scopeOf sGen) (whTest (nth (forBody (nth (bodyOf sGen) 1)) 1)) (whBody (nth (forBody (nth (bodyOf sGen) 1)) 1)) (whElse (nth (forBody (nth (bodyOf sGen) 1)) 1)) (seqQ c k (scopeOf sGen) [] Q) n σ := by
    intro n
    induction n with
    | zero => intro idx σ h; omega
    | succ n ih =>
      intro idx σ hn hbd hmax hs
      have hv := hs.le
      have vI : σ.lookup ("i" : Str) = some (PI i) := hv _ _ rfl
      have vX : σ.lookup ("idx" : Str) = some (PI idx) := hv _ _ rfl
      have vT : σ.lookup ("table" : Str) = some (.own ((tabAt w i).map .int)) := hv _ _ rfl
      have vP : σ.lookup ("prefix" : Str) = some (.dat (dI w)) := hv _ _ rfl
      have hlt := hbd.1
      refine ⟨_, EvB.cmp (Ev.item i (Ev.var vP) (Ev.var vI) rfl (getI hi) wl) (Ev.item idx (Ev.var vP) (Ev.var vX) rfl (getI (by omega)) wl) CmpGives.neI, fun hne => ?_, fun heq => ?_⟩
      · have hne' : ¬ (gg w i = gg w idx) := by simpa using hne
        -- if idx == 0
        refine Wp.cons (Wp1.ite (EvB.cmp (Ev.var vX) .int CmpGives.eqI) (fun h0 => ?_) fun h0 => ?_)
        · have h0' : idx = 0 := by simpa using h0
          subst h0'
          refine Wp.cons (Wp1.setitem i vT .int (Ev.var vI) rfl (by simp [tabAt_length]; omega) tl ?_)
          refine Wp.cons (Wp1.brk ?_)
          refine Wp.nil (hq _ ⟨?_, hv _ _ rfl, trivial⟩)
          show some _ = some _
          congr 2
          rw [← List.map_set]
          congr 1
          refine tabAt_set w hi ?_
          have := lb_uniq (g := gg w) (m := i + 1) (b := 0) ⟨by omega, fun j hj => absurd hj (by omega)⟩ (fun b hb => by
            cases b with
            | zero => exact Nat.le_refl _
            | succ b =>
              obtain ⟨q1, q2⟩ := bd_succ.mp hb
              have := hmax b q1 q2
              have : b = 0 := by omega
              subst this
              exact absurd q2.symm hne')
          rw [this]; rfl
        · have h0' : idx ≠ 0 := by simpa using h0
          refine Wp.nil ?_
          refine Wp.cons (Wp1.assign (d := .int (lb (gg w) idx : Int)) (Ev.freeze (x := "table") (xs := (tabAt w i).map .int) [("idx", .int idx)] vT ⟨vX, trivial⟩ (Ev.item (idx - 1) (Ev.var rfl) ((Ev.sub (Ev.var (pv := PI idx) rfl) (.int (i := 1))).castI (b := ((idx - 1 : Nat) : Int)) (by omega)) rfl ((tb (idx - 1) (by omega)).trans (by rw [show idx - 1 + 1 = idx by omega])) tl)) ⟨.inl rfl, rfl⟩ ?_)
          refine Wp.nil ?_
          have hll := lb_lt (g := gg w) (m := idx) (by omega)
          refine ih (lb (gg w) idx) _ (by omega) (bd_up hbd (lb_bd (by omega))) (fun b q1 q2 => ?_) ⟨rfl, vI, vT, vP, trivial⟩
          have hb1 := hmax b q1 q2
          have hb2 : b ≠ idx := fun q => hne' (by rw [← q2, q])
          exact lb_max (bd_down hbd q1 (by omega))
      · have heq' : gg w i = gg w idx := by simpa using heq
        refine Wp.cons (Wp1.setitem i vT (Ev.add (Ev.var vX) .int) (Ev.var vI) rfl (by simp [tabAt_length]; omega) tl ?_)
        refine Wp.nil (Wp.nil (hq _ ⟨?_, hv _ _ rfl, trivial⟩))
        show some _ = some _
        congr 2
        rw [← List.map_set]
        congr 1
        refine tabAt_set w hi ?_
        have := lb_uniq (g := gg w) (m := i + 1) (b := idx + 1) (bd_succ.mpr ⟨hbd, heq'.symm⟩) (fun b hb => by
          cases b with
          | zero => omega
          | succ b =>
            obtain ⟨q1, q2⟩ := bd_succ.mp hb
            have := hmax b q1 q2
            omega)
        rw [this]; rfl
  exact Wp1.while (lb (gg w) i + 1) (main (lb (gg w) i + 1) (lb (gg w) i) _ (by omega) (lb_bd (by omega)) (fun b q1 _ => lb_max q1) ⟨rfl, rfl, rfl, rfl, trivial⟩)

theorem gen_wp (g : GlOk c) (w : List Int) (hw : w.length ≤ 300) (h0 : 1 ≤ w.length) : Wp c k (scopeOf sGen) (bodyOf sGen) [("prefix", .dat (dI w))] (fun fl _ => fl = .ret (.own ((kmp w).map .int))) := by
  refine Wp.cons (Wp1.assignF (is := List.replicate w.length 0) (EvF.rep (i := 0) (x := w.length) (n := w.length) (EvF.ev (EvF.list (is := [0]) (.cons .int .nil))) (Ev.lenI g (Ev.var rfl) (by omega) rfl) rfl (by omega)) ⟨.inl rfl, rfl⟩ ?_)
  refine Wp.cons (Wp1.for1 (ds := rng 1 (w.length - 1)) ⟨.inl rfl, rfl⟩ (EvI.range2 (a := 1) (b := w.length) (glob_b rfl rfl g.range rfl bb_range) .int (Ev.lenI g (Ev.var rfl) (by omega) rfl) (by decide) (by omega) (by omega)) ?_)
  have main : ∀ (m i : Nat) (σ : Sg), i + m = w.length → 1 ≤ i → SubS σ (genS w i) → WpFor c k (scopeOf sGen) (forBody (nth (bodyOf sGen) 1)) (fun d σ => ("i", .dat d) :: σ) (seqQ c k (scopeOf sGen) [nth (bodyOf sGen) 2] (fun fl _ => fl = .ret (.own ((kmp w).map .int)))) (rng i m) σ := by
    intro m
    induction m with
    | zero =>
      intro i σ hi _ hs
      have : i = w.length := by omega
      subst this
      have vT := hs.le ("table" : Str) _ rfl
      refine Wp.cons (Wp1.retOwn vT ?_)
      show Fl.ret _ = Fl.ret _
      rw [tabAt_end]
    | succ m ih =>
      intro i σ hi h1 hs
      rw [range_cons]
      refine Wp.weaken (("i", PI i) :: genS w i) (gen_body w hw _ i h1 (by omega) fun σ' hs' => ?_) ?_
      · have := ih (i + 1) σ' (by omega) (by omega) hs'
        rw [show (((i + 1 : Nat) : Int)) = (i : Int) + 1 by omega] at this
        exact this
      · exact SubS.le ⟨rfl, hs.1, hs.2.1, trivial⟩
  have := main (w.length - 1) 1 (("table", .own ((List.replicate w.length 0).map .int)) :: [("prefix", .dat (dI w))]) (by omega) (by omega) ⟨by rw [tabAt_one]; rfl, rfl, trivial⟩
  exact this
end
end Mine

namespace Mine

/-- what compare answers -/
def cmpT (ls rs : List Int) : List (Nat × Int) → Int
  | [] => 0
  | (i, d) :: r => if ls.getD i 0 < rs.getD i 0 then -d else if ls.getD i 0 > rs.getD i 0 then d else cmpT ls rs r
def keyD (p : Nat × Int) : PyData := .tuple [.int p.1, .int p.2]
def keysD (ks : List (Nat × Int)) : PyData := .list (ks.map keyD)

section
variable {c : Cx} {k : Nat}
def cmpS (ls rs : List Int) (ks : List (Nat × Int)) : Sg := [("self", .inst (keysD ks)), ("left", .dat (tI ls)), ("right", .dat (tI rs))]

theorem cmp_wp (T : TCOk c.K) (ls rs : List Int) (ks : List (Nat × Int)) (h1 : ∀ p ∈ ks, p.1 < ls.length) (h2 : ∀ p ∈ ks, p.1 < rs.length) (n1 : ls.length ≤ 1000) (n2 : rs.length ≤ 1000) :
    Wp c k (scopeOf sCmp) (bodyOf sCmp) (cmpS ls rs ks) (fun fl _ => fl = .ret (PI (cmpT ls rs ks))) := by
  refine Wp.cons (Wp1.for2 ⟨.inl rfl, rfl⟩ ⟨.inl rfl, rfl⟩ (EvI.list (Ev.csl T (xs := ks.map keyD) (Ev.var rfl))) (fun d hd => by obtain ⟨p, _, rfl⟩ := List.mem_map.mp hd; exact ⟨_, _, rfl⟩) ?_)
  have main : ∀ (qs : List (Nat × Int)) (σ : Sg), (∀ p ∈ qs, p ∈ ks) → cmpT ls rs qs = cmpT ls rs ks → SubS σ (cmpS ls rs ks) →
      WpFor c k (scopeOf sCmp) (forBody (nth (bodyOf sCmp) 0)) (fun d σ => match d with | .tuple [a, b] => ("direction", .dat b) :: ("index", .dat a) :: σ | _ => σ) (seqQ c k (scopeOf sCmp) [nth (bodyOf sCmp) 1] (fun fl _ => fl = .ret (PI (cmpT ls rs ks)))) (qs.map keyD) σ := by
    intro qs
    induction qs with
    | nil =>
      intro σ _ he hs
      refine Wp.cons (Wp1.ret (d := .int 0) .int ?_)
      show Fl.ret _ = Fl.ret _
      rw [← he]; rfl
    | cons p qs ih =>
      obtain ⟨i, d⟩ := p
      intro σ hm he hs
      have hp := hm (i, d) (.head _)
      have l1 : i < ls.length := h1 _ hp
      have l2 : i < rs.length := h2 _ hp
      have vL : σ.lookup ("left" : Str) = some (.dat (tI ls)) := hs.le _ _ rfl
      have vR : σ.lookup ("right" : Str) = some (.dat (tI rs)) := hs.le _ _ rfl
      refine Wp.cons (Wp1.assign (d := .int (ls.getD i 0)) (Ev.itemT (xs := ls.map .int) (i := i) i (Ev.var vL) (Ev.var rfl) rfl (getI l1) (by simpa using n1)) ⟨.inl rfl, rfl⟩ ?_)
      refine Wp.cons (Wp1.assign (d := .int (rs.getD i 0)) (Ev.itemT (xs := rs.map .int) (i := i) i (Ev.var vR) (Ev.var rfl) rfl (getI l2) (by simpa using n2)) ⟨.inl rfl, rfl⟩ ?_)
      have e : cmpT ls rs ((i, d) :: qs) = if ls.getD i 0 < rs.getD i 0 then -d else if ls.getD i 0 > rs.getD i 0 then d else cmpT ls rs qs := rfl
      rw [e] at he
      refine Wp.cons (Wp1.ite (EvB.cmp (Ev.var (pv := PI (ls.getD i 0)) rfl) (Ev.var (pv := PI (rs.getD i 0)) rfl) CmpGives.lt) (fun ht => ?_) fun hf => ?_)
      · have ht := of_decide_eq_true ht
        refine Wp.cons (Wp1.ret (d := .int (-d)) (Ev.neg (Ev.var (pv := PI d) rfl)) ?_)
        show Fl.ret _ = Fl.ret _
        rw [← he, if_pos ht]
      · have hf := of_decide_eq_false hf
        rw [if_neg hf] at he
        refine Wp.nil (Wp.cons (Wp1.ite (EvB.cmp (Ev.var (pv := PI (ls.getD i 0)) rfl) (Ev.var (pv := PI (rs.getD i 0)) rfl) CmpGives.gt) (fun ht => ?_) fun hf => ?_))
        · have ht := of_decide_eq_true ht
          refine Wp.cons (Wp1.ret (d := .int d) (Ev.var (pv := PI d) rfl) ?_)
          show Fl.ret _ = Fl.ret _
          rw [← he, if_pos ht]
        · have hf := of_decide_eq_false hf
          rw [if_neg hf] at he
          refine Wp.nil (Wp.nil (ih _ (fun p hp => hm p (.tail _ hp)) he ⟨hs.1, vL, vR, trivial⟩))
  exact main ks _ (fun _ h => h) rfl ⟨rfl, rfl, rfl, trivial⟩
end
end Mine

namespace Mine

section
variable {P : PyData → Option PyData → Prop}
theorem comp_fm {α : Type} (g : α → PyData) (f : α → Option PyData) : ∀ {xs : List α}, (∀ x ∈ xs, P (g x) (f x)) → CompAll P (xs.map g) (xs.filterMap f)
  | [], _ => .nil
  | x :: xs, h => by
    have h1 := h x (.head _)
    have h2 := comp_fm g f (xs := xs) fun y hy => h y (.tail _ hy)
    rw [List.map_cons]
    cases e : f x with
    | none => rw [List.filterMap_cons_none e]; rw [e] at h1; exact .skip h1 h2
    | some z => rw [List.filterMap_cons_some e]; rw [e] at h1; exact .take h1 h2
theorem comp_map {α : Type} (g f : α → PyData) : ∀ {xs : List α}, (∀ x ∈ xs, P (g x) (some (f x))) → CompAll P (xs.map g) (xs.map f)
  | [], _ => .nil
  | x :: xs, h => .take (h x (.head _)) (comp_map g f fun y hy => h y (.tail _ hy))
end
theorem mulOkL {a b : Int} (h : a.natAbs ≤ 1000) : IntMulOk a b := .of_left (intBits_le_64 (by omega) (by omega))
theorem mulOkR {a b : Int} (h : b.natAbs ≤ 1000) : IntMulOk a b := .of_right (intBits_le_64 (by omega) (by omega))
theorem int_cast_mod (n : Nat) (m : Nat) (hm : 0 < m) : ((n : Int)).fmod (m : Int) = ((n % m : Nat) : Int) := by
  rw [Int.fmod_eq_emod_of_nonneg _ (by omega)]; rfl

def sizeW (nums : List Int) : Nat := 3 + nums.length % 4
def laidL : List Int := [0, 1, 0, 0, 1, 0]
def kindL : List Int := [0, 2, 3, 2]
def kindW (nums : List Int) : Int := kindL.getD (nums.sum.fmod 4).toNat 0
def rawW (nums : List Int) : List Int := (List.range (sizeW nums)).map fun k => laidL.getD k 0 + (strideZ (k : Nat) (sizeW nums : Nat) nums).sum
def wordW (nums : List Int) : List Int := if kindW nums = 0 then rawW nums else (rawW nums).map fun a => a.fmod (kindW nums)
theorem sizeW_le (nums : List Int) : 3 ≤ sizeW nums ∧ sizeW nums ≤ 6 := by unfold sizeW; omega
theorem rawW_length (nums : List Int) : (rawW nums).length = sizeW nums := by simp [rawW]
theorem wordW_length (nums : List Int) : (wordW nums).length = sizeW nums := by unfold wordW; split <;> simp [rawW]

section
variable {c : Cx} {k : Nat}
theorem Ev.sumI {sc : Scope} {σ : Sg} {e : Expr} {p2 pos : Pos} (g : GlOk c) {xs : List Int} (h : Ev c k sc σ e (.dat (dI xs))) (hl : sc.names.lookup ("sum" : Str) = some .globalImplicit)
    (he : ∀ env pos, backTo pos (starEach [e] env) = (false, eval e env) :: backTo pos (starEach [] env) := by intro _ _; rfl) :
    Ev c k sc σ (.Call (.Name "sum" p2) [e] [] pos) (PI xs.sum) := Ev.call (glob_b hl rfl g.sum rfl bb_sum) trivial (.cons h .nil he) cg_sum he

theorem word_wp (g : GlOk c) (nums : List Int) (hn : nums.length ≤ 300) :
    Wp c k (scopeOf sWord) (bodyOf sWord) [("nums", .dat (dI nums))] (fun fl _ => fl = .ret (.dat (dI (wordW nums)))) := by
  obtain ⟨s1, s2⟩ := sizeW_le nums
  have hs4 : 0 ≤ nums.sum.fmod 4 ∧ nums.sum.fmod 4 < 4 := by rw [Int.fmod_eq_emod_of_nonneg _ (by omega)]; omega
  refine Wp.cons (Wp1.assign (d := .int (sizeW nums : Nat)) ((Ev.add (.int (i := 3)) (Ev.mod (Ev.lenI g (Ev.var rfl) (by omega) rfl) (.int (i := 4)) (by decide))).castI (by unfold sizeW; rw [show (4 : Int) = ((4 : Nat) : Int) from rfl, int_cast_mod _ _ (by omega)]; omega)) ⟨.inr rfl, rfl⟩ ?_)
  refine Wp.cons (Wp1.assign (d := tI laidL) (Ev.tuple (ds := laidL.map .int) (.cons .int (.cons .int (.cons .int (.cons .int (.cons .int (.cons .int .nil))))))) ⟨.inr rfl, rfl⟩ ?_)
  refine Wp.cons (Wp1.assign (d := .int (kindW nums)) (Ev.itemT (xs := kindL.map .int) (nums.sum.fmod 4).toNat (Ev.tuple (ds := kindL.map .int) (.cons .int (.cons .int (.cons .int (.cons .int .nil))))) (Ev.mod (Ev.sumI g (Ev.var rfl) rfl) (.int (i := 4)) (by decide)) (by omega) (getI (by show _ < 4; omega)) (by decide)) ⟨.inr rfl, rfl⟩ ?_)
  refine Wp.cons (Wp1.assignComp [("nums", .dat (dI nums)), ("size", PI (sizeW nums : Nat)), ("laid", .dat (tI laidL))] (rng 0 (sizeW nums)) ((rawW nums).map .int) rfl ⟨⟨rfl, rfl, rfl⟩, ⟨rfl, rfl, rfl⟩, ⟨rfl, rfl, rfl⟩, trivial⟩
    (EvI.range1 (glob_b rfl rfl g.range rfl bb_range) (Ev.var (pv := PI (sizeW nums : Nat)) rfl) (by omega) (by omega)) ?_ (by simp [rng]; omega) ⟨.inl rfl, rfl⟩ ?_)
  · unfold rawW rng
    rw [List.map_map]
    refine comp_map _ _ fun j hj => ?_
    have hj := List.mem_range.mp hj
    refine ⟨rfl, (Ev.add (Ev.itemT (xs := laidL.map .int) j (Ev.var rfl) (Ev.var rfl) (by omega) (getI (by show _ < 6; omega)) (by decide)) (Ev.sumI g (Ev.stride (a := j) (b := (sizeW nums : Nat)) (Ev.var rfl) ((Ev.var (pv := PI (0 + j)) rfl).castI (by omega)) (Ev.var rfl) (by omega) (by omega)) rfl))⟩
  · refine Wp.cons (Wp1.ret (d := dI (wordW nums)) (Ev.ifexp (EvB.ofInt (Ev.var (pv := PI (kindW nums)) rfl)) (fun hb => ?_) fun hb => ?_) rfl)
    · have hk : kindW nums ≠ 0 := by simpa using hb
      refine (Ev.comp [("kind", PI (kindW nums))] ((rawW nums).map .int) (((rawW nums).map fun a => a.fmod (kindW nums)).map .int) rfl ⟨⟨rfl, rfl, rfl⟩, trivial⟩ (EvI.list (Ev.var rfl)) ?_ (by simp [rawW_length]; omega)).cast (by unfold wordW; rw [if_neg hk])
      rw [List.map_map]
      refine comp_map _ _ fun a ha => ⟨rfl, Ev.mod (Ev.var (pv := PI a) rfl) (Ev.var (pv := PI (kindW nums)) rfl) hk⟩
    · have hk : kindW nums = 0 := by simpa using hb
      exact (Ev.var rfl).cast (by unfold wordW; rw [if_pos hk])
end
end Mine

namespace Mine

def stepC (t : List Int) (s : Int) : Int := if 0 < s ∧ s ≤ t.length then t.getD (s - 1).toNat 0 else 0
def chnL (t : List Int) : Int → Nat → List Int
  | _, 0 => []
  | s, m + 1 => stepC t s :: chnL t (stepC t s) m
def chainF (t : List Int) (n : Nat) : List Int := (chnL t n n).filter fun s => decide (0 < s)

/-- the letters of both sides -/
def locEq (w : List Int) (p s : Nat) : Bool := decide (cutL (some ((p - s : Nat) : Int)) (some ((min p (w.length - s) : Nat) : Int)) w = cutL (some ((p - s + s : Nat) : Int)) (some ((min p (w.length - s) + s : Nat) : Int)) w)
def locFrom (w : List Int) (p : Nat) : Nat → Nat → Nat
  | _, 0 => 0
  | s, m + 1 => if locEq w p s then s else locFrom w p (s + 1) m
def locF (w : List Int) (p : Nat) : Nat := locFrom w p 1 w.length

theorem chnL_len (t : List Int) : ∀ (m : Nat) (s : Int), (chnL t s m).length = m
  | 0, _ => rfl
  | m + 1, s => by show _ + 1 = _; rw [chnL_len t m]
theorem filterMap_if {α : Type} (p : α → Bool) (f : α → PyData) : ∀ xs : List α, (xs.filterMap fun x => if p x then some (f x) else none) = (xs.filter p).map f
  | [] => rfl
  | x :: xs => by
    by_cases h : p x = true
    · rw [List.filterMap_cons_some (by rw [if_pos h]), List.filter_cons_of_pos h, List.map_cons, filterMap_if p f xs]
    · rw [List.filterMap_cons_none (by rw [if_neg h]), List.filter_cons_of_neg h, filterMap_if p f xs]

theorem ElOk.filt {c : Cx} {k : Nat} {sc : Scope} {σ : Sg} {x : Str} {t elt : Expr} {d z : PyData} {b : Bool} (ht : EvB c k sc ((x, .dat d) :: σ) t b) (hz : b = true → Ev c k sc ((x, .dat d) :: σ) elt (.dat z)) : ElOk c k sc σ x [t] elt d (if b then some z else none) := by
  cases b with
  | true => exact ⟨ht, hz rfl⟩
  | false => exact ht
theorem EvP.mk {c : Cx} {k : Nat} {sc : Scope} {σ : Sg} {e : Expr} {i : Int} (h : Ev c k sc σ e (PI i)) : EvP c k sc σ (some e) (some i) := h
theorem EvP.no {c : Cx} {k : Nat} {sc : Scope} {σ : Sg} : EvP c k sc σ none none := trivial

/-- xs[lo:hi], of ints -/
theorem Ev.sliceI {c : Cx} {k : Nat} {sc : Scope} {σ : Sg} {e : Expr} {lo hi : Option Expr} {p2 pos : Pos} {xs : List Int} {a b : Option Int} (hl : Ev c k sc σ e (.dat (dI xs))) (hlo : EvP c k sc σ lo a) (hhi : EvP c k sc σ hi b) (ha : nonneg a) (hb : nonneg b) (hn : xs.length ≤ 1000)
    : Ev c k sc σ (.Subscript e (.Slice lo hi none p2) pos) (.dat (dI (cutL a b xs))) := (Ev.slice hl hlo hhi ha hb (by simpa using hn)).cast (by rw [cut_map])

section
variable {c : Cx} {k : Nat}
theorem chain_wp (g : GlOk c) (t : List Int) (n : Nat) (ht : t.length ≤ 300) (hn : n ≤ 300) :
    Wp c k (scopeOf sChain) (bodyOf sChain) [("table", .dat (dI t)), ("size", PI n)] (fun fl _ => fl = .ret (.dat (dI (chainF t n)))) := by
  refine Wp.cons (Wp1.assignF (is := []) (EvF.list .nil) ⟨.inl rfl, rfl⟩ ?_)
  refine Wp.cons (Wp1.for1 (ds := rng 0 n) ⟨.inl rfl, rfl⟩ (EvI.range1 (glob_b rfl rfl g.range rfl bb_range) (Ev.var (pv := PI n) rfl) (by omega) (by omega)) ?_)
  have main : ∀ (m : Nat) (a s : Int) (acc : List Int) (σ : Sg), acc ++ chnL t s m = chnL t n n → SubS σ [("chain", .own (acc.map .int)), ("size", PI s), ("table", .dat (dI t))] →
      WpFor c k (scopeOf sChain) (forBody (nth (bodyOf sChain) 1)) (fun d σ => ("turn", .dat d) :: σ) (seqQ c k (scopeOf sChain) [nth (bodyOf sChain) 2] (fun fl _ => fl = .ret (.dat (dI (chainF t n))))) (rng a m) σ := by
    intro m
    induction m with
    | zero =>
      intro a s acc σ e hs
      have e : acc = chnL t n n := by rw [← e]; exact (List.append_nil _).symm
      have hl : acc.length = n := by rw [e, chnL_len]
      refine Wp.freeze hs.1 ?_
      refine Wp.cons (Wp1.ret (d := dI (chainF t n)) (Ev.comp [] (acc.map .int) ((chainF t n).map .int) rfl trivial (EvI.list (Ev.var rfl)) ?_ (by simp; omega)) rfl)
      unfold chainF
      rw [← e, ← filterMap_if]
      refine comp_fm _ _ fun x hx => ?_
      exact ElOk.filt (EvB.cmp (Ev.var (pv := PI x) rfl) (.int (i := 0)) CmpGives.gt) fun _ => Ev.var rfl
    | succ m ih =>
      intro a s acc σ e hs
      rw [range_cons]
      have vS : (("turn", .dat (.int a)) :: σ : Sg).lookup ("size" : Str) = some (PI s) := hs.2.1
      have vT : (("turn", .dat (.int a)) :: σ : Sg).lookup ("table" : Str) = some (.dat (dI t)) := hs.2.2.1
      have hal : acc.length ≤ 300 := by
        have := congrArg List.length e
        rw [List.length_append, chnL_len, chnL_len] at this; omega
      refine Wp.cons (Wp1.assign (d := .int (stepC t s)) (Ev.ifexp (EvB.chain (.int (i := 0)) (Ev.var vS) (Ev.lenI g (Ev.var vT) (by omega) rfl) CmpGives.lt CmpGives.le) (fun hb => ?_) fun hb => ?_) ⟨.inl rfl, rfl⟩ ?_)
      · have hb' : 0 < s ∧ s ≤ t.length := by simpa using hb
        exact (Ev.item (xs := t.map .int) (s - 1).toNat (Ev.var vT) (Ev.sub (Ev.var vS) (.int (i := 1))) (by omega) (getI (by omega)) (by simp; omega)).cast (by unfold stepC; rw [if_pos hb'])
      · have hb' : ¬ (0 < s ∧ s ≤ t.length) := by simpa using hb
        exact (Ev.int (i := 0)).cast (by unfold stepC; rw [if_neg hb'])
      · refine Wp.cons (Wp1.append (xs := acc.map .int) (d := .int (stepC t s)) hs.1 (Ev.var rfl) (by simp; omega) ?_)
        refine Wp.nil (ih (a + 1) (stepC t s) (acc ++ [stepC t s]) _ ?_ ⟨?_, rfl, vT, trivial⟩)
        · rw [← e, List.append_assoc]; rfl
        · show some _ = some _
          rw [List.map_append]; rfl
  exact main n 0 n [] _ rfl ⟨rfl, rfl, rfl, trivial⟩

theorem local_wp (g : GlOk c) (w : List Int) (p : Nat) (hw : w.length ≤ 300) (hp : p ≤ w.length) :
    Wp c k (scopeOf sLocal) (bodyOf sLocal) [("word", .dat (dI w)), ("place", PI p)] (fun fl _ => fl = .ret (PI (locF w p))) := by
  refine Wp.cons (Wp1.assign (d := .int w.length) (Ev.lenI g (Ev.var rfl) (by omega) rfl) ⟨.inl rfl, rfl⟩ ?_)
  refine Wp.cons (Wp1.for1 (ds := rng 1 w.length) ⟨.inl rfl, rfl⟩ (EvI.range2 (a := 1) (b := (w.length : Int) + 1) (glob_b rfl rfl g.range rfl bb_range) .int (Ev.add (Ev.var (pv := PI w.length) rfl) .int) (by decide) (by omega) (by omega)) ?_)
  have main : ∀ (m s : Nat) (σ : Sg), s + m = w.length + 1 → 1 ≤ s → locFrom w p s m = locF w p → SubS σ [("n", PI w.length), ("word", .dat (dI w)), ("place", PI p)] →
      WpFor c k (scopeOf sLocal) (forBody (nth (bodyOf sLocal) 1)) (fun d σ => ("step", .dat d) :: σ) (seqQ c k (scopeOf sLocal) [nth (bodyOf sLocal) 2] (fun fl _ => fl = .ret (PI (locF w p)))) (rng s m) σ := by
    intro m
    induction m with
    | zero =>
      intro s σ e h1 he hs
      refine Wp.cons (Wp1.ret (d := .int 0) .int ?_)
      show Fl.ret _ = Fl.ret _
      rw [← he]; rfl
    | succ m ih =>
      intro s σ e h1 he hs
      rw [range_cons]
      have vN : (("step", .dat (.int s)) :: σ : Sg).lookup ("n" : Str) = some (PI w.length) := hs.1
      have vW : (("step", .dat (.int s)) :: σ : Sg).lookup ("word" : Str) = some (.dat (dI w)) := hs.2.1
      have vP : (("step", .dat (.int s)) :: σ : Sg).lookup ("place" : Str) = some (PI p) := hs.2.2.1
      have vS : (("step", .dat (.int s)) :: σ : Sg).lookup ("step" : Str) = some (PI s) := rfl
      refine Wp.cons (Wp1.tup2s (d1 := .int ((p - s : Nat) : Int)) (d2 := .int ((min p (w.length - s) : Nat) : Int)) (Ev.tuple (.cons ?_ (.cons ?_ .nil)) (by simp)) ⟨.inl rfl, rfl⟩ ⟨.inl rfl, rfl⟩ ?_)
      · exact (Ev.call (glob_b rfl rfl g.max rfl bb_max) trivial (.cons (Ev.sub (Ev.var vP) (Ev.var vS)) (.cons (.int (i := 0)) .nil)) cg_max2).castI (by omega)
      · exact (Ev.call (glob_b rfl rfl g.min rfl bb_min) trivial (.cons (Ev.var vP) (.cons (Ev.sub (Ev.var vN) (Ev.var vS)) .nil)) cg_min2).castI (by omega)
      · have hcut : ∀ a b : Option Int, (cutL a b w).length ≤ w.length := fun a b => cut_length a b w
        have vS2 : (("low", PI ((p - s : Nat) : Int)) :: ("high", PI ((min p (w.length - s) : Nat) : Int)) :: ("step", .dat (.int s)) :: σ : Sg).lookup ("step" : Str) = some (PI s) := rfl
        have e2 : locFrom w p s (m + 1) = if locEq w p s then s else locFrom w p (s + 1) m := rfl
        rw [e2] at he
        refine Wp.cons (Wp1.ite (b := locEq w p s) (EvB.cmp (Ev.sliceI (a := some ((p - s : Nat) : Int)) (b := some ((min p (w.length - s) : Nat) : Int)) (xs := w) (Ev.var vW) (.mk (Ev.var rfl)) (.mk (Ev.var rfl)) (Int.natCast_nonneg _) (Int.natCast_nonneg _) (by omega))
          (Ev.sliceI (a := some ((p - s + s : Nat) : Int)) (b := some ((min p (w.length - s) + s : Nat) : Int)) (xs := w) (Ev.var vW) (.mk ((Ev.add (Ev.var (pv := PI ((p - s : Nat) : Int)) rfl) (Ev.var vS2)).castI (b := ((p - s + s : Nat) : Int)) (by omega))) (.mk ((Ev.add (Ev.var (pv := PI ((min p (w.length - s) : Nat) : Int)) rfl) (Ev.var vS2)).castI (b := ((min p (w.length - s) + s : Nat) : Int)) (by omega))) (Int.natCast_nonneg _) (Int.natCast_nonneg _) (by omega)) CmpGives.eqL) (fun hb => ?_) fun hb => ?_)
        · refine Wp.cons (Wp1.ret (d := .int s) (Ev.var vS) ?_)
          show Fl.ret _ = Fl.ret _
          rw [← he, if_pos hb]
        · rw [if_neg (by rw [hb]; decide)] at he
          refine Wp.nil (Wp.nil ?_)
          have := ih (s + 1) (("low", PI ((p - s : Nat) : Int)) :: ("high", PI ((min p (w.length - s) : Nat) : Int)) :: ("step", .dat (.int s)) :: σ) (by omega) (by omega) he ⟨vN, vW, vP, trivial⟩
          rw [show (((s + 1 : Nat) : Int)) = (s : Int) + 1 by omega] at this
          exact this
  exact main w.length 1 _ (by omega) (by omega) rfl ⟨rfl, rfl, rfl, trivial⟩
end
end Mine

namespace Mine

def row (w : List Int) (i : Nat) : List Int := w.drop i ++ List.replicate i 0 ++ List.replicate (w.length - i) 1 ++ List.replicate i 0
def keyAt (n : Nat) (sg : Int) (k : Nat) : List (Nat × Int) := [(n + k, 2 * (k : Int) + 1), (k, sg * (2 * (k : Int) + 2))]
def keysT (n : Nat) (sg : Int) (m : Nat) : List (Nat × Int) := (List.range m).flatMap (keyAt n sg)
def cmpR (w : List Int) (sg : Int) (i j : Nat) : Int := cmpT (row w i) (row w j) (keysT w.length sg w.length)
def topFrom (w : List Int) (sg : Int) : Nat → Nat → Nat → Nat
  | t, _, 0 => t
  | t, i, m + 1 => topFrom w sg (if cmpR w sg t i < 0 then i else t) (i + 1) m
def topF (w : List Int) (sg : Int) : Nat := topFrom w sg 0 1 (w.length - 1)
def lapB (w : List Int) (sg : Int) (i : Nat) : Bool := decide (cmpR w sg 0 i = 2 * ((w.length : Int) - i) + 1) && decide (cmpR w sg i 0 = -2 * ((w.length : Int) - i) - 1)
def lapsF (w : List Int) (sg : Int) : List Int := ((List.range (w.length - 1)).filter fun j => lapB w sg (1 + j)).map fun j => (w.length : Int) - (1 + j : Nat)
def moreL (w : List Int) : List Int := (row w 0).take (w.length - 1) ++ [w.getD (w.length - 1) 0 + 1] ++ (row w 0).drop w.length
def cmpM (w : List Int) (sg : Int) : Int := cmpT (row w 0) (moreL w) (keysT w.length sg w.length)
def topD (w : List Int) (sg : Int) : PyData := .list [.int (topF w sg), dI (lapsF w sg), .int (cmpM w sg), .int (cmpR w sg 0 0)]

theorem row_length (w : List Int) {i : Nat} (h : i ≤ w.length) : (row w i).length = 2 * w.length := by simp [row]; omega
theorem keysT_lt {n : Nat} {sg : Int} {m : Nat} (hm : m ≤ n) : ∀ p ∈ keysT n sg m, p.1 < 2 * n := by
  intro p hp
  obtain ⟨k, hk, hp⟩ := List.mem_flatMap.mp hp
  have hk := List.mem_range.mp hk
  simp only [keyAt, List.mem_cons, List.not_mem_nil, or_false] at hp
  rcases hp with rfl | rfl <;> dsimp only <;> omega
theorem keysT_succ (n : Nat) (sg : Int) (m : Nat) : keysT n sg (m + 1) = keysT n sg m ++ keyAt n sg m := by
  unfold keysT; rw [List.range_succ, List.flatMap_append]; simp
theorem keysT_length (n : Nat) (sg : Int) : ∀ m, (keysT n sg m).length = 2 * m
  | 0 => rfl
  | m + 1 => by rw [keysT_succ, List.length_append, keysT_length n sg m]; rfl
theorem moreL_length (w : List Int) (h : 1 ≤ w.length) : (moreL w).length = 2 * w.length := by
  have := row_length w (Nat.zero_le _)
  simp only [moreL, List.length_append, List.length_take, List.length_drop, List.length_cons, List.length_nil, this]; omega

def rowsL (w : List Int) : List PyData := (List.range w.length).map fun i => tI (row w i)
def bothL (w : List Int) (sg : Int) : List PyData := (List.range w.length).map fun i => .tuple [.int (cmpR w sg 0 i), .int (cmpR w sg i 0)]
theorem map_range_get {α : Type} (f : Nat → α) {n i : Nat} (h : i < n) : ((List.range n).map f)[i]? = some (f i) := by simp [h]

def CmpOk (c : Cx) (k : Nat) : Prop := ∀ ls rs ks, (∀ p ∈ ks, p.1 < ls.length) → (∀ p ∈ ks, p.1 < rs.length) → ls.length ≤ 1000 → rs.length ≤ 1000 →
  CallP c k (.ref 42) [.inst (keysD ks), .dat (tI ls), .dat (tI rs)] (aD (.int (cmpT ls rs ks)))
def TcOk (c : Cx) (k : Nat) : Prop := ∀ ks, CallG c k (.ref 45) [ks] (aI ks)

theorem eqv_pair (a b c d : Int) : PyData.eqv (.tuple [.int a, .int b]) (.tuple [.int c, .int d]) = (decide (a = c) && decide (b = d)) := by
  simp only [PyData.eqv, PyData.eqvAll]
  have : ∀ x y : Int, (x == y) = decide (x = y) := fun x y => rfl
  simp [this]
theorem CmpGives.eqP {cx : Cx} {a b c d : Int} : CmpGives cx .Eq (.tuple [.int a, .int b]) (.tuple [.int c, .int d]) (decide (a = c) && decide (b = d)) := by
  rw [← eqv_pair]; exact CmpGives.eq rfl rfl

section
variable {c : Cx} {k : Nat}
theorem Ev.cmpK (T : TCOk c.K) (hC : CmpOk c k) {sc : Scope} {σ : Sg} {o e1 e2 : Expr} {apos pos : Pos} {ls rs : List Int} {ks : List (Nat × Int)} (ho : Ev c k sc σ o (.inst (keysD ks))) (h1 : Ev c k sc σ e1 (.dat (tI ls))) (h2 : Ev c k sc σ e2 (.dat (tI rs)))
    (l1 : ∀ p ∈ ks, p.1 < ls.length) (l2 : ∀ p ∈ ks, p.1 < rs.length) (n1 : ls.length ≤ 1000) (n2 : rs.length ≤ 1000)
    (hb : ∀ env, attributeBase o "compare" env (eval o env) = eval o env := by intro _; rfl)
    (he : ∀ env pos, backTo pos (starEach [e1, e2] env) = (false, eval e1 env) :: backTo pos (starEach [e2] env) := by intro _ _; rfl)
    (he' : ∀ env pos, backTo pos (starEach [e2] env) = (false, eval e2 env) :: backTo pos (starEach [] env) := by intro _ _; rfl)
    (hfew : ∀ env : Env, methodCallForm (([e1, e2] : List Expr).length + 0) (backTo pos (starEach [e1, e2] env)) (backToKw pos (keywordEach [] env)) = true := by intro _; rfl)
    (hline : (apos.endLine == pos.line) = true := by rfl) :
    Ev c k sc σ (.Call (.Attribute o "compare" apos) [e1, e2] [] pos) (PI (cmpT ls rs ks)) :=
  Ev.cmpCall T ho (.cons h1 (.cons h2 .nil he') he) (hC ls rs ks l1 l2 n1 n2) hb he hfew hline

theorem top_wp (g : GlOk c) (T : TCOk c.K) (hC : CmpOk c k) (hT : TcOk c k) (w : List Int) (sg : Int) (hw : w.length ≤ 100) (h1 : 1 ≤ w.length) (hsg : sg.natAbs ≤ 1) :
    Wp c k (scopeOf sTop) (bodyOf sTop) [("word", .dat (dI w)), ("sign", PI sg)] (fun fl _ => fl = .ret (.dat (topD w sg))) := by
  have rl : ∀ i, i ≤ w.length → ((row w i).map PyData.int).length = 2 * w.length := fun i h => by rw [List.length_map, row_length w h]
  refine Wp.cons (Wp1.assign (d := .int w.length) (Ev.lenI g (Ev.var rfl) (by omega) rfl) ⟨.inr rfl, rfl⟩ ?_)
  refine Wp.cons (Wp1.assign (d := .list (rowsL w)) (Ev.comp [("word", .dat (dI w)), ("n", PI w.length)] (rng 0 w.length) (rowsL w) rfl ⟨⟨rfl, rfl, rfl⟩, ⟨rfl, rfl, rfl⟩, trivial⟩
    (EvI.range1 (glob_b rfl rfl g.range rfl bb_range) (Ev.var (pv := PI w.length) rfl) (by omega) (by omega)) ?_ (by simp [rng]; omega)) ⟨.inr rfl, rfl⟩ ?_)
  · unfold rowsL rng
    refine comp_map _ _ fun i hi => ?_
    have hi := List.mem_range.mp hi
    have vI : ∀ {sc : Scope} {p : Pos}, Ev c k sc [("i", PI (0 + (i : Int))), ("word", .dat (dI w)), ("n", PI w.length)] (.Name "i" p) (PI i) := fun {sc p} => (Ev.var (pv := PI (0 + (i : Int))) rfl).castI (by omega)
    refine ⟨rfl, Ev.call (glob_b rfl rfl g.tuple rfl bb_tuple) trivial (.cons (?_ : Ev _ _ _ _ _ (.dat (dI (row w i)))) .nil) (cg_tuple (by rw [rl i (by omega)]; omega))⟩
    have e0 : cutL (some (i : Int)) none w = w.drop i := by simp [cutL]
    exact (EvF.cat (xs := w.drop i ++ List.replicate i 0 ++ List.replicate (w.length - i) 1) (ys := List.replicate i 0)
      (EvF.cat (xs := w.drop i ++ List.replicate i 0) (ys := List.replicate (w.length - i) 1)
        (EvF.cat (xs := w.drop i) (ys := List.replicate i 0) ((Ev.sliceI (a := some (i : Int)) (b := none) (Ev.var rfl) (.mk vI) .no (Int.natCast_nonneg _) trivial (by omega)).cast (by rw [e0]))
          (EvF.rep (i := 0) (n := i) (EvF.ev (EvF.list (is := [0]) (.cons .int .nil))) vI rfl (by omega)).ev (by simp; omega)).ev
        (EvF.rep (i := 1) (n := w.length - i) (EvF.ev (EvF.list (is := [1]) (.cons .int .nil))) (Ev.sub (Ev.var (pv := PI w.length) rfl) vI) (by omega) (by omega)).ev (by simp; omega)).ev
      (EvF.rep (i := 0) (n := i) (EvF.ev (EvF.list (is := [0]) (.cons .int .nil))) vI rfl (by omega)).ev (by simp; omega)).ev
  -- keys = []
  refine Wp.cons (Wp1.assignF (is := []) (EvF.list .nil) ⟨.inl rfl, rfl⟩ ?_)
  refine Wp.cons (Wp1.for1 (ds := rng 0 w.length) ⟨.inl rfl, rfl⟩ (EvI.range1 (glob_b rfl rfl g.range rfl bb_range) (Ev.var (pv := PI w.length) rfl) (by omega) (by omega)) ?_)
  -- the rest
  have rest : ∀ σ : Sg, SubS σ [("keys", .own ((keysT w.length sg w.length).map keyD)), ("n", PI w.length), ("rows", .dat (.list (rowsL w))), ("word", .dat (dI w))] →
      Wp c k (scopeOf sTop) ((bodyOf sTop).drop 4) σ (fun fl _ => fl = .ret (.dat (topD w sg))) := by
    intro σ hs
    have kl1 : ∀ {i : Nat}, i ≤ w.length → ∀ p ∈ keysT w.length sg w.length, p.1 < (row w i).length := fun {i} hi p hp => by rw [row_length w hi]; exact keysT_lt (Nat.le_refl _) p hp
    have rn : ∀ {i : Nat}, i ≤ w.length → (row w i).length ≤ 1000 := fun {i} hi => by rw [row_length w hi]; omega
    have rg : ∀ {i : Nat}, i < w.length → (rowsL w)[i]? = some (tI (row w i)) := fun {i} hi => map_range_get _ hi
    have rL : (rowsL w).length ≤ 1000 := by simp [rowsL]; omega
    refine Wp.freeze hs.1 ?_
    refine Wp.cons (Wp1.assignI (ks := keysD (keysT w.length sg w.length)) (Ev.mkTC T (glob_g rfl rfl g.tc) (.cons (Ev.var rfl) .nil) (hT _)) ⟨.inr rfl, rfl⟩ ?_)
    refine Wp.cons (Wp1.assign (d := .int 0) .int ⟨.inl rfl, rfl⟩ ?_)
    have hN : σ.lookup ("n" : Str) = some (PI w.length) := hs.le _ _ rfl
    have hR : σ.lookup ("rows" : Str) = some (.dat (.list (rowsL w))) := hs.le _ _ rfl
    have hW : σ.lookup ("word" : Str) = some (.dat (dI w)) := hs.le _ _ rfl
    refine Wp.cons (Wp1.for1 (ds := rng 1 (w.length - 1)) ⟨.inl rfl, rfl⟩ (EvI.range2 (a := 1) (b := w.length) (glob_b rfl rfl g.range rfl bb_range) .int (Ev.var hN) (by decide) (by omega) (by omega)) ?_)
    have rest2 : ∀ σ : Sg, SubS σ [("top", PI (topF w sg)), ("judge", .inst (keysD (keysT w.length sg w.length))), ("n", PI w.length), ("rows", .dat (.list (rowsL w))), ("word", .dat (dI w))] →
        Wp c k (scopeOf sTop) ((bodyOf sTop).drop 7) σ (fun fl _ => fl = .ret (.dat (topD w sg))) := by
      intro σ hs
      have hTp : σ.lookup ("top" : Str) = some (PI (topF w sg)) := hs.le _ _ rfl
      have hJ : σ.lookup ("judge" : Str) = some (.inst (keysD (keysT w.length sg w.length))) := hs.le _ _ rfl
      have hN : σ.lookup ("n" : Str) = some (PI w.length) := hs.le _ _ rfl
      have hR : σ.lookup ("rows" : Str) = some (.dat (.list (rowsL w))) := hs.le _ _ rfl
      have hW : σ.lookup ("word" : Str) = some (.dat (dI w)) := hs.le _ _ rfl
      refine Wp.cons (Wp1.assign (d := .list (bothL w sg)) (Ev.comp [("judge", .inst (keysD (keysT w.length sg w.length))), ("rows", .dat (.list (rowsL w)))] (rng 0 w.length) (bothL w sg) rfl ⟨⟨rfl, rfl, hJ⟩, ⟨rfl, rfl, hR⟩, trivial⟩
        (EvI.range1 (glob_b rfl rfl g.range rfl bb_range) (Ev.var hN) (by omega) (by omega)) ?_ (by simp [rng]; omega)) ⟨.inr rfl, rfl⟩ ?_)
      · unfold bothL rng
        refine comp_map _ _ fun i hi => ?_
        have hi := List.mem_range.mp hi
        refine ⟨rfl, Ev.tuple (.cons (Ev.cmpK T hC (Ev.var rfl) (Ev.item 0 (Ev.var rfl) (.int (i := 0)) rfl (rg (by omega)) rL) (Ev.item i (Ev.var rfl) (Ev.var (pv := PI (0 + (i : Int))) rfl) (by omega) (rg hi) rL) (kl1 (by omega)) (kl1 (by omega)) (rn (by omega)) (rn (by omega)))
          (.cons (Ev.cmpK T hC (Ev.var rfl) (Ev.item i (Ev.var rfl) (Ev.var (pv := PI (0 + (i : Int))) rfl) (by omega) (rg hi) rL) (Ev.item 0 (Ev.var rfl) (.int (i := 0)) rfl (rg (by omega)) rL) (kl1 (by omega)) (kl1 (by omega)) (rn (by omega)) (rn (by omega))) .nil)) (by simp)⟩
      have bg : ∀ {i : Nat}, i < w.length → (bothL w sg)[i]? = some (.tuple [.int (cmpR w sg 0 i), .int (cmpR w sg i 0)]) := fun {i} hi => map_range_get _ hi
      have bL : (bothL w sg).length ≤ 1000 := by simp [bothL]; omega
      refine Wp.cons (Wp1.assignComp [("both", .dat (.list (bothL w sg))), ("n", PI w.length)] (rng 1 (w.length - 1)) ((lapsF w sg).map .int) rfl ⟨⟨rfl, rfl, rfl⟩, ⟨rfl, rfl, hN⟩, trivial⟩
        (EvI.range2 (a := 1) (b := w.length) (glob_b rfl rfl g.range rfl bb_range) .int (Ev.var hN) (by decide) (by omega) (by omega)) ?_ (by simp [rng]; omega) ⟨.inl rfl, rfl⟩ ?_)
      · unfold lapsF rng
        rw [List.map_map, ← filterMap_if]
        refine comp_fm _ _ fun j hj => ?_
        have hj := List.mem_range.mp hj
        have vI : ∀ {sc : Scope} {p : Pos}, Ev c k sc [("i", PI (1 + (j : Int))), ("both", .dat (.list (bothL w sg))), ("n", PI w.length)] (.Name "i" p) (PI ((1 + j : Nat) : Int)) := fun {sc p} => (Ev.var (pv := PI (1 + (j : Int))) rfl).castI (by omega)
        refine ElOk.filt (b := lapB w sg (1 + j)) (EvB.cmp (Ev.item (1 + j) (Ev.var rfl) vI rfl (bg (by omega)) bL)
          (Ev.tuple (.cons (Ev.add (Ev.mul (.int (i := 2)) (Ev.sub (Ev.var (pv := PI w.length) rfl) vI) (mulOkL (by decide))) (.int (i := 1)))
            (.cons (Ev.sub (Ev.mul (Ev.neg (.int (i := 2))) (Ev.sub (Ev.var (pv := PI w.length) rfl) vI) (mulOkL (by decide))) (.int (i := 1))) .nil)) (by simp)) CmpGives.eqP) fun _ => Ev.sub (Ev.var (pv := PI w.length) rfl) vI
      -- more
      refine Wp.cons (Wp1.assign (d := tI (moreL w)) ?_ ⟨.inl rfl, rfl⟩ ?_)
      · have e1 : tI (moreL w) = .tuple (((row w 0).map .int).take (w.length - 1) ++ [.int (w.getD (w.length - 1) 0 + 1)] ++ ((row w 0).map .int).drop w.length) := by
          simp [tI, moreL, List.map_take, List.map_drop]
        rw [e1]
        have l0 := rl 0 (by omega)
        refine Ev.tcat (Ev.tcat (Ev.tupTo (j := w.length - 1) (Ev.item (xs := rowsL w) (i := 0) 0 (Ev.var hR) .int rfl (rg (by omega)) rL) (Ev.sub (Ev.var hN) (.int (i := 1))) (by omega) (by rw [l0]; omega) (by rw [l0]; omega))
          (Ev.tuple (.cons (Ev.add (Ev.item (xs := w.map .int) (i := (w.length : Int) - 1) (w.length - 1) (Ev.var hW) (Ev.sub (Ev.var hN) .int) (by omega) (getI (by omega)) (by simp; omega)) (.int (i := 1))) .nil) (by simp)) (by simp [l0]; omega))
          (Ev.tupFrom (j := w.length) (Ev.item (xs := rowsL w) (i := 0) 0 (Ev.var hR) .int rfl (rg (by omega)) rL) (Ev.var hN) rfl h1 (by rw [l0]; omega) (by rw [l0]; omega)) (by simp [row_length w (Nat.zero_le _)]; omega)
      · refine Wp.cons (Wp1.ret (d := topD w sg) (Ev.list (.cons (Ev.var hTp) (.cons (Ev.var rfl) (.cons ?_ (.cons ?_ .nil)))) (by simp)) rfl)
        · exact Ev.cmpK T hC (Ev.var hJ) (Ev.item 0 (Ev.var hR) (.int (i := 0)) rfl (rg (by omega)) rL) (Ev.var rfl) (kl1 (by omega)) (fun p hp => by rw [moreL_length w h1]; exact keysT_lt (Nat.le_refl _) p hp) (rn (by omega)) (by rw [moreL_length w h1]; omega)
        · exact Ev.itemT 0 (Ev.item 0 (Ev.var rfl) (.int (i := 0)) rfl (bg (by omega)) bL) (.int (i := 0)) rfl rfl (by simp)
    have loop2 : ∀ (m i t : Nat) (σ : Sg), i + m = w.length → t < w.length → topFrom w sg t i m = topF w sg → SubS σ [("top", PI t), ("judge", .inst (keysD (keysT w.length sg w.length))), ("n", PI w.length), ("rows", .dat (.list (rowsL w))), ("word", .dat (dI w))] →
        WpFor c k (scopeOf sTop) (forBody (nth (bodyOf sTop) 6)) (fun d σ => ("i", .dat d) :: σ) (seqQ c k (scopeOf sTop) ((bodyOf sTop).drop 7) (fun fl _ => fl = .ret (.dat (topD w sg)))) (rng i m) σ := by
      intro m
      induction m with
      | zero => intro i t σ _ _ he hs; exact rest2 σ (by have he : t = topF w sg := he; rwa [he] at hs)
      | succ m ih =>
        intro i t σ hi ht he hs
        rw [range_cons]
        have he : topFrom w sg (if cmpR w sg t i < 0 then i else t) (i + 1) m = topF w sg := he
        have vT : (("i", .dat (.int i)) :: σ : Sg).lookup ("top" : Str) = some (PI t) := hs.1
        have vJ : (("i", .dat (.int i)) :: σ : Sg).lookup ("judge" : Str) = some (.inst (keysD (keysT w.length sg w.length))) := hs.2.1
        have vN : (("i", .dat (.int i)) :: σ : Sg).lookup ("n" : Str) = some (PI w.length) := hs.2.2.1
        have vR : (("i", .dat (.int i)) :: σ : Sg).lookup ("rows" : Str) = some (.dat (.list (rowsL w))) := hs.2.2.2.1
        have vW : (("i", .dat (.int i)) :: σ : Sg).lookup ("word" : Str) = some (.dat (dI w)) := hs.2.2.2.2.1
        have vI : (("i", .dat (.int i)) :: σ : Sg).lookup ("i" : Str) = some (PI i) := rfl
        refine Wp.cons (Wp1.ite (b := decide (cmpR w sg t i < 0)) (EvB.cmp (Ev.cmpK T hC (Ev.var vJ) (Ev.item t (Ev.var vR) (Ev.var vT) rfl (rg ht) rL) (Ev.item i (Ev.var vR) (Ev.var vI) rfl (rg (by omega)) rL) (kl1 (by omega)) (kl1 (by omega)) (rn (by omega)) (rn (by omega))) (.int (i := 0)) CmpGives.lt) (fun hb => ?_) fun hb => ?_)
        · rw [if_pos (of_decide_eq_true hb)] at he
          refine Wp.cons (Wp1.assign (d := .int i) (Ev.var vI) ⟨.inl rfl, rfl⟩ (Wp.nil (Wp.nil ?_)))
          have := ih (i + 1) i (("top", .dat (.int i)) :: ("i", .dat (.int i)) :: σ) (by omega) (by omega) he ⟨rfl, vJ, vN, vR, vW, trivial⟩
          rw [show (((i + 1 : Nat) : Int)) = (i : Int) + 1 by omega] at this
          exact this
        · rw [if_neg (of_decide_eq_false hb)] at he
          refine Wp.nil (Wp.nil ?_)
          have := ih (i + 1) t (("i", .dat (.int i)) :: σ) (by omega) ht he ⟨vT, vJ, vN, vR, vW, trivial⟩
          rw [show (((i + 1 : Nat) : Int)) = (i : Int) + 1 by omega] at this
          exact this
    exact loop2 (w.length - 1) 1 0 _ (by omega) (by omega) rfl ⟨rfl, rfl, hN, hR, hW, trivial⟩
  have loop1 : ∀ (m i : Nat) (σ : Sg), i + m = w.length → SubS σ [("keys", .own ((keysT w.length sg i).map keyD)), ("n", PI w.length), ("rows", .dat (.list (rowsL w))), ("word", .dat (dI w)), ("sign", PI sg)] →
      WpFor c k (scopeOf sTop) (forBody (nth (bodyOf sTop) 3)) (fun d σ => ("k", .dat d) :: σ) (seqQ c k (scopeOf sTop) ((bodyOf sTop).drop 4) (fun fl _ => fl = .ret (.dat (topD w sg)))) (rng i m) σ := by
    intro m
    induction m with
    | zero =>
      intro i σ hi hs
      have : i = w.length := by omega
      subst this
      exact rest σ ⟨hs.1, hs.2.1, hs.2.2.1, hs.2.2.2.1, trivial⟩
    | succ m ih =>
      intro i σ hi hs
      rw [range_cons]
      have vK : (("k", .dat (.int i)) :: σ : Sg).lookup ("k" : Str) = some (PI i) := rfl
      have vN : (("k", .dat (.int i)) :: σ : Sg).lookup ("n" : Str) = some (PI w.length) := hs.2.1
      have vR : (("k", .dat (.int i)) :: σ : Sg).lookup ("rows" : Str) = some (.dat (.list (rowsL w))) := hs.2.2.1
      have vW : (("k", .dat (.int i)) :: σ : Sg).lookup ("word" : Str) = some (.dat (dI w)) := hs.2.2.2.1
      have vS : (("k", .dat (.int i)) :: σ : Sg).lookup ("sign" : Str) = some (PI sg) := hs.2.2.2.2.1
      refine Wp.cons (Wp1.extend (ys := (keyAt w.length sg i).map keyD) hs.1 (Ev.list (.cons (Ev.tuple (.cons ((Ev.add (Ev.var vN) (Ev.var vK)).castI (b := ((w.length + i : Nat) : Int)) (by omega)) (.cons (Ev.add (Ev.mul (.int (i := 2)) (Ev.var vK) (mulOkL (by decide))) (.int (i := 1))) .nil)) (by simp))
        (.cons (Ev.tuple (.cons (Ev.var vK) (.cons (Ev.mul (Ev.var vS) (Ev.add (Ev.mul (.int (i := 2)) (Ev.var vK) (mulOkL (by decide))) (.int (i := 2))) (mulOkL (by omega))) .nil)) (by simp)) .nil)) (by simp [keyAt])) (by simp [keysT_length, keyAt]; omega) ?_)
      refine Wp.nil ?_
      have := ih (i + 1) (("keys", .own ((keysT w.length sg i).map keyD ++ (keyAt w.length sg i).map keyD)) :: ("k", .dat (.int i)) :: σ) (by omega) ⟨by rw [keysT_succ, List.map_append]; rfl, vN, vR, vW, vS, trivial⟩
      rw [show (((i + 1 : Nat) : Int)) = (i : Int) + 1 by omega] at this
      exact this
  exact loop1 w.length 0 _ (by omega) ⟨rfl, rfl, rfl, rfl, rfl, trivial⟩
end
end Mine

namespace Mine

def ifElse : Stmt → List Stmt
  | .If (orelse := b) .. => b
  | _ => []
def keysA (n lo : Nat) : List (Nat × Int) := (List.range (n - lo)).map fun j => (lo + j, ((lo + j : Nat) : Int) + 1)
def keysB (cut kn : Nat) : List (Nat × Int) := (List.range (cut - kn)).map fun j => (kn + j, -((kn + j : Nat) : Int) - 1)
def keysW (n cut kn : Nat) : List (Nat × Int) := keysA n (max cut kn) ++ keysB cut kn
def winL (w t : List Int) (at_ : Nat) : List Int := (t.drop at_).take w.length
def toldF (w t : List Int) (cut at_ kn : Nat) : Nat := (cmpT (winL w t at_) w (keysW w.length cut kn)).natAbs
def walkF (w t : List Int) (cut step : Nat) : Nat → Nat → Nat → List Int → List Int
  | 0, _, _, acc => acc
  | f + 1, at_, kn, acc =>
    if at_ + w.length ≤ t.length then
      if cut < toldF w t cut at_ kn then walkF w t cut step f (at_ + (toldF w t cut at_ kn - cut)) 0 acc
      else walkF w t cut step f (at_ + step) (w.length - step) (if toldF w t cut at_ kn = 0 then acc ++ [(at_ : Int)] else acc)
    else acc

theorem keysW_lt {n cut kn : Nat} (hc : cut ≤ n) : ∀ p ∈ keysW n cut kn, p.1 < n := by
  intro p hp
  simp only [keysW, keysA, keysB, List.mem_append, List.mem_map, List.mem_range] at hp
  rcases hp with ⟨j, hj, rfl⟩ | ⟨j, hj, rfl⟩ <;> dsimp only <;> omega
theorem winL_length {w t : List Int} {a : Nat} (h : a + w.length ≤ t.length) : (winL w t a).length = w.length := by simp [winL]; omega

theorem cmpT_abs {ls rs : List Int} {m : Nat} : ∀ {ks : List (Nat × Int)}, (∀ p ∈ ks, p.2.natAbs ≤ m) → (cmpT ls rs ks).natAbs ≤ m
  | [], _ => Nat.zero_le _
  | (i, d) :: r, h => by
    have h1 : d.natAbs ≤ m := h _ (.head _)
    have h2 := cmpT_abs (ls := ls) (rs := rs) fun p hp => h p (.tail _ hp)
    unfold cmpT
    split
    · omega
    · split <;> assumption
theorem told_le {w t : List Int} {cut a kn : Nat} (hc : cut ≤ w.length) : toldF w t cut a kn ≤ w.length := by
  refine cmpT_abs fun p hp => ?_
  simp only [keysW, keysA, keysB, List.mem_append, List.mem_map, List.mem_range] at hp
  rcases hp with ⟨j, hj, rfl⟩ | ⟨j, hj, rfl⟩ <;> dsimp only <;> omega

section
variable {c : Cx} {k : Nat}
theorem walk_wp (g : GlOk c) (T : TCOk c.K) (hC : CmpOk c k) (hT : TcOk c k) (w t : List Int) (cut step : Nat) (hw : w.length ≤ 100) (ht : t.length ≤ 300) (hc : cut ≤ w.length) (h1 : 1 ≤ step) (hst : step ≤ w.length) :
    Wp c k (scopeOf sWalk) (bodyOf sWalk) [("word", .dat (dI w)), ("text", .dat (dI t)), ("cut", PI cut), ("step", PI step)] (fun fl _ => fl = .ret (.own ((walkF w t cut step (t.length + 1) 0 0 []).map .int))) := by
  refine Wp.cons (Wp1.tup4own (d1 := .int w.length) (d2 := .int 0) (d3 := .int 0) (is := []) (Ev.lenI g (Ev.var rfl) (by omega) rfl) .int .int (EvF.list .nil) ⟨.inl rfl, rfl⟩ ⟨.inl rfl, rfl⟩ ⟨.inl rfl, rfl⟩ ⟨.inl rfl, rfl⟩ ?_)
  refine Wp.cons ?_
  have main : ∀ (f a kn : Nat) (acc : List Int) (σ : Sg), t.length + 1 ≤ a + f → acc.length ≤ a → a ≤ 1000 → kn ≤ w.length → walkF w t cut step f a kn acc = walkF w t cut step (t.length + 1) 0 0 [] →
      SubS σ [("found", .own (acc.map .int)), ("known", PI kn), ("at", PI a), ("n", PI w.length), ("word", .dat (dI w)), ("text", .dat (dI t)), ("cut", PI cut), ("step", PI step)] →
      WpWhile c k (scopeOf sWalk) (whTest (nth (bodyOf sWalk) 1)) (whBody (nth (bodyOf sWalk) 1)) (whElse (nth (bodyOf sWalk) 1)) (seqQ c k (scopeOf sWalk) [nth (bodyOf sWalk) 2] (fun fl _ => fl = .ret (.own ((walkF w t cut step (t.length + 1) 0 0 []).map .int)))) (f + 1) σ := by
    intro f
    induction f with
    | zero =>
      intro a kn acc σ hf hl _ _ he hs
      have vN : σ.lookup ("n" : Str) = some (PI w.length) := hs.le _ _ rfl
      have vA : σ.lookup ("at" : Str) = some (PI a) := hs.le _ _ rfl
      have vT : σ.lookup ("text" : Str) = some (.dat (dI t)) := hs.le _ _ rfl
      refine ⟨_, EvB.cmp (Ev.add (Ev.var vA) (Ev.var vN)) (Ev.lenI g (Ev.var vT) (by omega) rfl) CmpGives.le, fun hb => ?_, fun hb => ?_⟩
      · have := of_decide_eq_true hb; omega
      · refine Wp.nil (Wp.cons (Wp1.retOwn hs.1 ?_))
        show Fl.ret _ = Fl.ret _
        rw [← he]; rfl
    | succ f ih =>
      intro a kn acc σ hf hl ha hk he hs
      have vN : σ.lookup ("n" : Str) = some (PI w.length) := hs.le _ _ rfl
      have vA : σ.lookup ("at" : Str) = some (PI a) := hs.le _ _ rfl
      have vT : σ.lookup ("text" : Str) = some (.dat (dI t)) := hs.le _ _ rfl
      have vW : σ.lookup ("word" : Str) = some (.dat (dI w)) := hs.le _ _ rfl
      have vK : σ.lookup ("known" : Str) = some (PI kn) := hs.le _ _ rfl
      have vC : σ.lookup ("cut" : Str) = some (PI cut) := hs.le _ _ rfl
      have vS : σ.lookup ("step" : Str) = some (PI step) := hs.le _ _ rfl
      have e0 : walkF w t cut step (f + 1) a kn acc = if a + w.length ≤ t.length then
          if cut < toldF w t cut a kn then walkF w t cut step f (a + (toldF w t cut a kn - cut)) 0 acc
          else walkF w t cut step f (a + step) (w.length - step) (if toldF w t cut a kn = 0 then acc ++ [(a : Int)] else acc)
        else acc := rfl
      rw [e0] at he
      refine ⟨_, EvB.cmp (Ev.add (Ev.var vA) (Ev.var vN)) (Ev.lenI g (Ev.var vT) (by omega) rfl) CmpGives.le, fun hb => ?_, fun hb => ?_⟩
      · have hb : (a : Int) + w.length ≤ t.length := of_decide_eq_true hb
        have hb : a + w.length ≤ t.length := by omega
        rw [if_pos hb] at he
        have wl := winL_length hb
        have ecut : cutL (some (a : Int)) (some ((a + w.length : Nat) : Int)) t = winL w t a := by
          simp only [cutL, winL, Int.toNat_natCast]
          congr 1; omega
        have hlt : toldF w t cut a kn ≤ w.length := told_le hc
        generalize htd : toldF w t cut a kn = td at he hlt
        -- the tail
        have fin : ∀ (acc' : List Int) (σ : Sg), acc'.length ≤ a + 1 → walkF w t cut step f (a + step) (w.length - step) acc' = walkF w t cut step (t.length + 1) 0 0 [] →
            SubS σ [("found", .own (acc'.map .int)), ("at", PI a), ("n", PI w.length), ("word", .dat (dI w)), ("text", .dat (dI t)), ("cut", PI cut), ("step", PI step)] →
            Wp c k (scopeOf sWalk) ((ifElse (nth (whBody (nth (bodyOf sWalk) 1)) 2)).drop 1) σ (seqQ c k (scopeOf sWalk) [] (fun fl σ' => match fl with
              | .nxt => WpWhile c k (scopeOf sWalk) (whTest (nth (bodyOf sWalk) 1)) (whBody (nth (bodyOf sWalk) 1)) (whElse (nth (bodyOf sWalk) 1)) (seqQ c k (scopeOf sWalk) [nth (bodyOf sWalk) 2] (fun fl _ => fl = .ret (.own ((walkF w t cut step (t.length + 1) 0 0 []).map .int)))) (f + 1) σ'
              | .brk => seqQ c k (scopeOf sWalk) [nth (bodyOf sWalk) 2] (fun fl _ => fl = .ret (.own ((walkF w t cut step (t.length + 1) 0 0 []).map .int))) .nxt σ'
              | .ret v => seqQ c k (scopeOf sWalk) [nth (bodyOf sWalk) 2] (fun fl _ => fl = .ret (.own ((walkF w t cut step (t.length + 1) 0 0 []).map .int))) (.ret v) σ')) := by
          intro acc' σ hl' he hs
          have vA : σ.lookup ("at" : Str) = some (PI a) := hs.le _ _ rfl
          have vN : σ.lookup ("n" : Str) = some (PI w.length) := hs.le _ _ rfl
          have vT : σ.lookup ("text" : Str) = some (.dat (dI t)) := hs.le _ _ rfl
          have vW : σ.lookup ("word" : Str) = some (.dat (dI w)) := hs.le _ _ rfl
          have vC : σ.lookup ("cut" : Str) = some (PI cut) := hs.le _ _ rfl
          have vS : σ.lookup ("step" : Str) = some (PI step) := hs.le _ _ rfl
          have vF : σ.lookup ("found" : Str) = some (.own (acc'.map .int)) := hs.1
          refine Wp.cons (Wp1.aug (a := a) (b := step) vA (Ev.var vS) ⟨.inl rfl, rfl⟩ ?_)
          have vN' : (("at", PI ((a : Int) + step)) :: σ : Sg).lookup ("n" : Str) = some (PI w.length) := vN
          have vS' : (("at", PI ((a : Int) + step)) :: σ : Sg).lookup ("step" : Str) = some (PI step) := vS
          refine Wp.cons (Wp1.assign (d := .int ((w.length - step : Nat) : Int)) ((Ev.sub (Ev.var vN') (Ev.var vS')).castI (by omega)) ⟨.inl rfl, rfl⟩ (Wp.nil (Wp.nil ?_)))
          exact ih (a + step) (w.length - step) acc' _ (by omega) (by omega) (by omega) (by omega) he ⟨vF, rfl, by show some _ = some _; congr 3, vN, vW, vT, vC, vS, trivial⟩
        have step3 : ∀ σ : Sg, SubS σ [("told", PI td), ("found", .own (acc.map .int)), ("known", PI kn), ("at", PI a), ("n", PI w.length), ("word", .dat (dI w)), ("text", .dat (dI t)), ("cut", PI cut), ("step", PI step)] →
            Wp c k (scopeOf sWalk) ((whBody (nth (bodyOf sWalk) 1)).drop 2) σ (fun fl σ' => match fl with
              | .nxt => WpWhile c k (scopeOf sWalk) (whTest (nth (bodyOf sWalk) 1)) (whBody (nth (bodyOf sWalk) 1)) (whElse (nth (bodyOf sWalk) 1)) (seqQ c k (scopeOf sWalk) [nth (bodyOf sWalk) 2] (fun fl _ => fl = .ret (.own ((walkF w t cut step (t.length + 1) 0 0 []).map .int)))) (f + 1) σ'
              | .brk => seqQ c k (scopeOf sWalk) [nth (bodyOf sWalk) 2] (fun fl _ => fl = .ret (.own ((walkF w t cut step (t.length + 1) 0 0 []).map .int))) .nxt σ'
              | .ret v => seqQ c k (scopeOf sWalk) [nth (bodyOf sWalk) 2] (fun fl _ => fl = .ret (.own ((walkF w t cut step (t.length + 1) 0 0 []).map .int))) (.ret v) σ') := by
          intro σ hs
          have vD : σ.lookup ("told" : Str) = some (PI td) := hs.le _ _ rfl
          have vN : σ.lookup ("n" : Str) = some (PI w.length) := hs.le _ _ rfl
          have vA : σ.lookup ("at" : Str) = some (PI a) := hs.le _ _ rfl
          have vT : σ.lookup ("text" : Str) = some (.dat (dI t)) := hs.le _ _ rfl
          have vW : σ.lookup ("word" : Str) = some (.dat (dI w)) := hs.le _ _ rfl
          have vC : σ.lookup ("cut" : Str) = some (PI cut) := hs.le _ _ rfl
          have vS : σ.lookup ("step" : Str) = some (PI step) := hs.le _ _ rfl
          have vF : σ.lookup ("found" : Str) = some (.own (acc.map .int)) := hs.le _ _ rfl
          refine Wp.cons (Wp1.ite (EvB.cmp (Ev.var vD) (Ev.var vC) CmpGives.gt) (fun hq => ?_) fun hq => ?_)
          · have hq : cut < td := by have : (td : Int) > cut := of_decide_eq_true hq; omega
            rw [if_pos hq] at he
            refine Wp.cons (Wp1.aug (a := a) (b := (td : Int) - cut) vA (Ev.sub (Ev.var vD) (Ev.var vC)) ⟨.inl rfl, rfl⟩ ?_)
            refine Wp.cons (Wp1.assign (d := .int 0) .int ⟨.inl rfl, rfl⟩ (Wp.nil (Wp.nil ?_)))
            exact ih (a + (td - cut)) 0 acc _ (by omega) (by omega) (by omega) (by omega) he ⟨vF, rfl, by show some _ = some _; congr 3; omega, vN, vW, vT, vC, vS, trivial⟩
          · have hq : ¬ cut < td := by have : ¬ (td : Int) > cut := of_decide_eq_false hq; omega
            rw [if_neg hq] at he
            refine Wp.cons (Wp1.ite (EvB.cmp (Ev.var vD) (.int (i := 0)) CmpGives.eqI) (fun hz => ?_) fun hz => ?_)
            · have hz : td = 0 := by have : (td : Int) = 0 := of_decide_eq_true hz; omega
              rw [if_pos hz] at he
              refine Wp.cons (Wp1.append (xs := acc.map .int) (d := .int a) vF (Ev.var vA) (by simp; omega) (Wp.nil ?_))
              exact fin (acc ++ [(a : Int)]) _ (by simp; omega) he ⟨by show some _ = some _; rw [List.map_append]; rfl, vA, vN, vW, vT, vC, vS, trivial⟩
            · have hz : td ≠ 0 := by have : ¬ (td : Int) = 0 := of_decide_eq_false hz; omega
              rw [if_neg hz] at he
              exact Wp.nil (fin acc σ (by omega) he ⟨vF, vA, vN, vW, vT, vC, vS, trivial⟩)
        have step2 : ∀ σ : Sg, SubS σ [("keys", .dat (keysD (keysW w.length cut kn))), ("found", .own (acc.map .int)), ("known", PI kn), ("at", PI a), ("n", PI w.length), ("word", .dat (dI w)), ("text", .dat (dI t)), ("cut", PI cut), ("step", PI step)] →
            Wp c k (scopeOf sWalk) ((whBody (nth (bodyOf sWalk) 1)).drop 1) σ (fun fl σ' => match fl with
              | .nxt => WpWhile c k (scopeOf sWalk) (whTest (nth (bodyOf sWalk) 1)) (whBody (nth (bodyOf sWalk) 1)) (whElse (nth (bodyOf sWalk) 1)) (seqQ c k (scopeOf sWalk) [nth (bodyOf sWalk) 2] (fun fl _ => fl = .ret (.own ((walkF w t cut step (t.length + 1) 0 0 []).map .int)))) (f + 1) σ'
              | .brk => seqQ c k (scopeOf sWalk) [nth (bodyOf sWalk) 2] (fun fl _ => fl = .ret (.own ((walkF w t cut step (t.length + 1) 0 0 []).map .int))) .nxt σ'
              | .ret v => seqQ c k (scopeOf sWalk) [nth (bodyOf sWalk) 2] (fun fl _ => fl = .ret (.own ((walkF w t cut step (t.length + 1) 0 0 []).map .int))) (.ret v) σ') := by
          intro σ hs
          have vQ : σ.lookup ("keys" : Str) = some (.dat (keysD (keysW w.length cut kn))) := hs.le _ _ rfl
          have vN : σ.lookup ("n" : Str) = some (PI w.length) := hs.le _ _ rfl
          have vA : σ.lookup ("at" : Str) = some (PI a) := hs.le _ _ rfl
          have vT : σ.lookup ("text" : Str) = some (.dat (dI t)) := hs.le _ _ rfl
          have vW : σ.lookup ("word" : Str) = some (.dat (dI w)) := hs.le _ _ rfl
          have vC : σ.lookup ("cut" : Str) = some (PI cut) := hs.le _ _ rfl
          have vS : σ.lookup ("step" : Str) = some (PI step) := hs.le _ _ rfl
          have vF : σ.lookup ("found" : Str) = some (.own (acc.map .int)) := hs.le _ _ rfl
          have vK : σ.lookup ("known" : Str) = some (PI kn) := hs.le _ _ rfl
          refine Wp.cons (Wp1.assign (d := .int (toldF w t cut a kn : Nat)) (Ev.call (glob_b rfl rfl g.abs rfl bb_abs) trivial (.cons (Ev.cmpK T hC (ls := winL w t a) (rs := w) (ks := keysW w.length cut kn) (Ev.mkTC T (glob_g rfl rfl g.tc) (.cons (Ev.var vQ) .nil) (hT _))
            (Ev.call (glob_b rfl rfl g.tuple rfl bb_tuple) trivial (.cons ((Ev.sliceI (xs := t) (a := some (a : Int)) (b := some ((a + w.length : Nat) : Int)) (Ev.var vT) (.mk (Ev.var vA)) (.mk ((Ev.add (Ev.var vA) (Ev.var vN)).castI (b := ((a + w.length : Nat) : Int)) (by omega))) (Int.natCast_nonneg _) (Int.natCast_nonneg _) (by omega)).cast (by rw [ecut])) .nil) (cg_tuple (by simp [wl]; omega)))
            (Ev.call (glob_b rfl rfl g.tuple rfl bb_tuple) trivial (.cons (Ev.var vW) .nil) (cg_tuple (by simp; omega))) (by rw [wl]; exact keysW_lt hc) (keysW_lt hc) (by omega) (by omega)) .nil) cg_abs) ⟨.inl rfl, rfl⟩ ?_)
          exact step3 _ ⟨by rw [htd]; rfl, vF, vK, vA, vN, vW, vT, vC, vS, trivial⟩
        have kA : (keysA w.length (max cut kn)).map keyD = (List.range (w.length - max cut kn)).map fun j => .tuple [.int ((max cut kn + j : Nat) : Int), .int (((max cut kn + j : Nat) : Int) + 1)] := by
          unfold keysA; rw [List.map_map]; rfl
        have kB : (keysB cut kn).map keyD = (List.range (cut - kn)).map fun j => .tuple [.int ((kn + j : Nat) : Int), .int (-((kn + j : Nat) : Int) - 1)] := by
          unfold keysB; rw [List.map_map]; rfl
        refine Wp.cons (Wp1.assign (d := keysD (keysW w.length cut kn)) ?_ ⟨.inl rfl, rfl⟩ (step2 _ ⟨rfl, hs.1, vK, vA, vN, vW, vT, vC, vS, trivial⟩))
        · unfold keysD keysW
          rw [List.map_append]
          refine Ev.cat (Ev.comp [] (rng ((max cut kn : Nat) : Int) (w.length - max cut kn)) ((keysA w.length (max cut kn)).map keyD) rfl trivial
            (EvI.range2 (glob_b rfl rfl g.range rfl bb_range) ((Ev.call (glob_b rfl rfl g.max rfl bb_max) trivial (.cons (Ev.var vC) (.cons (Ev.var vK) .nil)) cg_max2).castI (b := ((max cut kn : Nat) : Int)) (by omega)) (Ev.var vN) (by omega) (by omega) (by omega)) ?_ (by simp [rng]; omega))
            (Ev.comp [] (rng (kn : Nat) (cut - kn)) ((keysB cut kn).map keyD) rfl trivial
            (EvI.range2 (glob_b rfl rfl g.range rfl bb_range) (Ev.var vK) (Ev.var vC) (by omega) (by omega) (by omega)) ?_ (by simp [rng]; omega)) (by simp [keysA, keysB]; omega)
          · rw [kA]
            unfold rng
            refine comp_map _ _ fun j hj => ?_
            have vI : ∀ {sc : Scope} {p : Pos}, Ev c k sc [("i", PI (((max cut kn : Nat) : Int) + (j : Int)))] (.Name "i" p) (PI ((max cut kn + j : Nat) : Int)) := fun {sc p} => (Ev.var (pv := PI (((max cut kn : Nat) : Int) + (j : Int))) rfl).castI (by omega)
            exact ⟨rfl, Ev.tuple (.cons vI (.cons (Ev.add vI (.int (i := 1))) .nil)) (by simp)⟩
          · rw [kB]
            unfold rng
            refine comp_map _ _ fun j hj => ?_
            have vI : ∀ {sc : Scope} {p : Pos}, Ev c k sc [("i", PI ((kn : Int) + (j : Int)))] (.Name "i" p) (PI ((kn + j : Nat) : Int)) := fun {sc p} => (Ev.var (pv := PI ((kn : Int) + (j : Int))) rfl).castI (by omega)
            exact ⟨rfl, Ev.tuple (.cons vI (.cons (Ev.sub (Ev.neg vI) (.int (i := 1))) .nil)) (by simp)⟩
      · have hb : ¬ (a : Int) + w.length ≤ t.length := of_decide_eq_false hb
        rw [if_neg (by omega)] at he
        refine Wp.nil (Wp.cons (Wp1.retOwn hs.1 ?_))
        show Fl.ret _ = Fl.ret _
        rw [← he]
  exact Wp1.while (t.length + 1 + 1) (main (t.length + 1) 0 0 [] _ (by omega) (by simp) (by omega) (by omega) rfl ⟨rfl, rfl, rfl, rfl, rfl, rfl, rfl, rfl, trivial⟩)
end
end Mine

namespace Mine

theorem shaped3 (xs : List Int) (a b : Int) : SeqAt.shaped (.list [dI xs, .int a, .int b]) = true := by
  simp [SeqAt.shaped, PyData.canLay0, PyData.canLayAll0, PyData.depth, PyData.depthAll, ke_canLayAll0, ke_depthAll]
theorem CmpGives.neSame {c : Cx} {p : PyData} (h : SeqAt.shaped p = true) : CmpGives c .NotEq p p false := by
  have := CmpGives.ne (c := c) h h
  rwa [SeqAt.eqv_refl p (SeqAt.canLay_of_shaped h)] at this

theorem comp_none {P : PyData → Option PyData → Prop} {α : Type} (g : α → PyData) : ∀ {xs : List α}, (∀ x ∈ xs, P (g x) none) → CompAll P (xs.map g) []
  | [], _ => .nil
  | x :: xs, h => .skip (h x (.head _)) (comp_none g fun y hy => h y (.tail _ hy))

section
variable {c : Cx} {k : Nat} {sc : Scope} {σ : Sg} {e : Expr} {pos : Pos} {p : PyData}
theorem Ev.isinst2 {T : String} {f : Str} {b : Bool} {pf pt : Pos} (hg : GlobV c sc "isinstance" (.builtin "isinstance")) (ht : GlobV c sc f (.type T)) (h : Ev c k sc σ e (.dat p))
    (hi : ∀ (A : Around) (D : Dirt) (s : Shared) (v : Value) (Q : Value → Shared → Prop), RepD D s.heap v p → (∀ tk, Q (.bool b) { s with toks := tk }) → wpAny c.M A (PySem.call (.builtin "isinstance") [v, .type T]) Q nE s)
    (he : ∀ env pos, backTo pos (starEach (e :: [.Name f pt]) env) = (false, eval e env) :: (false, eval (.Name f pt) env) :: [] := by intro _ _; rfl) :
    Ev c k sc σ (.Call (.Name "isinstance" pf) [e, .Name f pt] [] pos) (PB b) := fun env A D s h0 hA F => by
  refine wpAny_Call_NameR (glob_step hg h0 F ?_)
  rw [he]
  refine Calls.callWith_builtin (by rfl) (Calls.evalArgs_plain (Calls.spliced_cons (wpAny_mono (h env A D s h0 hA F) (fun v s₁ h₁ => ?_) fun _ _ x => x)))
  obtain ⟨k1, r1⟩ := h₁
  refine Calls.spliced_cons (glob_step ht h0 (F.keeps k1) (Calls.spliced_nil ?_))
  exact hi A D s₁ v _ r1 fun tk => ⟨k1.trans (.toks s₁ tk), RepD.bool _⟩
theorem isi_list {xs : List PyData} (A : Around) (D : Dirt) (s : Shared) (v : Value) (Q : Value → Shared → Prop) (r : RepD D s.heap v (.list xs)) (h : ∀ tk, Q (.bool true) { s with toks := tk }) : wpAny c.M A (PySem.call (.builtin "isinstance") [v, .type "list"]) Q nE s := by
  cases r with | @list a vs n _ na hl ra =>
  exact call_isinstance_yes hl.isList.typeIs ty_list sub_refl_list (h s.toks)
theorem isi_int {i : Int} (A : Around) (D : Dirt) (s : Shared) (v : Value) (Q : Value → Shared → Prop) (r : RepD D s.heap v (.int i)) (h : ∀ tk, Q (.bool true) { s with toks := tk }) : wpAny c.M A (PySem.call (.builtin "isinstance") [v, .type "int"]) Q nE s := by
  cases r
  exact IsiPair.int_int (h s.toks)
theorem isi_bool {i : Int} (A : Around) (D : Dirt) (s : Shared) (v : Value) (Q : Value → Shared → Prop) (r : RepD D s.heap v (.int i)) (h : ∀ tk, Q (.bool false) { s with toks := tk }) : wpAny c.M A (PySem.call (.builtin "isinstance") [v, .type "bool"]) Q nE s := by
  cases r
  exact IsiPair.int_bool (h _)
end
end Mine

namespace Mine

def c5L : List Int := [3, 2, 6, 4, 5]
def cutW (nums : List Int) (k : Nat) : Int := (c5L.getD k 0 + (strideZ (k : Nat) (5 : Int) nums).sum).fmod ((wordW nums).length + 1)
def maxW : List Int → Int
  | [] => 0
  | [a] => a
  | a :: b :: r => max a (maxW (b :: r))
def barW (nums : List Int) : Int := maxW (wordW nums) + 2
def textW (nums : List Int) : List Int :=
  (wordW nums).take (cutW nums 0).toNat ++ (wordW nums).take (cutW nums 1).toNat ++ (wordW nums).take (cutW nums 2).toNat ++ [barW nums - 1] ++ (wordW nums).take (cutW nums 3).toNat ++ (wordW nums).take (cutW nums 4).toNat
    ++ (wordW nums).take ((wordW nums).length - nums.sum.fmod 2).toNat
def stepW (w : List Int) (s : Nat) : Int := (s : Int) - (kmp w).getD (s - 1) 0
def cutF (h : List Int) : Nat := max (topF h 1) (topF h (-1))
def placesF (w t : List Int) (bar : Int) : List Int := ((List.range (w.length + 1 + t.length)).filter fun k => decide ((kmp (w ++ [bar] ++ t)).getD k 0 = (w.length : Int))).map fun k : Nat => (k : Int) - 2 * (w.length : Int)
def occF (w t : List Int) : List Int := ((List.range ((t.length : Int) - w.length + 1).toNat).filter fun k => decide (winL w t k = w)).map fun k : Nat => (k : Int)

/-- what the plain law must bring -/
structure LawOk (w t : List Int) (bar : Int) : Prop where
  laps : ∀ s, 1 ≤ s → s ≤ w.length → ∀ sg, sg = 1 ∨ sg = -1 → lapsF (w.take s) sg = chainF (kmp w) s
  more : ∀ s, 1 ≤ s → s ≤ w.length → ∀ sg, sg = 1 ∨ sg = -1 → cmpM (w.take s) sg = -(sg * (2 * s))
  zero : ∀ s, 1 ≤ s → s ≤ w.length → ∀ sg, cmpR (w.take s) sg 0 0 = 0
  step : ∀ s, 1 ≤ s → s ≤ w.length → IsMax (1 :: (List.range (s - 1)).map fun j => (locF (w.take s) (1 + j) : Int)) (stepW w s)
  stepn : ∀ s, 1 ≤ s → s ≤ w.length → stepW w s ≤ s
  cutlt : ∀ s, 1 ≤ s → s ≤ w.length → (cutF (w.take s) : Int) < stepW w s
  loc : ∀ s, 1 ≤ s → s ≤ w.length → (if 0 < cutF (w.take s) then (locF (w.take s) (cutF (w.take s)) : Int) else 1) = stepW w s
  places : placesF w t bar = occF w t
  walk : walkF w t (cutF w) (stepW w w.length).toNat (t.length + 1) 0 0 [] = occF w t

/-- the functions' contracts, as the law's body calls them -/
structure Fns (c : Cx) (k : Nat) : Prop where
  gen : ∀ w : List Int, 1 ≤ w.length → w.length ≤ 300 → CallG c k (.ref 21) [dI w] (aF (kmp w))
  genC : Callable c (.ref 21)
  word : ∀ nums : List Int, nums.length ≤ 300 → CallG c k (.ref 54) [dI nums] (aD (dI (wordW nums)))
  wordC : Callable c (.ref 54)
  top : ∀ (w : List Int) (sg : Int), 1 ≤ w.length → w.length ≤ 100 → sg.natAbs ≤ 1 → CallG c k (.ref 59) [dI w, .int sg] (aD (topD w sg))
  topC : Callable c (.ref 59)
  chain : ∀ (t : List Int) (n : Nat), t.length ≤ 300 → n ≤ 300 → CallG c k (.ref 64) [dI t, .int n] (aD (dI (chainF t n)))
  chainC : Callable c (.ref 64)
  loc : ∀ (w : List Int) (p : Nat), w.length ≤ 300 → p ≤ w.length → CallG c k (.ref 71) [dI w, .int p] (aD (.int (locF w p)))
  locC : Callable c (.ref 71)
  walk : ∀ (w t : List Int) (cut step : Nat), w.length ≤ 100 → t.length ≤ 300 → cut ≤ w.length → 1 ≤ step → step ≤ w.length → CallG c k (.ref 76) [dI w, dI t, .int cut, .int step] (aF (walkF w t cut step (t.length + 1) 0 0 []))
  walkC : Callable c (.ref 76)

theorem maxW_is : ∀ {xs : List Int}, 1 ≤ xs.length → IsMax xs (maxW xs)
  | [], h => by simp at h
  | [a], _ => ⟨.head _, fun b hb => by simp at hb; subst hb; exact Int.le_refl _⟩
  | a :: b :: r, _ => by
    obtain ⟨h1, h2⟩ := maxW_is (xs := b :: r) (by simp)
    have e : maxW (a :: b :: r) = max a (maxW (b :: r)) := rfl
    rw [e]
    refine ⟨?_, fun x hx => ?_⟩
    · rcases Int.le_total a (maxW (b :: r)) with q | q
      · rw [Int.max_eq_right q]; exact .tail _ h1
      · rw [Int.max_eq_left q]; exact .head _
    · cases hx with
      | head => exact Int.le_max_left _ _
      | tail _ q => exact Int.le_trans (h2 x q) (Int.le_max_right _ _)
theorem fmod_bd (a : Int) (n : Nat) : 0 ≤ a.fmod ((n : Int) + 1) ∧ a.fmod ((n : Int) + 1) < (n : Int) + 1 := by
  rw [Int.fmod_eq_emod_of_nonneg _ (by omega)]
  exact ⟨Int.emod_nonneg _ (by omega), Int.emod_lt_of_pos _ (by omega)⟩
theorem app_le {xs ys : List Int} {a b c : Nat} (h1 : xs.length ≤ a) (h2 : ys.length ≤ b) (h : a + b ≤ c) : (xs ++ ys).length ≤ c := by
  rw [List.length_append]; exact Nat.le_trans (Nat.add_le_add h1 h2) h
theorem sum_le {a b p q c : Nat} (h1 : a ≤ p) (h2 : b ≤ q) (h : p + q ≤ c) : a + b ≤ c := Nat.le_trans (Nat.add_le_add h1 h2) h
theorem take_le (nums : List Int) (m : Nat) : ((wordW nums).take m).length ≤ 6 := by
  rw [List.length_take, wordW_length]; exact Nat.le_trans (Nat.min_le_right _ _) (sizeW_le nums).2
theorem textA (nums : List Int) (a b c d : Nat) (x : Int) : ((wordW nums).take a ++ (wordW nums).take b).length ≤ 12 ∧ ((wordW nums).take a ++ (wordW nums).take b ++ (wordW nums).take c).length ≤ 18 ∧ ((wordW nums).take a ++ (wordW nums).take b ++ (wordW nums).take c ++ [x]).length ≤ 19 ∧
    ((wordW nums).take a ++ (wordW nums).take b ++ (wordW nums).take c ++ [x] ++ (wordW nums).take d).length ≤ 25 := by
  have h1 := app_le (take_le nums a) (take_le nums b) (c := 12) (by decide)
  have h2 := app_le h1 (take_le nums c) (c := 18) (by decide)
  have h3 := app_le h2 (ys := [x]) (b := 1) (Nat.le_refl _) (c := 19) (by decide)
  exact ⟨h1, h2, h3, app_le h3 (take_le nums d) (by decide)⟩
theorem textW_len (nums : List Int) : (textW nums).length ≤ 100 :=
  app_le (app_le (textA nums _ _ _ _ _).2.2.2 (take_le nums _) (c := 31) (by decide)) (take_le nums _) (by decide)

theorem EvB.castB {c : Cx} {k : Nat} {sc : Scope} {σ : Sg} {e : Expr} {a b : Bool} (h : EvB c k sc σ e a) (q : a = b) : EvB c k sc σ e b := q ▸ h

section
variable {c : Cx} {k : Nat}
def lawS (nums : List Int) : Sg := [("text", .dat (dI (textW nums))), ("bar", PI (barW nums)), ("n", PI (wordW nums).length), ("word", .dat (dI (wordW nums))), ("nums", .dat (dI nums))]
theorem law_wpA (g : GlOk c) (F : Fns c k) (nums : List Int) (hn : nums.length ≤ 60) {Q : Fl → Sg → Prop} (hR : ∀ σ, SubS σ (lawS nums) → Wp c k (scopeOf sLaw) ((bodyOf sLaw).drop 5) σ Q) :
    Wp c k (scopeOf sLaw) ((bodyOf sLaw).drop 1) [("nums", .dat (dI nums))] Q := by
  have wl := wordW_length nums
  obtain ⟨s1, s2⟩ := sizeW_le nums
  have tl := textW_len nums
  refine Wp.cons (Wp1.assign (d := dI (wordW nums)) (Ev.call (glob_g rfl rfl g.word) F.wordC (.cons (Ev.var rfl) .nil) (F.word nums (by omega))) ⟨.inr rfl, rfl⟩ ?_)
  -- n, bar
  refine Wp.cons (Wp1.tup2 (d1 := .int (wordW nums).length) (d2 := .int (barW nums)) (Ev.tuple (.cons (Ev.lenI g (Ev.var rfl) (by omega) rfl) (.cons (Ev.add (Ev.call (glob_b rfl rfl g.max rfl bb_max) trivial (.cons (Ev.var rfl) .nil) (cg_max (maxW_is (xs := wordW nums) (by omega)))) (.int (i := 2))) .nil)) (by simp)) ⟨.inr rfl, rfl⟩ ⟨.inl rfl, rfl⟩ ?_)
  -- cuts
  refine Wp.cons (Wp1.assignComp [("nums", .dat (dI nums)), ("n", PI (wordW nums).length)] (rng 0 5) (((List.range 5).map (cutW nums)).map .int) rfl ⟨⟨rfl, rfl, rfl⟩, ⟨rfl, rfl, rfl⟩, trivial⟩
    (EvI.range1 (b := 5) (glob_b rfl rfl g.range rfl bb_range) .int (by decide) (by decide)) ?_ (by simp [rng]) ⟨.inl rfl, rfl⟩ ?_)
  · unfold rng
    rw [List.map_map]
    refine comp_map _ _ fun j hj => ?_
    have hj := List.mem_range.mp hj
    have vJ : ∀ {sc : Scope} {p : Pos}, Ev c k sc [("k", PI (0 + (j : Int))), ("nums", .dat (dI nums)), ("n", PI (wordW nums).length)] (.Name "k" p) (PI (j : Nat)) := fun {sc p} => (Ev.var (pv := PI (0 + (j : Int))) rfl).castI (by omega)
    exact ⟨rfl, Ev.mod (Ev.add (Ev.itemT (xs := c5L.map .int) j (Ev.tuple (ds := c5L.map .int) (.cons .int (.cons .int (.cons .int (.cons .int (.cons .int .nil)))))) vJ rfl (getI (by show _ < 5; omega)) (by decide))
      (Ev.sumI g (Ev.stride (a := j) (b := 5) (Ev.var rfl) vJ .int (by decide) (by omega)) rfl)) (Ev.add (Ev.var (pv := PI (wordW nums).length) rfl) (.int (i := 1))) (by omega)⟩
  -- text
  have cb : ∀ j, 0 ≤ cutW nums j := fun j => (fmod_bd _ _).1
  have sb : 0 ≤ nums.sum.fmod 2 ∧ nums.sum.fmod 2 < 2 := by rw [Int.fmod_eq_emod_of_nonneg _ (by omega)]; omega
  refine Wp.cons (Wp1.assign (d := dI (textW nums)) ?_ ⟨.inr rfl, rfl⟩ ?_)
  · have vC : ∀ j, j < 5 → (((List.range 5).map (cutW nums)).map PyData.int)[j]? = some (.int (cutW nums j)) := fun j hj => by
      rw [List.getElem?_map, map_range_get _ hj]; rfl
    have sl : ∀ {σ : Sg} {p p1 p2 p3 p4 p5 : Pos} {nn : Nat} (j : Nat), j < 5 → σ.lookup ("cuts" : Str) = some (.dat (.list (((List.range 5).map (cutW nums)).map .int))) → σ.lookup ("word" : Str) = some (.dat (dI (wordW nums))) →
        Ev c k (scopeOf sLaw) σ (.Subscript (.Name "word" p) (.Slice none (some (.Subscript (.Name "cuts" p1) (.Constant (.int j) nn p2) p3)) none p4) p5) (.dat (dI ((wordW nums).take (cutW nums j).toNat))) :=
      fun {σ p p1 p2 p3 p4 p5 nn} j hj h1 h2 => Ev.sliceI (a := none) (b := some (cutW nums j)) (Ev.var h2) .no (.mk (Ev.item j (Ev.var h1) .int rfl (vC j hj) (by simp))) trivial (cb j) (by omega)
    unfold textW
    exact (EvF.cat (EvF.cat (EvF.cat (EvF.cat (EvF.cat (EvF.cat (sl 0 (by omega) rfl rfl) (sl 1 (by omega) rfl rfl) (sum_le (take_le nums _) (take_le nums _) (by decide))).ev (sl 2 (by omega) rfl rfl) (sum_le (textA nums _ _ 0 0 0).1 (take_le nums _) (by decide))).ev
      (EvF.ev (EvF.list (is := [barW nums - 1]) (.cons (Ev.sub (Ev.var (pv := PI (barW nums)) rfl) (.int (i := 1))) .nil) (by simp))) (sum_le (textA nums _ _ _ 0 0).2.1 (Nat.le_refl _) (by simp))).ev (sl 3 (by omega) rfl rfl) (sum_le (textA nums _ _ _ 0 _).2.2.1 (take_le nums _) (by decide))).ev (sl 4 (by omega) rfl rfl) (sum_le (textA nums _ _ _ _ _).2.2.2 (take_le nums _) (by decide))).ev
      (Ev.sliceI (a := none) (b := some ((wordW nums).length - nums.sum.fmod 2)) (Ev.var rfl) .no (.mk (Ev.sub (Ev.var (pv := PI (wordW nums).length) rfl) (Ev.mod (Ev.sumI g (Ev.var rfl) rfl) (.int (i := 2)) (by decide)))) trivial (by show 0 ≤ _; omega) (by omega)) (sum_le (app_le (textA nums _ _ _ _ _).2.2.2 (take_le nums _) (c := 31) (by decide)) (take_le nums _) (by decide))).ev
  · exact hR _ ⟨rfl, rfl, rfl, rfl, rfl, trivial⟩
end
end Mine

namespace Mine
section
variable {c : Cx} {k : Nat}
theorem law_wpB (g : GlOk c) (F : Fns c k) (nums : List Int) (hn : nums.length ≤ 60) {Q : Fl → Sg → Prop} (hR : ∀ σ, SubS σ (("table", .dat (dI (kmp (wordW nums)))) :: lawS nums) → Wp c k (scopeOf sLaw) ((bodyOf sLaw).drop 11) σ Q) :
    ∀ σ, SubS σ (lawS nums) → Wp c k (scopeOf sLaw) ((bodyOf sLaw).drop 5) σ Q := by
  intro σ hs
  have wl := wordW_length nums
  obtain ⟨s1, s2⟩ := sizeW_le nums
  have kl := kmp_length (wordW nums)
  have vW : σ.lookup ("word" : Str) = some (.dat (dI (wordW nums))) := hs.le _ _ rfl
  have vN : σ.lookup ("n" : Str) = some (PI (wordW nums).length) := hs.le _ _ rfl
  have vT : σ.lookup ("text" : Str) = some (.dat (dI (textW nums))) := hs.le _ _ rfl
  have vB : σ.lookup ("bar" : Str) = some (PI (barW nums)) := hs.le _ _ rfl
  have vM : σ.lookup ("nums" : Str) = some (.dat (dI nums)) := hs.le _ _ rfl
  refine Wp.cons (Wp1.assign (d := dI (wordW nums)) (Ev.call (glob_b rfl rfl g.list rfl bb_list) trivial (.cons (Ev.var vW) .nil) (aF.aD (cg_list (by omega)))) ⟨.inl rfl, rfl⟩ ?_)
  refine Wp.cons (Wp1.assignF (is := kmp (wordW nums)) (EvF.call (glob_g rfl rfl g.gen) F.genC (.cons (Ev.var vW) .nil) (F.gen _ (by omega) (by omega))) ⟨.inl rfl, rfl⟩ ?_)
  refine Wp.cons (Wp1.ite (b := false) (EvB.freeze (x := "table") (xs := (kmp (wordW nums)).map .int) [("n", .int (wordW nums).length), ("word", dI (wordW nums)), ("kept", dI (wordW nums))] rfl ⟨vN, vW, rfl, trivial⟩
    (EvB.castB (EvB.or3 (EvB.not (EvB.ofBool (Ev.isinst2 (glob_b rfl rfl g.isinstance rfl bb_isinstance) (glob_b rfl rfl g.list rfl bb_list) (Ev.var rfl) isi_list)))
      (fun _ => EvB.cmp (Ev.lenI (xs := kmp (wordW nums)) g (Ev.var rfl) (by omega) rfl) (Ev.var (pv := PI (wordW nums).length) rfl) CmpGives.neI)
      (fun _ _ => EvB.cmp (Ev.var (pv := .dat (dI (wordW nums))) rfl) (Ev.var (pv := .dat (dI (wordW nums))) rfl) CmpGives.neL)) (by simp [kl]))) (fun h => by cases h) fun _ => Wp.nil ?_)
  refine Wp.cons (Wp1.append (xs := (kmp (wordW nums)).map .int) (d := .int (wordW nums).length) rfl (Ev.var vN) (by simp; omega) ?_)
  refine Wp.cons (Wp1.assignF (is := kmp (wordW nums)) (EvF.call (glob_g rfl rfl g.gen) F.genC (.cons (Ev.var vW) .nil) (F.gen _ (by omega) (by omega))) ⟨.inl rfl, rfl⟩ ?_)
  refine Wp.cons (Wp1.ite (b := false) (EvB.freeze (x := "table") (xs := (kmp (wordW nums)).map .int) [("n", .int (wordW nums).length)] rfl ⟨vN, trivial⟩
    (EvB.castB (EvB.or (EvB.cmp (Ev.lenI (xs := kmp (wordW nums)) g (Ev.var rfl) (by omega) rfl) (Ev.var (pv := PI (wordW nums).length) rfl) CmpGives.neI)
      (fun _ => EvB.cmp (Ev.comp [] ((kmp (wordW nums)).map .int) [] rfl trivial (EvI.list (Ev.var rfl)) (comp_none _ fun i hi => ?_) (by simp; omega)) (Ev.list (ds := []) .nil) (CmpGives.neL (xs := []) (ys := [])))) (by simp [kl]))) (fun h => by cases h) fun _ => Wp.nil ?_)
  · exact EvB.castB (EvB.or (EvB.not (EvB.ofBool (Ev.isinst2 (glob_b rfl rfl g.isinstance rfl bb_isinstance) (glob_b rfl rfl g.int rfl bb_int) (Ev.var (pv := PI i) rfl) isi_int)))
      (fun _ => EvB.ofBool (Ev.isinst2 (glob_b rfl rfl g.isinstance rfl bb_isinstance) (glob_b rfl rfl g.bool rfl bb_bool) (Ev.var (pv := PI i) rfl) isi_bool))) rfl
  refine Wp.freeze (x := "table") (xs := (kmp (wordW nums)).map .int) rfl ?_
  exact hR _ ⟨rfl, vT, vB, vN, vW, vM, trivial⟩
end
end Mine

namespace Mine

def kmpAt (w : List Int) (s : Nat) : Int := (kmp w).getD (s - 1) 0
def laidS (w : List Int) (s : Nat) : Sg := [("cut", PI (cutF (w.take s))), ("step", PI (stepW w s))]
def lawS2 (nums : List Int) : Sg := ("table", .dat (dI (kmp (wordW nums)))) :: lawS nums

theorem topD_tail (w : List Int) (sg : Int) : cutL (some (1 : Int)) none [PyData.int (topF w sg), dI (lapsF w sg), .int (cmpM w sg), .int (cmpR w sg 0 0)] = [dI (lapsF w sg), .int (cmpM w sg), .int (cmpR w sg 0 0)] := rfl

section
variable {c : Cx} {k : Nat}
/-- one turn of the law's loop -/
theorem law_turn (g : GlOk c) (F : Fns c k) (nums : List Int) (hn : nums.length ≤ 60) {bar : Int} {t : List Int} (L : LawOk (wordW nums) t bar) {Q : Fl → Sg → Prop} (s : Nat) (h1 : 1 ≤ s) (h2 : s ≤ (wordW nums).length)
    (hR : ∀ σ, SubS σ (lawS2 nums) → SubS σ (laidS (wordW nums) s) → Q .nxt σ) :
    ∀ σ, SubS σ (("size", PI s) :: lawS2 nums) → Wp c k (scopeOf sLaw) (forBody (nth (bodyOf sLaw) 11)) σ Q := by
  intro σ hs
  have wl := wordW_length nums
  obtain ⟨s1, s2⟩ := sizeW_le nums
  have kl := kmp_length (wordW nums)
  have hl : ((wordW nums).take s).length = s := by rw [List.length_take]; omega
  have vZ : σ.lookup ("size" : Str) = some (PI s) := hs.le _ _ rfl
  have vK : σ.lookup ("table" : Str) = some (.dat (dI (kmp (wordW nums)))) := hs.le _ _ rfl
  have vW : σ.lookup ("word" : Str) = some (.dat (dI (wordW nums))) := hs.le _ _ rfl
  have vN : σ.lookup ("n" : Str) = some (PI (wordW nums).length) := hs.le _ _ rfl
  have vT : σ.lookup ("text" : Str) = some (.dat (dI (textW nums))) := hs.le _ _ rfl
  have vB : σ.lookup ("bar" : Str) = some (PI (barW nums)) := hs.le _ _ rfl
  have vM : σ.lookup ("nums" : Str) = some (.dat (dI nums)) := hs.le _ _ rfl
  -- head
  have eh : cutL none (some (s : Int)) (wordW nums) = (wordW nums).take s := rfl
  refine Wp.cons (Wp1.assign (d := dI ((wordW nums).take s)) ((Ev.sliceI (a := none) (b := some (s : Int)) (Ev.var vW) .no (.mk (Ev.var vZ)) trivial (Int.natCast_nonneg _) (by omega)).cast (by rw [eh])) ⟨.inr rfl, rfl⟩ ?_)
  have vH : (("head", .dat (dI ((wordW nums).take s))) :: σ : Sg).lookup ("head" : Str) = some (.dat (dI ((wordW nums).take s))) := rfl
  have vK1 : (("head", .dat (dI ((wordW nums).take s))) :: σ : Sg).lookup ("table" : Str) = some (.dat (dI (kmp (wordW nums)))) := vK
  have vZ1 : (("head", .dat (dI ((wordW nums).take s))) :: σ : Sg).lookup ("size" : Str) = some (PI s) := vZ
  -- up, down, chain
  refine Wp.cons (Wp1.tup3s (d1 := topD ((wordW nums).take s) 1) (d2 := topD ((wordW nums).take s) (-1)) (d3 := dI (chainF (kmp (wordW nums)) s)) (Ev.tuple (.cons (Ev.call (glob_g rfl rfl g.top) F.topC (.cons (Ev.var vH) (.cons (.int (i := 1)) .nil)) (F.top _ 1 (by omega) (by omega) (by decide)))
    (.cons (Ev.call (glob_g rfl rfl g.top) F.topC (.cons (Ev.var vH) (.cons (Ev.neg (.int (i := 1))) .nil)) (F.top _ (-1) (by omega) (by omega) (by decide)))
    (.cons (Ev.call (glob_g rfl rfl g.chain) F.chainC (.cons (Ev.var vK1) (.cons (Ev.var vZ1) .nil)) (F.chain _ s (by omega) (by omega))) .nil))) (by simp)) ⟨.inl rfl, rfl⟩ ⟨.inl rfl, rfl⟩ ⟨.inl rfl, rfl⟩ ?_)
  have tail : ∀ σ : Sg, SubS σ (("up", .dat (topD ((wordW nums).take s) 1)) :: ("down", .dat (topD ((wordW nums).take s) (-1))) :: ("chain", .dat (dI (chainF (kmp (wordW nums)) s))) :: ("head", .dat (dI ((wordW nums).take s))) :: ("size", PI s) :: lawS2 nums) →
      Wp c k (scopeOf sLaw) ((forBody (nth (bodyOf sLaw) 11)).drop 2) σ Q := by
    intro σ hs
    have vU : σ.lookup ("up" : Str) = some (.dat (topD ((wordW nums).take s) 1)) := hs.le _ _ rfl
    have vD : σ.lookup ("down" : Str) = some (.dat (topD ((wordW nums).take s) (-1))) := hs.le _ _ rfl
    have vC : σ.lookup ("chain" : Str) = some (.dat (dI (chainF (kmp (wordW nums)) s))) := hs.le _ _ rfl
    have vH : σ.lookup ("head" : Str) = some (.dat (dI ((wordW nums).take s))) := hs.le _ _ rfl
    have vZ : σ.lookup ("size" : Str) = some (PI s) := hs.le _ _ rfl
    have vK : σ.lookup ("table" : Str) = some (.dat (dI (kmp (wordW nums)))) := hs.le _ _ rfl
    have vW : σ.lookup ("word" : Str) = some (.dat (dI (wordW nums))) := hs.le _ _ rfl
    have vN : σ.lookup ("n" : Str) = some (PI (wordW nums).length) := hs.le _ _ rfl
    have vT : σ.lookup ("text" : Str) = some (.dat (dI (textW nums))) := hs.le _ _ rfl
    have vB : σ.lookup ("bar" : Str) = some (PI (barW nums)) := hs.le _ _ rfl
    have vM : σ.lookup ("nums" : Str) = some (.dat (dI nums)) := hs.le _ _ rfl
    -- the orders
    have part : ∀ (sg : Int), (sg = 1 ∨ sg = -1) → [dI (lapsF ((wordW nums).take s) sg), PyData.int (cmpM ((wordW nums).take s) sg), PyData.int (cmpR ((wordW nums).take s) sg 0 0)] = [dI (chainF (kmp (wordW nums)) s), .int (-(sg * (2 * s))), .int 0] := fun sg h => by
      rw [L.laps s h1 h2 sg h, L.more s h1 h2 sg h, L.zero s h1 h2 sg]
    refine Wp.cons (Wp1.ite (b := false) (EvB.castB (EvB.or
      (EvB.cmp (p := .list [dI (chainF (kmp (wordW nums)) s), .int (-2 * s), .int 0]) (q := .list [dI (chainF (kmp (wordW nums)) s), .int (-2 * s), .int 0])
        ((Ev.slice (a := some 1) (b := none) (Ev.var vU) (.mk .int) .no (show (0 : Int) ≤ 1 by decide) trivial (by simp)).cast (by rw [topD_tail, part 1 (.inl rfl)]; congr 5; omega))
        (Ev.list (.cons (Ev.var vC) (.cons (Ev.mul (Ev.neg (.int (i := 2))) (Ev.var vZ) (mulOkL (by decide))) (.cons (.int (i := 0)) .nil))) (by simp)) (CmpGives.neSame (shaped3 _ _ _)))
      (fun _ => EvB.cmp (p := .list [dI (chainF (kmp (wordW nums)) s), .int (2 * s), .int 0]) (q := .list [dI (chainF (kmp (wordW nums)) s), .int (2 * s), .int 0])
        ((Ev.slice (a := some 1) (b := none) (Ev.var vD) (.mk .int) .no (show (0 : Int) ≤ 1 by decide) trivial (by simp)).cast (by rw [topD_tail, part (-1) (.inr rfl)]; congr 5; omega))
        (Ev.list (.cons (Ev.var vC) (.cons (Ev.mul (.int (i := 2)) (Ev.var vZ) (mulOkL (by decide))) (.cons (.int (i := 0)) .nil))) (by simp)) (CmpGives.neSame (shaped3 _ _ _)))) rfl) (fun h => by cases h) fun _ => Wp.nil ?_)
    -- cut, step
    have gs : ((kmp (wordW nums)).map PyData.int)[s - 1]? = some (.int (kmpAt (wordW nums) s)) := getI (by omega)
    refine Wp.cons (Wp1.tup2s (d1 := .int (cutF ((wordW nums).take s))) (d2 := .int (stepW (wordW nums) s)) (Ev.tuple (.cons ?_ (.cons ?_ .nil)) (by simp)) ⟨.inl rfl, rfl⟩ ⟨.inl rfl, rfl⟩ ?_)
    · exact (Ev.call (glob_b rfl rfl g.max rfl bb_max) trivial (.cons (Ev.item (i := 0) 0 (Ev.var vU) .int rfl rfl (by simp)) (.cons (Ev.item (i := 0) 0 (Ev.var vD) .int rfl rfl (by simp)) .nil)) cg_max2).castI (by unfold cutF; omega)
    · exact Ev.sub (Ev.var vZ) (Ev.item (s - 1) (Ev.var vK) ((Ev.sub (Ev.var vZ) (.int (i := 1))).castI (b := ((s - 1 : Nat) : Int)) (by omega)) rfl gs (by simp; omega))
    have tail2 : ∀ σ : Sg, SubS σ (("cut", PI (cutF ((wordW nums).take s))) :: ("step", PI (stepW (wordW nums) s)) :: ("head", .dat (dI ((wordW nums).take s))) :: ("size", PI s) :: lawS2 nums) →
        Wp c k (scopeOf sLaw) ((forBody (nth (bodyOf sLaw) 11)).drop 4) σ Q := by
      intro σ hs
      have vC : σ.lookup ("cut" : Str) = some (PI (cutF ((wordW nums).take s))) := hs.le _ _ rfl
      have vS : σ.lookup ("step" : Str) = some (PI (stepW (wordW nums) s)) := hs.le _ _ rfl
      have vH : σ.lookup ("head" : Str) = some (.dat (dI ((wordW nums).take s))) := hs.le _ _ rfl
      have vZ : σ.lookup ("size" : Str) = some (PI s) := hs.le _ _ rfl
      have vK : σ.lookup ("table" : Str) = some (.dat (dI (kmp (wordW nums)))) := hs.le _ _ rfl
      have vW : σ.lookup ("word" : Str) = some (.dat (dI (wordW nums))) := hs.le _ _ rfl
      have vN : σ.lookup ("n" : Str) = some (PI (wordW nums).length) := hs.le _ _ rfl
      have vT : σ.lookup ("text" : Str) = some (.dat (dI (textW nums))) := hs.le _ _ rfl
      have vB : σ.lookup ("bar" : Str) = some (PI (barW nums)) := hs.le _ _ rfl
      have vM : σ.lookup ("nums" : Str) = some (.dat (dI nums)) := hs.le _ _ rfl
      have cl : cutF ((wordW nums).take s) ≤ s := by have := L.cutlt s h1 h2; have := L.stepn s h1 h2; omega
      refine Wp.cons (Wp1.ite (b := false) (EvB.castB (EvB.cmp (Ev.var vS) (Ev.call (glob_b rfl rfl g.max rfl bb_max) trivial (.cons (EvF.cat (xs := [1]) (ys := (List.range (s - 1)).map fun j => (locF ((wordW nums).take s) (1 + j) : Int)) (EvF.list (is := [1]) (.cons .int .nil)).ev
        ((Ev.comp [("head", .dat (dI ((wordW nums).take s)))] (rng 1 (s - 1)) (((List.range (s - 1)).map fun j => (locF ((wordW nums).take s) (1 + j) : Int)).map .int) rfl ⟨⟨rfl, rfl, vH⟩, trivial⟩
          (EvI.range2 (a := 1) (b := s) (glob_b rfl rfl g.range rfl bb_range) .int (Ev.var vZ) (by decide) (by omega) (by omega)) ?_ (by simp [rng]; omega))) (by simp; omega)).ev .nil) (cg_max (L.step s h1 h2))) CmpGives.neI) (by simp)) (fun h => by cases h) fun _ => Wp.nil ?_)
      · unfold rng
        rw [List.map_map]
        refine comp_map _ _ fun j hj => ?_
        have hj := List.mem_range.mp hj
        exact ⟨rfl, Ev.call (glob_g rfl rfl g.loc) F.locC (.cons (Ev.var rfl) (.cons ((Ev.var (pv := PI (1 + (j : Int))) rfl).castI (b := ((1 + j : Nat) : Int)) (by omega)) .nil)) (F.loc _ (1 + j) (by omega) (by omega))⟩
      · refine Wp.cons (Wp1.ite (b := false) (EvB.castB (EvB.or (EvB.cmp (Ev.var vC) (Ev.var vS) CmpGives.ge) (fun _ => EvB.cmp (p := .int (stepW (wordW nums) s)) (Ev.ifexp (EvB.cmp (Ev.var vC) (.int (i := 0)) CmpGives.gt)
          (fun hb => (Ev.call (glob_g rfl rfl g.loc) F.locC (.cons (Ev.var vH) (.cons (Ev.var vC) .nil)) (F.loc _ _ (by omega) (by omega))).castI ?_) (fun hb => (Ev.int (i := 1)).castI ?_)) (Ev.var vS) CmpGives.neI)) ?_) (fun h => by cases h) fun _ => Wp.nil ?_)
        · have hb : ((cutF ((wordW nums).take s) : Nat) : Int) > 0 := of_decide_eq_true hb
          have := L.loc s h1 h2
          rwa [if_pos (by omega)] at this
        · have hb : ¬ ((cutF ((wordW nums).take s) : Nat) : Int) > 0 := of_decide_eq_false hb
          have := L.loc s h1 h2
          rwa [if_neg (by omega)] at this
        · have := L.cutlt s h1 h2
          have e : decide (((cutF ((wordW nums).take s) : Nat) : Int) ≥ stepW (wordW nums) s) = false := decide_eq_false (by omega)
          rw [e]; simp
        · exact Wp.nil (hR σ ⟨vK, vT, vB, vN, vW, vM, trivial⟩ ⟨vC, vS, trivial⟩)
    exact tail2 _ ⟨rfl, rfl, vH, vZ, vK, vT, vB, vN, vW, vM, trivial⟩
  exact tail _ ⟨rfl, rfl, rfl, rfl, vZ, vK, vT, vB, vN, vW, vM, trivial⟩

theorem law_wpC (g : GlOk c) (F : Fns c k) (nums : List Int) (hn : nums.length ≤ 60) {bar : Int} {t : List Int} (L : LawOk (wordW nums) t bar) {Q : Fl → Sg → Prop}
    (hR : ∀ σ, SubS σ (lawS2 nums) → SubS σ (laidS (wordW nums) (wordW nums).length) → Wp c k (scopeOf sLaw) ((bodyOf sLaw).drop 12) σ Q) :
    ∀ σ, SubS σ (lawS2 nums) → Wp c k (scopeOf sLaw) ((bodyOf sLaw).drop 11) σ Q := by
  intro σ hs
  have wl := wordW_length nums
  obtain ⟨s1, s2⟩ := sizeW_le nums
  have vN : σ.lookup ("n" : Str) = some (PI (wordW nums).length) := hs.le _ _ rfl
  refine Wp.cons (Wp1.for1 (ds := rng 1 (wordW nums).length) ⟨.inl rfl, rfl⟩ (EvI.range2 (a := 1) (b := ((wordW nums).length : Int) + 1) (glob_b rfl rfl g.range rfl bb_range) .int (Ev.add (Ev.var vN) .int) (by decide) (by omega) (by omega)) ?_)
  have main : ∀ (m s : Nat) (σ : Sg), s + m = (wordW nums).length + 1 → 1 ≤ s → SubS σ (lawS2 nums) → (2 ≤ s → SubS σ (laidS (wordW nums) (s - 1))) →
      WpFor c k (scopeOf sLaw) (forBody (nth (bodyOf sLaw) 11)) (fun d σ => ("size", .dat d) :: σ) (seqQ c k (scopeOf sLaw) ((bodyOf sLaw).drop 12) Q) (rng s m) σ := by
    intro m
    induction m with
    | zero =>
      intro s σ e h1 hs hl
      have e : s - 1 = (wordW nums).length := by omega
      exact hR σ hs (e ▸ hl (by omega))
    | succ m ih =>
      intro s σ e h1 hs hl
      rw [range_cons]
      refine law_turn g F nums hn L s h1 (by omega) (fun σ' hs' hl' => ?_) _ ⟨rfl, ?_⟩
      · have := ih (s + 1) σ' (by omega) (by omega) hs' (fun _ => hl')
        rw [show (((s + 1 : Nat) : Int)) = (s : Int) + 1 by omega] at this
        exact this
      · exact ⟨hs.1, hs.2.1, hs.2.2.1, hs.2.2.2.1, hs.2.2.2.2.1, hs.2.2.2.2.2.1, trivial⟩
  exact main _ 1 σ (by omega) (by omega) hs fun h => by omega
end
end Mine

namespace Mine
section
variable {c : Cx} {k : Nat}
theorem law_wpD (g : GlOk c) (F : Fns c k) (nums : List Int) (hn : nums.length ≤ 60) (L : LawOk (wordW nums) (textW nums) (barW nums)) :
    ∀ σ, SubS σ (lawS2 nums) → SubS σ (laidS (wordW nums) (wordW nums).length) → Wp c k (scopeOf sLaw) ((bodyOf sLaw).drop 12) σ (fun fl _ => fl = .ret (PB true)) := by
  intro σ hs hl
  have wl := wordW_length nums
  obtain ⟨s1, s2⟩ := sizeW_le nums
  have tl := textW_len nums
  have vK : σ.lookup ("table" : Str) = some (.dat (dI (kmp (wordW nums)))) := hs.le _ _ rfl
  have vW : σ.lookup ("word" : Str) = some (.dat (dI (wordW nums))) := hs.le _ _ rfl
  have vN : σ.lookup ("n" : Str) = some (PI (wordW nums).length) := hs.le _ _ rfl
  have vT : σ.lookup ("text" : Str) = some (.dat (dI (textW nums))) := hs.le _ _ rfl
  have vB : σ.lookup ("bar" : Str) = some (PI (barW nums)) := hs.le _ _ rfl
  have et : (wordW nums).take (wordW nums).length = wordW nums := List.take_length ..
  have vC : σ.lookup ("cut" : Str) = some (PI (cutF (wordW nums))) := by have := hl.1; rwa [et] at this
  have vS : σ.lookup ("step" : Str) = some (PI (stepW (wordW nums) (wordW nums).length)) := hl.2.1
  have c1 := L.cutlt (wordW nums).length (by omega) (by omega)
  have c2 := L.stepn (wordW nums).length (by omega) (by omega)
  rw [et] at c1
  generalize hW : wordW nums = w at *
  generalize hT : textW nums = t at *
  generalize hB : barW nums = bar at *
  have ll : (w ++ [bar] ++ t).length = w.length + 1 + t.length := by simp; omega
  have kl : (kmp (w ++ [bar] ++ t)).length = w.length + 1 + t.length := by rw [kmp_length, ll]
  refine Wp.cons (Wp1.assignF (is := kmp (w ++ [bar] ++ t)) (EvF.call (glob_g rfl rfl g.gen) F.genC (.cons (EvF.cat (EvF.cat (Ev.var vW) (EvF.list (is := [bar]) (.cons (Ev.var vB) .nil) (by simp)).ev (by simp; omega)).ev (Ev.var vT) (by simp; omega)).ev .nil) (F.gen _ (by omega) (by omega))) ⟨.inr rfl, rfl⟩ ?_)
  refine Wp.freeze (x := "longest") (xs := (kmp (w ++ [bar] ++ t)).map .int) rfl ?_
  refine Wp.cons (Wp1.assignComp [("longest", .dat (dI (kmp (w ++ [bar] ++ t)))), ("n", PI w.length)] (rng 0 (w.length + 1 + t.length)) ((placesF w t bar).map .int) rfl ⟨⟨rfl, rfl, rfl⟩, ⟨rfl, rfl, vN⟩, trivial⟩
    (EvI.range1 (b := ((kmp (w ++ [bar] ++ t)).length : Int)) (glob_b rfl rfl g.range rfl bb_range) (Ev.lenI (xs := kmp (w ++ [bar] ++ t)) g (Ev.var rfl) (by omega) rfl) (by omega) (by omega)) ?_ (by simp [rng]; omega) ⟨.inl rfl, rfl⟩ ?_)
  · unfold placesF rng
    rw [List.map_map, ← filterMap_if]
    refine comp_fm _ _ fun j hj => ?_
    have hj := List.mem_range.mp hj
    have vJ : ∀ {sc : Scope} {p : Pos}, Ev c k sc [("k", PI (0 + (j : Int))), ("longest", .dat (dI (kmp (w ++ [bar] ++ t)))), ("n", PI w.length)] (.Name "k" p) (PI (j : Nat)) := fun {sc p} => (Ev.var (pv := PI (0 + (j : Int))) rfl).castI (by omega)
    exact ElOk.filt (EvB.cmp (Ev.item (xs := (kmp (w ++ [bar] ++ t)).map .int) j (Ev.var rfl) vJ rfl (getI (by omega)) (by rw [List.length_map]; omega)) (Ev.var (pv := PI w.length) rfl) CmpGives.eqI) fun _ => Ev.sub vJ (Ev.mul (.int (i := 2)) (Ev.var (pv := PI w.length) rfl) (mulOkL (by decide)))
  have vT2 : (("places", .dat (.list ((placesF w t bar).map .int))) :: ("longest", .dat (.list ((kmp (w ++ [bar] ++ t)).map .int))) :: ("longest", .own ((kmp (w ++ [bar] ++ t)).map .int)) :: σ : Sg).lookup ("text" : Str) = some (.dat (dI t)) := vT
  have vN2 : (("places", .dat (.list ((placesF w t bar).map .int))) :: ("longest", .dat (.list ((kmp (w ++ [bar] ++ t)).map .int))) :: ("longest", .own ((kmp (w ++ [bar] ++ t)).map .int)) :: σ : Sg).lookup ("n" : Str) = some (PI w.length) := vN
  refine Wp.cons (Wp1.assignComp [("text", .dat (dI t)), ("n", PI w.length), ("word", .dat (dI w))] (rng 0 ((t.length : Int) - w.length + 1).toNat) ((occF w t).map .int) rfl ⟨⟨rfl, rfl, vT⟩, ⟨rfl, rfl, vN⟩, ⟨rfl, rfl, vW⟩, trivial⟩
    (EvI.range1 (glob_b rfl rfl g.range rfl bb_range) (Ev.add (Ev.sub (Ev.lenI (xs := t) g (Ev.var vT2) (by omega) rfl) (Ev.var vN2)) (.int (i := 1))) (by omega) rfl) ?_ (by simp [rng]; omega) ⟨.inl rfl, rfl⟩ ?_)
  · unfold occF rng
    rw [List.map_map, ← filterMap_if]
    refine comp_fm _ _ fun j hj => ?_
    have hj := List.mem_range.mp hj
    have vJ : ∀ {sc : Scope} {p : Pos}, Ev c k sc [("k", PI (0 + (j : Int))), ("text", .dat (dI t)), ("n", PI w.length), ("word", .dat (dI w))] (.Name "k" p) (PI (j : Nat)) := fun {sc p} => (Ev.var (pv := PI (0 + (j : Int))) rfl).castI (by omega)
    have ecut : cutL (some (j : Int)) (some ((j + w.length : Nat) : Int)) t = winL w t j := by
      simp only [cutL, winL, Int.toNat_natCast]
      congr 1; omega
    exact ElOk.filt (EvB.cmp ((Ev.sliceI (xs := t) (a := some (j : Int)) (b := some ((j + w.length : Nat) : Int)) (Ev.var rfl) (.mk vJ) (.mk ((Ev.add vJ (Ev.var (pv := PI w.length) rfl)).castI (b := ((j + w.length : Nat) : Int)) (by omega))) (Int.natCast_nonneg _) (Int.natCast_nonneg _) (by omega)).cast (by rw [ecut])) (Ev.var (pv := .dat (dI w)) rfl) CmpGives.eqL) fun _ => vJ
  have hst : ((stepW w w.length).toNat : Int) = stepW w w.length := by omega
  have vS3 : σ.lookup ("step" : Str) = some (PI (stepW w w.length).toNat) := by rw [hst]; exact vS
  refine Wp.weaken [("found", .dat (dI (occF w t))), ("places", .dat (dI (placesF w t bar))), ("word", .dat (dI w)), ("text", .dat (dI t)), ("cut", PI (cutF w)), ("step", PI (stepW w w.length).toNat)] ?_ (SubS.le ⟨rfl, rfl, vW, vT, vC, vS3, trivial⟩)
  refine Wp.cons (Wp1.ret (d := .bool true) (Ev.cast (Ev.andV (Ev.cmp (Ev.var (pv := .dat (dI (placesF w t bar))) rfl) (Ev.var (pv := .dat (dI (occF w t))) rfl) CmpGives.eqL)
    (fun _ => Ev.cmp (EvF.call (glob_g rfl rfl g.walk) F.walkC (.cons (Ev.var rfl) (.cons (Ev.var rfl) (.cons (Ev.var rfl) (.cons (Ev.var rfl) .nil)))) (F.walk w t (cutF w) (stepW w w.length).toNat (by omega) (by omega) (by omega) (by omega) (by omega))).ev (Ev.var (pv := .dat (dI (occF w t))) rfl) CmpGives.eqL)) ?_) rfl)
  rw [L.places, L.walk]; simp

theorem law_wp (g : GlOk c) (F : Fns c k) (nums : List Int) (hn : nums.length ≤ 60) (L : LawOk (wordW nums) (textW nums) (barW nums)) :
    Wp c k (scopeOf sLaw) ((bodyOf sLaw).drop 1) [("nums", .dat (dI nums))] (fun fl _ => fl = .ret (PB true)) :=
  law_wpA g F nums hn (law_wpB g F nums hn (law_wpC g F nums hn L (law_wpD g F nums hn L)))
end
end Mine

namespace Mine

def FnIs (c : Cx) (a : Addr) (st : Stmt) (ns : List Str) : Prop := ∃ fd, FnAt c a fd (bodyOf st) ns ∧ fd.scope = scopeOf st

section
variable {c : Cx} {k : Nat} {a : Addr} {st : Stmt} {ns : List Str}
theorem FnIs.callable (h : FnIs c a st ns) : Callable c (.ref a) := let ⟨fd, X, _⟩ := h; let ⟨o, h1, h2⟩ := X.at'; ⟨o, fd, h1, h2⟩
theorem FnIs.data (h : FnIs c a st ns) {ds : List PyData} {d : PyData} (hl : ds.length = ns.length) (hw : Wp c k (scopeOf st) (bodyOf st) (ns.zip (ds.map .dat)) (fun fl _ => fl = .ret (.dat d))) : CallG c (k + 1) (.ref a) ds (aD d) :=
  let ⟨fd, X, e⟩ := h; cg_def X hl (e ▸ hw)
theorem FnIs.own (h : FnIs c a st ns) {ds : List PyData} {is : List Int} (hl : ds.length = ns.length) (hw : Wp c k (scopeOf st) (bodyOf st) (ns.zip (ds.map .dat)) (fun fl _ => fl = .ret (.own (is.map .int)))) : CallG c (k + 1) (.ref a) ds (aF is) :=
  let ⟨fd, X, e⟩ := h; cg_defF X hl (e ▸ hw)
theorem FnIs.inst (h : FnIs c a st ns) {ps : List PV} {d : PyData} (hl : ps.length = ns.length) (hno : ∀ p ∈ ps, ∀ xs, p ≠ .own xs) (hw : Wp c k (scopeOf st) (bodyOf st) (ns.zip ps) (fun fl _ => fl = .ret (.dat d))) : CallP c (k + 1) (.ref a) ps (aD d) :=
  let ⟨fd, X, e⟩ := h; cp_def X hl hno (e ▸ hw)

structure KOk (c : Cx) : Prop where
  g : GlOk c
  tc : TCOk c.K
  gen : FnIs c 21 sGen ["prefix"]
  init : FnIs c 35 sInit ["self", "comp_select_list"]
  cmp : FnIs c 42 sCmp ["self", "left", "right"]
  word : FnIs c 54 sWord ["nums"]
  top : FnIs c 59 sTop ["word", "sign"]
  chain : FnIs c 64 sChain ["table", "size"]
  loc : FnIs c 71 sLocal ["word", "place"]
  walk : FnIs c 76 sWalk ["word", "text", "cut", "step"]

theorem KOk.cmpOk (H : KOk c) : CmpOk c (k + 1) := fun ls rs ks h1 h2 n1 n2 =>
  H.cmp.inst rfl (fun p hp xs e => by
    simp only [List.mem_cons, List.not_mem_nil, or_false] at hp
    rcases hp with rfl | rfl | rfl <;> cases e) (cmp_wp H.tc ls rs ks h1 h2 n1 n2)
theorem KOk.tcOk (H : KOk c) : TcOk c k := fun ks => by
  obtain ⟨fd, X, e⟩ := H.init
  refine cg_tc H.tc X rfl ?_ (by rw [e]; rfl) (by rw [e]; rfl)
  rw [e]
  decide
theorem KOk.fns (H : KOk c) : Fns c (k + 3) where
  gen := fun w h1 h2 => H.gen.own rfl (gen_wp H.g w h2 h1)
  genC := H.gen.callable
  word := fun nums h => H.word.data rfl (word_wp H.g nums h)
  wordC := H.word.callable
  top := fun w sg h1 h2 h3 => H.top.data rfl (top_wp H.g H.tc H.cmpOk H.tcOk w sg h2 h1 h3)
  topC := H.top.callable
  chain := fun t n h1 h2 => H.chain.data rfl (chain_wp H.g t n h1 h2)
  chainC := H.chain.callable
  loc := fun w p h1 h2 => H.loc.data rfl (local_wp H.g w p h1 h2)
  locC := H.loc.callable
  walk := fun w t cut step h1 h2 h3 h4 h5 => H.walk.own rfl (walk_wp H.g H.tc H.cmpOk H.tcOk w t cut step h1 h2 h3 h4 h5)
  walkC := H.walk.callable
end
end Mine

namespace Mine

section
variable {c : Cx} {k : Nat} {A : Around} {s : Shared} {a : Addr} {fd : FuncData} {body : List Stmt} {Q : Fl → Sg → Prop} {x : Str} {v : Value}

/-- the call of a function whose argument is known by its heap alone -/
theorem call_core1 (X : FnAt c a fd body [x]) (hA : AOk (k + 1) A) (G : Gnd c s.heap)
    (hw : ∀ (env : Env) (A' : Around) (D : Dirt) (s₁ : Shared), env.scope = fd.scope → AOk k A' → FW c (fun b o => s.heap.get? b = some o) env D [] s₁ → At env s₁.heap x v → (∀ b o, s.heap.get? b = some o → ¬ D b) →
      wpAny c.M A' (execs body env) (PostS c (fun b o => s.heap.get? b = some o) env D s₁ Q) nE s₁)
    {R : Result → Shared → Prop} (hR : ∀ u s' D' σ' fl, Kp s s' → FlRep (fun b o => s.heap.get? b = some o) D' s'.heap u fl → Q fl σ' → R (.ok (.ret (match u with | .ret u => u | _ => .none))) s') :
    codeAny c.M A (.call (.ref a) ⟨[v], []⟩) R s := by
  obtain ⟨o, ho, hd⟩ := X.at'
  have hk := X.kinds
  rw [List.all_eq_true] at hk
  have hbk : ∀ y ∈ ([x] : List Str).zip [v], fd.scope.names.lookup y.1 = some .local ∨ (fd.scope.names.lookup y.1 = some .cell ∧ ((cellsFrom (s.heap.objs.size + 1) fd.scope.names []).lookup y.1).isSome = true) := fun y hy => by
    have := hk y.1 (List.of_mem_zip hy).1
    rcases Bool.or_eq_true_iff.mp this with q | q
    · exact .inl (by simpa using q)
    · have q' : fd.scope.names.lookup y.1 = some .cell := by simpa using q
      exact .inr ⟨q', cellsFrom_some _ _ _ (.inl q')⟩
  refine codeAny_call_cells (by have := hA.dp; show A.depth < 1000; omega) (G.inK _ _ ho) hd G.lim (codeRec_of G.inK X.code) X.body (X.bind [v] rfl) X.clo hbk (fun s₁ Y => ?_) X.co X.gen X.kind
  have hsub : ∀ b o, s.heap.get? b = some o → s₁.heap.get? b = some o := Y.toInCall.keep
  have nL : ∀ o, ¬ s.heap.get? s.heap.objs.size = some o := fun o e => by rw [fresh_size] at e; cases e
  have nC : ∀ n x, (callEnvC fd s.heap.objs.size a).cells.lookup n = some x → ∀ o, ¬ s.heap.get? x = some o := fun n x h o e => by
    have h1 := Y.above n x (mem_of_lookup h)
    have h2 : x < s.heap.objs.size := Heap.lt_size e
    exact Nat.lt_irrefl _ (Nat.lt_trans h1 h2)
  have nodup : ((([x] : List Str).zip [v]).map (·.1)).Nodup := by simp
  have F : FW c (fun b o => s.heap.get? b = some o) (callEnvC fd s.heap.objs.size a) (fun x => x = s.heap.objs.size ∨ ∃ n, (callEnvC fd s.heap.objs.size a).cells.lookup n = some x) [] s₁ := by
    refine ⟨⟨G.keeps hsub, fun x h => ?_, fun x pv e => by simp at e, fun x hx => ?_, X.kind, X.gl, X.bi⟩, fun h hh => G.keeps fun b o e => hh b o e, hsub, ⟨.inl rfl, nL, _, Y.toInCall.ns⟩,
      fun x b h => ⟨.inr ⟨x, h⟩, nC x b h, _, Y.cell x b h⟩, fun x y b h1 h2 => name_of_addr Y.apart (mem_of_lookup h1) (mem_of_lookup h2), fun x xs T e hat => by simp at e⟩
    · rcases h with rfl | ⟨n, h⟩
      · obtain ⟨o, es, ep, ho, hd, _⟩ := Y.toInCall.ns
        exact ⟨o, ho, fun fs e => by rw [hd] at e; cases e⟩
      · obtain ⟨o, ho, hd⟩ := Y.cell n x h
        exact ⟨o, ho, fun fs e => by rw [hd] at e; cases e⟩
    · obtain ⟨b, hb⟩ := Option.isSome_iff_exists.mp (cellsFrom_some (x := x) fd.scope.names (s.heap.objs.size + 1) [] (.inl hx))
      exact ⟨b, hb⟩
  have hat : At (callEnvC fd s.heap.objs.size a) s₁.heap x v := by
    have hm : (x, v) ∈ ([x] : List Str).zip [v] := .head _
    rcases hbk (x, v) hm with h | ⟨h, h2⟩
    · exact .inl ⟨h, _, Y.toInCall.ns, bindL_mem (show (callEnvC fd s.heap.objs.size a).kindOf x = some .local from h) _ _ nodup hm⟩
    · obtain ⟨b, hb⟩ := Option.isSome_iff_exists.mp h2
      refine .inr ⟨h, b, hb, ?_⟩
      have := Y.cell x b hb
      rwa [bindC_mem (by show ¬ fd.scope.names.lookup x = _; rw [h]; decide) _ _ nodup hm] at this
  refine wpAny_mono (hw (callEnvC fd s.heap.objs.size a) _ _ s₁ rfl (hA.deeper _) F hat (fun b o e h => ?_)) (fun f s' p => ?_) fun _ _ x => x.elim
  · rcases h with rfl | ⟨n, h⟩
    · exact nL o e
    · exact nC n b h o e
  obtain ⟨D', σ', fl, F', b, sm, r, q⟩ := p
  exact hR f s' D' σ' fl ⟨same_trans Y.toInCall.same sm, fun b o e => F'.keep b o e⟩ r q

theorem at_load {P : Prot} {env : Env} {D : Dirt} {σ : Sg} {pos : Pos} (F : FW c P env D σ s) (h : At env s.heap x v) (hx : (x == ("__debug__" : Str)) = false) {Q' : Value → Shared → Prop} (q : Q' v s) : wpAny c.M A (eval (.Name x pos) env) Q' nE s := by
  refine wpAny_Name ?_ hx
  rcases h with ⟨hk, m, hn, hm⟩ | ⟨hk, cc, hc, hi⟩
  · exact wpAny_loadName_local F.rd.fn hk hn hm q
  · exact wpAny_loadName_cell F.rd.fn hk hc hi q

/-- nums = script[:60] -/
theorem first_stmt {P : Prot} {env : Env} {D : Dirt} {l : Addr} {vs : List Value} {is : List Int} {p1 p2 p3 p4 p5 pos : Pos} {nn : Nat} (F : FW c P env D [] s) (h0 : env.scope = scopeOf sLaw) (hat : At env s.heap "script" (.ref l)) (hl : s.heap.IsList l vs.toArray) (hi : IntsAre vs is) (hn : is.length ≤ 63)
    {Q : Fl → Sg → Prop} (q : Q .nxt [("nums", .dat (dI (is.take 60)))]) :
    wpAny c.M A (exec (.Assign [.Name "nums" p1] (.Subscript (.Name "script" p2) (.Slice none (some (.Constant (.int 60) nn p3)) none p4) p5) pos) env) (PostS c P env D s Q) nE s := by
  have hlen : vs.length = is.length := hi.length
  refine wpAny_Assign_Name (Subscript_ (at_load F hat rfl ?_)) (by cases env; dsimp only at h0; subst h0; rfl)
  refine wpAny_Slice (wpAny_evalPart_none (wpAny_evalPart_some (wpAny_Constant_int (wpAny_evalPart_none ?_))))
  have kt := Kp.toks s (s.toks + 1)
  generalize hs' : ({ s with toks := s.toks + 1 } : Shared) = s1 at kt ⊢
  have k4 := kt.trans (Kp.push s1 { cls := .type "slice", data := .fields #[.none, .int 60 s.toks, .none] })
  have hl1 : (s1.heap.push { cls := .type "slice", data := .fields #[.none, .int 60 s.toks, .none] }).IsList l vs.toArray := by
    obtain ⟨o, ho, r⟩ := hl
    exact ⟨o, k4.heap _ _ ho, r⟩
  refine tail_any (prog := c.prog) (w := c.w) (T := "list") (s := { s1 with heap := s1.heap.push { cls := .type "slice", data := .fields #[.none, .int 60 s.toks, .none] } }) hl1.typeIs slot_list_getitem.lookup
    (wpAny_getItem_list_slice hl1 (Heap.IsSliceOf.new ..) .none (.int _ _) .none (by simp) ?_ (szL (by simp; omega))) rfl
  have k5 := k4.trans (.push { s1 with heap := s1.heap.push { cls := .type "slice", data := .fields #[.none, .int 60 s.toks, .none] } } { cls := .type "list", data := .seq (slicePick vs.toArray none (some 60) none) })
  have F5 := F.keeps k5
  refine F5.storeP (pv := .dat (dI (is.take 60))) h0 ⟨.inr rfl, rfl⟩ ?_ notOwn_dat fun s' F' sm => (PostS.next F' q).after (fun _ _ _ => .rfl) (same_trans k5.same sm)
  refine .list (notD (F.keeps k4).rd.exi) (IsL.new _ _) ?_
  have := cut_pick (D := D) (h := ((s1.heap.push { cls := .type "slice", data := .fields #[.none, .int 60 s.toks, .none] }).push { cls := .type "list", data := .seq (slicePick vs.toArray none (some 60) none) })) (vs := vs.toArray) (ds := is.map .int) (RepAll.ofInts (by simpa using hi)) (lo := none) (hi := some 60) trivial (by show (0 : Int) ≤ 60; decide)
  rw [cut_map] at this
  exact this

theorem law_run (H : KOk c) (hF : FnIs c 81 sLaw ["script"]) (hA : AOk 5 A) (G : Gnd c s.heap) {l : Addr} {vs : List Value} {is : List Int} (hl : s.heap.IsList l vs.toArray) (hi : IntsAre vs is) (hn : is.length ≤ 63)
    (L : ∀ nums : List Int, nums.length ≤ 60 → LawOk (wordW nums) (textW nums) (barW nums)) {R : Result → Shared → Prop} (hR : ∀ s', Kp s s' → R (.ok (.ret (.bool true))) s') : codeAny c.M A (.call (.ref 81) ⟨[.ref l], []⟩) R s := by
  obtain ⟨fd, X, e⟩ := hF
  refine call_core1 (k := 4) (Q := fun fl _ => fl = .ret (PB true)) X hA G (fun env A' D s₁ h0 hA' F hat hD => ?_) ?_
  · have hl1 : s₁.heap.IsList l vs.toArray := by
      obtain ⟨o, ho, r⟩ := hl
      exact ⟨o, F.keep _ _ ho, r⟩
    refine wpAny_execs_cons (wpAny_mono (first_stmt (Q := seqQ c 4 (scopeOf sLaw) ((bodyOf sLaw).drop 1) (fun fl _ => fl = .ret (PB true))) F (h0.trans e) hat hl1 hi hn
      (law_wp H.g (H.fns (k := 1)) (is.take 60) (by rw [List.length_take]; omega) (L _ (by rw [List.length_take]; omega)))) (fun f s' p => ?_) fun _ _ x => x)
    obtain ⟨D', σ', fl, F', b, sm, r, q⟩ := p
    match f, fl, r, q with
    | .next, .nxt, _, q => exact wpAny_mono (q env A' _ D' s' (h0.trans e) hA' F') (fun _ _ p => p.after b sm) fun _ _ x => x
    | .brk, .brk, _, q => cases q
    | .ret v, .ret pv, r, q => exact ⟨D', σ', .ret pv, F', b, sm, r, q⟩
  · rintro u s' D' σ' fl kp r rfl
    match u, r with
    | .ret u, r =>
      have r : RepD D' s'.heap u (.bool true) := r.1
      cases r
      exact hR s' kp
end
end Mine

namespace Mine

noncomputable def cxOf (w : World) (mg : Str → Option Value) : Cx := { prog := PySem.Challenge.rw_rw0008_01.row.prog, w := w, K := hd.heap_39 w.params, gl := mg }

section
variable {w : World} {mg : Str → Option Value}
set_option maxRecDepth 100000 in
theorem fn_gen : FnIs (cxOf w mg) 21 sGen ["prefix"] :=
  ⟨_, { at' := ⟨_, rfl, rfl⟩, code := rfl, body := rfl, bind := fun vals h => by
          match vals, h with
          | [a], _ => rfl
        clo := rfl, kinds := rfl, nd := by decide, dbg := rfl, gl := rfl, bi := rfl, co := rfl, gen := rfl, kind := rfl, names := by decide }, rfl⟩
set_option maxRecDepth 100000 in
theorem fn_init : FnIs (cxOf w mg) 35 sInit ["self", "comp_select_list"] :=
  ⟨_, { at' := ⟨_, rfl, rfl⟩, code := rfl, body := rfl, bind := fun vals h => by
          match vals, h with
          | [a, b], _ => rfl
        clo := rfl, kinds := rfl, nd := by decide, dbg := rfl, gl := rfl, bi := rfl, co := rfl, gen := rfl, kind := rfl, names := by decide }, rfl⟩
set_option maxRecDepth 100000 in
theorem fn_cmp : FnIs (cxOf w mg) 42 sCmp ["self", "left", "right"] :=
  ⟨_, { at' := ⟨_, rfl, rfl⟩, code := rfl, body := rfl, bind := fun vals h => by
          match vals, h with
          | [a, b, c], _ => rfl
        clo := rfl, kinds := rfl, nd := by decide, dbg := rfl, gl := rfl, bi := rfl, co := rfl, gen := rfl, kind := rfl, names := by decide }, rfl⟩
set_option maxRecDepth 100000 in
theorem fn_word : FnIs (cxOf w mg) 54 sWord ["nums"] :=
  ⟨_, { at' := ⟨_, rfl, rfl⟩, code := rfl, body := rfl, bind := fun vals h => by
          match vals, h with
          | [a], _ => rfl
        clo := rfl, kinds := rfl, nd := by decide, dbg := rfl, gl := rfl, bi := rfl, co := rfl, gen := rfl, kind := rfl, names := by decide }, rfl⟩
set_option maxRecDepth 100000 in
theorem fn_top : FnIs (cxOf w mg) 59 sTop ["word", "sign"] :=
  ⟨_, { at' := ⟨_, rfl, rfl⟩, code := rfl, body := rfl, bind := fun vals h => by
          match vals, h with
          | [a, b], _ => rfl
        clo := rfl, kinds := rfl, nd := by decide, dbg := rfl, gl := rfl, bi := rfl, co := rfl, gen := rfl, kind := rfl, names := by decide }, rfl⟩
set_option maxRecDepth 100000 in
theorem fn_chain : FnIs (cxOf w mg) 64 sChain ["table", "size"] :=
  ⟨_, { at' := ⟨_, rfl, rfl⟩, code := rfl, body := rfl, bind := fun vals h => by
          match vals, h with
          | [a, b], _ => rfl
        clo := rfl, kinds := rfl, nd := by decide, dbg := rfl, gl := rfl, bi := rfl, co := rfl, gen := rfl, kind := rfl, names := by decide }, rfl⟩
set_option maxRecDepth 100000 in
theorem fn_loc : FnIs (cxOf w mg) 71 sLocal ["word", "place"] :=
  ⟨_, { at' := ⟨_, rfl, rfl⟩, code := rfl, body := rfl, bind := fun vals h => by
          match vals, h with
          | [a, b], _ => rfl
        clo := rfl, kinds := rfl, nd := by decide, dbg := rfl, gl := rfl, bi := rfl, co := rfl, gen := rfl, kind := rfl, names := by decide }, rfl⟩
set_option maxRecDepth 100000 in
theorem fn_walk : FnIs (cxOf w mg) 76 sWalk ["word", "text", "cut", "step"] :=
  ⟨_, { at' := ⟨_, rfl, rfl⟩, code := rfl, body := rfl, bind := fun vals h => by
          match vals, h with
          | [a, b, c, d], _ => rfl
        clo := rfl, kinds := rfl, nd := by decide, dbg := rfl, gl := rfl, bi := rfl, co := rfl, gen := rfl, kind := rfl, names := by decide }, rfl⟩
set_option maxRecDepth 100000 in
theorem fn_law : FnIs (cxOf w mg) 81 sLaw ["script"] :=
  ⟨_, { at' := ⟨_, rfl, rfl⟩, code := rfl, body := rfl, bind := fun vals h => by
          match vals, h with
          | [a], _ => rfl
        clo := rfl, kinds := rfl, nd := by decide, dbg := rfl, gl := rfl, bi := rfl, co := rfl, gen := rfl, kind := rfl, names := by decide }, rfl⟩
set_option maxRecDepth 100000 in
theorem law_at {h : Heap} (KX : (hd.heap_39 w.params).In h) (hg : h.Ns mainGlobals mg) : mg "law" = some (.ref 81) := by
  obtain ⟨o, es, ep, ho, hd', _, r⟩ := hg
  have h3 := (KX 3 _ rfl).symm.trans ho
  cases h3
  cases hd'
  exact (r _).symm.trans rfl
set_option maxRecDepth 100000 in
theorem tc_ok : TCOk (cxOf w mg).K where
  makes := rfl
  keep := rfl
  init := rfl
  initT := rfl
  sattr := rfl
  over := rfl
  taker := rfl
  hasD := rfl
  gattr := rfl
  gat := rfl
  cmp := rfl
  cmpT := rfl
  csl := rfl
  cls := ⟨_, _, rfl, rfl⟩
  fn42 := ⟨_, _, rfl, rfl⟩
set_option maxRecDepth 100000 in
theorem gl_ok {h : Heap} (KX : (hd.heap_39 w.params).In h) (hg : h.Ns mainGlobals mg) : GlOk (cxOf w mg) := by
  obtain ⟨o, es, ep, ho, hd', _, r⟩ := hg
  have h3 := (KX 3 _ rfl).symm.trans ho
  cases h3
  cases hd'
  exact { gen := (r _).symm.trans rfl, tc := (r _).symm.trans rfl, word := (r _).symm.trans rfl, top := (r _).symm.trans rfl, chain := (r _).symm.trans rfl, loc := (r _).symm.trans rfl, walk := (r _).symm.trans rfl, len := (r _).symm.trans rfl, sum := (r _).symm.trans rfl, max := (r _).symm.trans rfl, min := (r _).symm.trans rfl, abs := (r _).symm.trans rfl, range := (r _).symm.trans rfl, tuple := (r _).symm.trans rfl, list := (r _).symm.trans rfl, int := (r _).symm.trans rfl, bool := (r _).symm.trans rfl, isinstance := (r _).symm.trans rfl }
theorem k_ok {h : Heap} (KX : (hd.heap_39 w.params).In h) (hg : h.Ns mainGlobals mg) : KOk (cxOf w mg) :=
  { g := gl_ok KX hg, tc := tc_ok, gen := fn_gen, init := fn_init, cmp := fn_cmp, word := fn_word, top := fn_top, chain := fn_chain, loc := fn_loc, walk := fn_walk }
end
end Mine

namespace Mine

theorem cmpT_idx (ls rs : List Int) : ∀ ks : List (Nat × Int),
    (cmpT ls rs ks = 0 ∧ ∀ p ∈ ks, ls.getD p.1 0 = rs.getD p.1 0) ∨
    ∃ (l : Nat) (p : Nat × Int), ks[l]? = some p ∧ (∀ (l' : Nat) (q : Nat × Int), l' < l → ks[l']? = some q → ls.getD q.1 0 = rs.getD q.1 0) ∧ ((ls.getD p.1 0 < rs.getD p.1 0 ∧ cmpT ls rs ks = -p.2) ∨ (rs.getD p.1 0 < ls.getD p.1 0 ∧ cmpT ls rs ks = p.2))
  | [] => .inl ⟨rfl, fun p hp => by cases hp⟩
  | (i, d) :: r => by
    have e : cmpT ls rs ((i, d) :: r) = if ls.getD i 0 < rs.getD i 0 then -d else if ls.getD i 0 > rs.getD i 0 then d else cmpT ls rs r := rfl
    by_cases h1 : ls.getD i 0 < rs.getD i 0
    · exact .inr ⟨0, (i, d), rfl, fun l' q h => by omega, .inl ⟨h1, by rw [e, if_pos h1]⟩⟩
    by_cases h2 : ls.getD i 0 > rs.getD i 0
    · exact .inr ⟨0, (i, d), rfl, fun l' q h => by omega, .inr ⟨h2, by rw [e, if_neg h1, if_pos h2]⟩⟩
    have h3 : ls.getD i 0 = rs.getD i 0 := by omega
    rw [e, if_neg h1, if_neg h2]
    rcases cmpT_idx ls rs r with ⟨q1, q2⟩ | ⟨l, p, q1, q2, q3⟩
    · exact .inl ⟨q1, fun p hp => by cases hp with | head => exact h3 | tail _ h => exact q2 p h⟩
    · refine .inr ⟨l + 1, p, by simpa using q1, fun l' q h hq => ?_, q3⟩
      cases l' with
      | zero => simp at hq; subst hq; exact h3
      | succ l' => exact q2 l' q (by omega) (by simpa using hq)

theorem cmpT_app {ls rs : List Int} : ∀ {pre r : List (Nat × Int)}, (∀ p ∈ pre, ls.getD p.1 0 = rs.getD p.1 0) → cmpT ls rs (pre ++ r) = cmpT ls rs r
  | [], r, _ => rfl
  | (i, d) :: pre, r, h => by
    have h1 : ls.getD i 0 = rs.getD i 0 := h _ (.head _)
    have e : cmpT ls rs ((i, d) :: pre ++ r) = if ls.getD i 0 < rs.getD i 0 then -d else if ls.getD i 0 > rs.getD i 0 then d else cmpT ls rs (pre ++ r) := rfl
    rw [e, if_neg (by omega), if_neg (by omega)]
    exact cmpT_app fun p hp => h p (.tail _ hp)

theorem keysT_split {n : Nat} {sg : Int} {k : Nat} : ∀ {m : Nat}, k < m → ∃ rest, keysT n sg m = keysT n sg k ++ (keyAt n sg k ++ rest)
  | 0, h => by omega
  | m + 1, h => by
    rw [keysT_succ]
    by_cases e : k = m
    · subst e; exact ⟨[], by simp⟩
    · obtain ⟨r, hr⟩ := keysT_split (m := m) (n := n) (sg := sg) (k := k) (by omega)
      rw [hr]; exact ⟨r ++ keyAt n sg m, by simp⟩
theorem keysT_mem {n : Nat} {sg : Int} {m : Nat} {p : Nat × Int} (h : p ∈ keysT n sg m) : ∃ j, j < m ∧ (p.1 = n + j ∨ p.1 = j) := by
  obtain ⟨j, hj, hp⟩ := List.mem_flatMap.mp h
  refine ⟨j, List.mem_range.mp hj, ?_⟩
  simp only [keyAt, List.mem_cons, List.not_mem_nil, or_false] at hp
  rcases hp with rfl | rfl
  · exact .inl rfl
  · exact .inr rfl

section
variable {ls rs : List Int} {n k : Nat} {sg : Int}
theorem cmp_all (hj : ∀ j, j < n → ls.getD (n + j) 0 = rs.getD (n + j) 0 ∧ ls.getD j 0 = rs.getD j 0) : cmpT ls rs (keysT n sg n) = 0 := by
  have := cmpT_app (ls := ls) (rs := rs) (pre := keysT n sg n) (r := []) fun p hp => by
    obtain ⟨j, hj', e | e⟩ := keysT_mem hp
    · rw [e]; exact (hj j hj').1
    · rw [e]; exact (hj j hj').2
  rw [List.append_nil] at this
  exact this
theorem cmp_to (hk : k < n) (hj : ∀ j, j < k → ls.getD (n + j) 0 = rs.getD (n + j) 0 ∧ ls.getD j 0 = rs.getD j 0) :
    ∃ rest, cmpT ls rs (keysT n sg n) = if ls.getD (n + k) 0 < rs.getD (n + k) 0 then -(2 * (k : Int) + 1) else if ls.getD (n + k) 0 > rs.getD (n + k) 0 then 2 * (k : Int) + 1 else
      if ls.getD k 0 < rs.getD k 0 then -(sg * (2 * (k : Int) + 2)) else if ls.getD k 0 > rs.getD k 0 then sg * (2 * (k : Int) + 2) else rest := by
  obtain ⟨r, hr⟩ := keysT_split (n := n) (sg := sg) hk
  refine ⟨cmpT ls rs r, ?_⟩
  rw [hr, cmpT_app fun p hp => ?_]
  · rfl
  · obtain ⟨j, hj', e | e⟩ := keysT_mem hp
    · rw [e]; exact (hj j hj').1
    · rw [e]; exact (hj j hj').2
end

theorem row_let (w : List Int) {i k : Nat} (hi : i ≤ w.length) (hk : k < w.length) : (row w i).getD k 0 = if i + k < w.length then w.getD (i + k) 0 else 0 := by
  simp only [row, List.getD_eq_getElem?_getD, List.getElem?_append, List.length_append, List.length_drop, List.length_replicate, List.getElem?_replicate, List.getElem?_drop]
  repeat' split
  all_goals first | omega | rfl | simp_all
theorem row_pres (w : List Int) {i k : Nat} (hi : i ≤ w.length) (hk : k < w.length) : (row w i).getD (w.length + k) 0 = if i + k < w.length then 1 else 0 := by
  simp only [row, List.getD_eq_getElem?_getD, List.getElem?_append, List.length_append, List.length_drop, List.length_replicate, List.getElem?_replicate, List.getElem?_drop]
  repeat' split
  all_goals first | omega | rfl | simp_all

/-- the tail at a is greater than the one at b -/
def Gt (g : Nat → Int) (n : Nat) (sg : Int) (a b : Nat) : Prop := ∃ k, a + k < n ∧ (∀ j, j < k → g (a + j) = g (b + j)) ∧ (b + k = n ∨ (b + k < n ∧ sg * g (b + k) < sg * g (a + k)))

theorem gt_cmp {w : List Int} {sg : Int} (hs : sg = 1 ∨ sg = -1) {a b : Nat} (h : Gt (gg w) w.length sg a b) : 0 < cmpR w sg a b ∧ cmpR w sg b a < 0 := by
  obtain ⟨k, h1, h2, h3⟩ := h
  have hk : k < w.length := by omega
  have hb : b ≤ w.length := by omega
  have pa : ∀ j, j ≤ k → (row w a).getD (w.length + j) 0 = 1 := fun j hj => by rw [row_pres w (by omega) (by omega), if_pos (by omega)]
  have la : ∀ j, j ≤ k → (row w a).getD j 0 = gg w (a + j) := fun j hj => by rw [row_let w (by omega) (by omega), if_pos (by omega)]
  have pb : ∀ j, j < k → (row w b).getD (w.length + j) 0 = 1 := fun j hj => by rw [row_pres w (by omega) (by omega), if_pos (by omega)]
  have lb : ∀ j, j < k → (row w b).getD j 0 = gg w (b + j) := fun j hj => by rw [row_let w (by omega) (by omega), if_pos (by omega)]
  have e1 : ∀ j, j < k → (row w a).getD (w.length + j) 0 = (row w b).getD (w.length + j) 0 ∧ (row w a).getD j 0 = (row w b).getD j 0 := fun j hj => by
    rw [pa j (by omega), pb j hj, la j (by omega), lb j hj]; exact ⟨rfl, h2 j hj⟩
  obtain ⟨r1, q1⟩ := cmp_to (sg := sg) hk e1
  obtain ⟨r2, q2⟩ := cmp_to (sg := sg) hk (fun j hj => ⟨(e1 j hj).1.symm, (e1 j hj).2.symm⟩)
  unfold cmpR
  rw [q1, q2, pa k (by omega), la k (by omega)]
  rcases h3 with h3 | ⟨h3, h4⟩
  · rw [row_pres w hb hk, if_neg (by omega)]
    refine ⟨?_, ?_⟩ <;> (repeat' split) <;> omega
  · rw [row_pres w hb hk, if_pos h3, row_let w hb hk, if_pos h3]
    show (0 : Int) < _ ∧ _
    rcases hs with rfl | rfl
    · have h4 : gg w (b + k) < gg w (a + k) := by omega
      have h5 : w.getD (b + k) 0 < gg w (a + k) := h4
      rw [if_neg (by omega), if_neg (by omega), if_neg (by omega), if_pos (by omega), if_neg (by omega), if_neg (by omega), if_pos (by omega)]
      omega
    · have h4 : gg w (a + k) < gg w (b + k) := by omega
      have h5 : gg w (a + k) < w.getD (b + k) 0 := h4
      rw [if_neg (by omega), if_neg (by omega), if_pos (by omega), if_neg (by omega), if_neg (by omega), if_neg (by omega), if_pos (by omega)]
      omega

theorem first_not (Q : Nat → Prop) [DecidablePred Q] : ∀ m, (∀ j, j < m → Q j) ∨ ∃ k, k < m ∧ (∀ j, j < k → Q j) ∧ ¬ Q k
  | 0 => .inl fun j h => by omega
  | m + 1 => by
    rcases first_not Q m with h | ⟨k, h1, h2, h3⟩
    · by_cases q : Q m
      · refine .inl fun j hj => ?_
        by_cases e : j = m
        · rw [e]; exact q
        · exact h j (by omega)
      · exact .inr ⟨m, by omega, h, q⟩
    · exact .inr ⟨k, by omega, h2, h3⟩

theorem gt_total {g : Nat → Int} {n : Nat} {sg : Int} (hs : sg = 1 ∨ sg = -1) {a b : Nat} (ha : a < n) (hb : b < n) (hne : a ≠ b) : Gt g n sg a b ∨ Gt g n sg b a := by
  rcases first_not (fun j => a + j < n ∧ b + j < n ∧ g (a + j) = g (b + j)) (n + 1) with h | ⟨k, _, h2, h3⟩
  · have := (h n (by omega)).1; omega
  · have ka : a + k ≤ n := by
      cases k with
      | zero => omega
      | succ k => have := (h2 k (by omega)).1; omega
    have kb : b + k ≤ n := by
      cases k with
      | zero => omega
      | succ k => have := (h2 k (by omega)).2.1; omega
    by_cases qa : a + k = n
    · exact .inr ⟨k, by omega, fun j hj => (h2 j hj).2.2.symm, .inl qa⟩
    by_cases qb : b + k = n
    · exact .inl ⟨k, by omega, fun j hj => (h2 j hj).2.2, .inl qb⟩
    have hg : g (a + k) ≠ g (b + k) := fun e => h3 ⟨by omega, by omega, e⟩
    by_cases q : sg * g (b + k) < sg * g (a + k)
    · exact .inl ⟨k, by omega, fun j hj => (h2 j hj).2.2, .inr ⟨by omega, q⟩⟩
    · refine .inr ⟨k, by omega, fun j hj => (h2 j hj).2.2.symm, .inr ⟨by omega, ?_⟩⟩
      rcases hs with rfl | rfl <;> omega
theorem gt_trans {g : Nat → Int} {n : Nat} {sg : Int} {a b d : Nat} (h : Gt g n sg a b) (h' : Gt g n sg b d) : Gt g n sg a d := by
  obtain ⟨k1, h1, h2, h3⟩ := h
  obtain ⟨k2, j1, j2, j3⟩ := h'
  rcases Nat.lt_trichotomy k1 k2 with q | q | q
  · have h3 : sg * g (b + k1) < sg * g (a + k1) := by
      rcases h3 with h3 | h3
      · omega
      · exact h3.2
    refine ⟨k1, h1, fun j hj => (h2 j hj).trans (j2 j (by omega)), .inr ⟨by omega, ?_⟩⟩
    rw [← j2 k1 q]; exact h3
  · subst q
    have h3 : sg * g (b + k1) < sg * g (a + k1) := by
      rcases h3 with h3 | h3
      · omega
      · exact h3.2
    refine ⟨k1, h1, fun j hj => (h2 j hj).trans (j2 j hj), ?_⟩
    rcases j3 with j3 | ⟨j3, j4⟩
    · exact .inl j3
    · exact .inr ⟨j3, by omega⟩
  · refine ⟨k2, by omega, fun j hj => (h2 j (by omega)).trans (j2 j hj), ?_⟩
    rcases j3 with j3 | ⟨j3, j4⟩
    · exact .inl j3
    · exact .inr ⟨j3, by rw [h2 k2 q]; exact j4⟩

theorem cmpR_self (w : List Int) (sg : Int) (a : Nat) : cmpR w sg a a = 0 := cmp_all fun j _ => ⟨rfl, rfl⟩
theorem gt_asymm {w : List Int} {sg : Int} (hs : sg = 1 ∨ sg = -1) {a b : Nat} (h : Gt (gg w) w.length sg a b) (h' : Gt (gg w) w.length sg b a) : False := by
  have := (gt_cmp hs h).1
  have := (gt_cmp hs h').2
  omega

/-- the greatest tail -/
theorem topFrom_spec {w : List Int} {sg : Int} (hs : sg = 1 ∨ sg = -1) : ∀ (m t i : Nat), i + m = w.length → t < i → (∀ j, j < i → j ≠ t → Gt (gg w) w.length sg t j) →
    topFrom w sg t i m < w.length ∧ ∀ j, j < w.length → j ≠ topFrom w sg t i m → Gt (gg w) w.length sg (topFrom w sg t i m) j
  | 0, t, i, h, ht, hj => by
    have : i = w.length := by omega
    subst this
    exact ⟨ht, hj⟩
  | m + 1, t, i, h, ht, hj => by
    unfold topFrom
    by_cases q : cmpR w sg t i < 0
    · rw [if_pos q]
      have g1 : Gt (gg w) w.length sg i t := by
        rcases gt_total (g := gg w) (n := w.length) hs (a := t) (b := i) (by omega) (by omega) (by omega) with g | g
        · have := (gt_cmp hs g).1; omega
        · exact g
      refine topFrom_spec hs m i (i + 1) (by omega) (by omega) fun j hj1 hj2 => ?_
      by_cases e : j = t
      · rw [e]; exact g1
      · exact gt_trans g1 (hj j (by omega) e)
    · rw [if_neg q]
      have g1 : Gt (gg w) w.length sg t i := by
        rcases gt_total (g := gg w) (n := w.length) hs (a := t) (b := i) (by omega) (by omega) (by omega) with g | g
        · exact g
        · have := (gt_cmp hs g).2; omega
      refine topFrom_spec hs m t (i + 1) (by omega) (by omega) fun j hj1 hj2 => ?_
      by_cases e : j = i
      · rw [e]; exact g1
      · exact hj j (by omega) hj2
theorem topF_spec {w : List Int} {sg : Int} (hs : sg = 1 ∨ sg = -1) (h1 : 1 ≤ w.length) : topF w sg < w.length ∧ ∀ j, j < w.length → j ≠ topF w sg → Gt (gg w) w.length sg (topF w sg) j :=
  topFrom_spec hs (w.length - 1) 0 1 (by omega) (by omega) fun j hj hne => by omega

/-! periods -/
def PerP (g : Nat → Int) (n t : Nat) : Prop := ∀ i, i + t < n → g i = g (i + t)
def LocP (g : Nat → Int) (n p t : Nat) : Prop := ∀ i, i < p → p ≤ i + t → i + t < n → g i = g (i + t)
theorem PerP.loc {g : Nat → Int} {n t : Nat} (h : PerP g n t) (p : Nat) : LocP g n p t := fun i _ _ hi => h i hi

theorem cft_core {w : List Int} {sg sg' : Int} (hs : sg = 1 ∨ sg = -1) (hs' : sg' = -sg) {p p' t : Nat} (hp : p < w.length) (hp' : p' ≤ p) (G : ∀ j, j < w.length → j ≠ p → Gt (gg w) w.length sg p j) (G' : ∀ j, j < w.length → j ≠ p' → Gt (gg w) w.length sg' p' j)
    (ht : 1 ≤ t) (L : LocP (gg w) w.length p t) : p < t ∧ PerP (gg w) w.length t := by
  have hpt : p < t := by
    rcases Nat.lt_or_ge p t with q | q
    · exact q
    exfalso
    obtain ⟨k, k1, k2, k3⟩ := G (p - t) (by omega) (by omega)
    have k3 : sg * gg w (p - t + k) < sg * gg w (p + k) := by
      rcases k3 with k3 | k3
      · omega
      · exact k3.2
    by_cases hk : k < t
    · have := L (p - t + k) (by omega) (by omega) (by omega)
      rw [show p - t + k + t = p + k by omega] at this
      rw [this] at k3; omega
    · have g1 : Gt (gg w) w.length sg (p + t) p := ⟨k - t, by omega, fun j hj => by
        have := k2 (t + j) (by omega)
        rw [show p + (t + j) = p + t + j by omega, show p - t + (t + j) = p + j by omega] at this
        exact this, .inr ⟨by omega, by
          rw [show p + (k - t) = p - t + k by omega, show p + t + (k - t) = p + k by omega]; exact k3⟩⟩
      exact gt_asymm hs (G (p + t) (by omega) (by omega)) g1
  refine ⟨hpt, fun i hi => ?_⟩
  rcases Nat.lt_or_ge i p with q | q
  · exact L i q (by omega) hi
  obtain ⟨k, k1, k2, k3⟩ := G (p + t) (by omega) (by omega)
  obtain ⟨m, m1, m2, m3⟩ := G' (p' + t) (by omega) (by omega)
  have hm : p - p' ≤ m := by
    rcases Nat.lt_or_ge m (p - p') with hm | hm
    · exfalso
      rcases m3 with m3 | ⟨m3, m4⟩
      · omega
      · have := L (p' + m) (by omega) (by omega) (by omega)
        rw [show p' + m + t = p' + t + m by omega] at this
        rw [this] at m4; omega
    · exact hm
  obtain ⟨m', rfl⟩ : ∃ m', m = (p - p') + m' := ⟨m - (p - p'), by omega⟩
  have m2' : ∀ j, j < m' → gg w (p + j) = gg w (p + t + j) := fun j hj => by
    have := m2 (p - p' + j) (by omega)
    rwa [show p' + (p - p' + j) = p + j by omega, show p' + t + (p - p' + j) = p + t + j by omega] at this
  have m3' : p + t + m' = w.length ∨ (p + t + m' < w.length ∧ sg' * gg w (p + t + m') < sg' * gg w (p + m')) := by
    rw [show p' + (p - p' + m') = p + m' by omega, show p' + t + (p - p' + m') = p + t + m' by omega] at m3
    exact m3
  have m1' : p + m' < w.length := by omega
  have done : (∀ j, p + t + j < w.length → gg w (p + j) = gg w (p + t + j)) → gg w i = gg w (i + t) := fun h => by
    have := h (i - p) (by omega)
    rwa [show p + (i - p) = i by omega, show p + t + (i - p) = i + t by omega] at this
  rcases k3 with k3 | ⟨k3, k4⟩
  · exact done fun j hj => k2 j (by omega)
  rcases m3' with m3 | ⟨m3, m4⟩
  · exact done fun j hj => m2' j (by omega)
  exfalso
  rcases Nat.lt_trichotomy k m' with h | h | h
  · have := m2' k h; rw [this] at k4; omega
  · subst h; subst hs'
    rcases hs with rfl | rfl <;> omega
  · have := k2 m' h; rw [this] at m4; omega

theorem cft {w : List Int} (h1 : 1 ≤ w.length) {t : Nat} (ht : 1 ≤ t) (L : LocP (gg w) w.length (cutF w) t) : cutF w < t ∧ PerP (gg w) w.length t := by
  obtain ⟨a1, a2⟩ := topF_spec (w := w) (sg := 1) (.inl rfl) h1
  obtain ⟨b1, b2⟩ := topF_spec (w := w) (sg := -1) (.inr rfl) h1
  unfold cutF at L ⊢
  rcases Nat.le_total (topF w 1) (topF w (-1)) with q | q
  · rw [Nat.max_eq_right q] at L ⊢
    exact cft_core (sg := -1) (sg' := 1) (.inr rfl) (by decide) b1 q b2 a2 ht L
  · rw [Nat.max_eq_left q] at L ⊢
    exact cft_core (sg := 1) (sg' := -1) (.inl rfl) (by decide) a1 q a2 b2 ht L
theorem cutF_lt {w : List Int} (h1 : 1 ≤ w.length) : cutF w < w.length := by
  have := (topF_spec (w := w) (sg := 1) (.inl rfl) h1).1
  have := (topF_spec (w := w) (sg := -1) (.inr rfl) h1).1
  unfold cutF; omega
end Mine

namespace Mine

theorem getD_eq {w : List Int} {i : Nat} (h : i < w.length) : w[i]? = some (w.getD i 0) := by
  simp [List.getD, List.getElem?_eq_getElem h]
theorem td_eq {w : List Int} {a b m : Nat} (ha : a + m ≤ w.length) (hb : b + m ≤ w.length) : (w.drop a).take m = (w.drop b).take m ↔ ∀ j, j < m → gg w (a + j) = gg w (b + j) := by
  constructor
  · intro h j hj
    have := congrArg (fun l : List Int => l[j]?) h
    simp only [List.getElem?_take, List.getElem?_drop, if_pos hj] at this
    rw [getD_eq (by omega), getD_eq (by omega)] at this
    exact Option.some.inj this
  · intro h
    apply List.ext_getElem?
    intro j
    simp only [List.getElem?_take, List.getElem?_drop]
    by_cases hj : j < m
    · rw [if_pos hj, if_pos hj, getD_eq (by omega), getD_eq (by omega)]
      exact congrArg some (h j hj)
    · rw [if_neg hj, if_neg hj]

theorem locEq_iff {w : List Int} {p s : Nat} (hp : p ≤ w.length) (hs : s ≤ w.length) : locEq w p s = true ↔ LocP (gg w) w.length p s := by
  unfold locEq
  rw [decide_eq_true_iff]
  simp only [cutL, Int.toNat_natCast]
  rw [show min p (w.length - s) + s - (p - s + s) = min p (w.length - s) - (p - s) by omega]
  rw [td_eq (by omega) (by omega)]
  constructor
  · intro h i h1 h2 h3
    have := h (i - (p - s)) (by omega)
    rwa [show p - s + (i - (p - s)) = i by omega, show p - s + s + (i - (p - s)) = i + s by omega] at this
  · intro h j hj
    have := h (p - s + j) (by omega) (by omega) (by omega)
    rwa [show p - s + j + s = p - s + s + j by omega] at this

theorem locFrom_spec {w : List Int} {p : Nat} : ∀ (m s : Nat), s + m = w.length + 1 → (∃ t, s ≤ t ∧ t ≤ w.length ∧ locEq w p t = true) →
    s ≤ locFrom w p s m ∧ locFrom w p s m ≤ w.length ∧ locEq w p (locFrom w p s m) = true ∧ ∀ t, s ≤ t → locEq w p t = true → locFrom w p s m ≤ t
  | 0, s, e, ⟨t, h1, h2, _⟩ => by omega
  | m + 1, s, e, ⟨t, h1, h2, h3⟩ => by
    unfold locFrom
    by_cases q : locEq w p s = true
    · rw [if_pos q]; exact ⟨Nat.le_refl _, by omega, q, fun t h _ => h⟩
    · rw [if_neg q]
      have hne : t ≠ s := fun h => q (h ▸ h3)
      obtain ⟨r1, r2, r3, r4⟩ := locFrom_spec (w := w) (p := p) m (s + 1) (by omega) ⟨t, by omega, h2, h3⟩
      refine ⟨by omega, r2, r3, fun t' h1' h2' => ?_⟩
      have : t' ≠ s := fun h => q (h ▸ h2')
      exact r4 t' (by omega) h2'
theorem locF_spec {w : List Int} {p : Nat} (h1 : 1 ≤ w.length) (hp : p ≤ w.length) : 1 ≤ locF w p ∧ locF w p ≤ w.length ∧ LocP (gg w) w.length p (locF w p) ∧ ∀ t, 1 ≤ t → LocP (gg w) w.length p t → locF w p ≤ t := by
  obtain ⟨r1, r2, r3, r4⟩ := locFrom_spec (w := w) (p := p) w.length 1 (by omega) ⟨w.length, h1, Nat.le_refl _, (locEq_iff hp (Nat.le_refl _)).mpr fun i _ _ h => by omega⟩
  refine ⟨r1, r2, (locEq_iff hp r2).mp r3, fun t ht L => ?_⟩
  rcases Nat.lt_or_ge w.length t with q | q
  · show locFrom w p 1 w.length ≤ t; omega
  · exact r4 t ht ((locEq_iff hp q).mpr L)

theorem per_spec {g : Nat → Int} {n : Nat} (h1 : 1 ≤ n) : PerP g n (n - lb g n) ∧ 1 ≤ n - lb g n ∧ ∀ t, 1 ≤ t → PerP g n t → n - lb g n ≤ t := by
  obtain ⟨b1, b2⟩ := lb_bd (g := g) (m := n) (by omega)
  refine ⟨fun i hi => ?_, by omega, fun t ht h => ?_⟩
  · have := b2 i (by omega)
    rwa [show n - lb g n + i = i + (n - lb g n) by omega] at this
  · rcases Nat.lt_or_ge t n with q | q
    · have : n - t ≤ lb g n := lb_max ⟨by omega, fun i hi => by
        have := h i (by omega)
        rwa [show n - (n - t) + i = i + t by omega]⟩
      omega
    · omega

theorem bd_congr {g g' : Nat → Int} {n k : Nat} (h : ∀ i, i < n → g i = g' i) (hk : k < n) : Bd g n k ↔ Bd g' n k := by
  unfold Bd
  constructor
  · rintro ⟨a, b⟩; exact ⟨a, fun i hi => by rw [← h i (by omega), ← h _ (by omega)]; exact b i hi⟩
  · rintro ⟨a, b⟩; exact ⟨a, fun i hi => by rw [h i (by omega), h _ (by omega)]; exact b i hi⟩
theorem lb_congr {g g' : Nat → Int} {n : Nat} (h : ∀ i, i < n → g i = g' i) (h1 : 1 ≤ n) : lb g n = lb g' n := by
  have b1 := lb_bd (g := g') (m := n) (by omega)
  exact lb_uniq ((bd_congr h b1.1).mpr b1) fun c hc => lb_max ((bd_congr h hc.1).mp hc)
theorem gg_take {w : List Int} {s i : Nat} (h : i < s) : gg (w.take s) i = gg w i := by
  show List.getD _ _ _ = List.getD _ _ _
  rw [List.getD_eq_getElem?_getD, List.getD_eq_getElem?_getD, List.getElem?_take, if_pos h]
theorem kmp_get {w : List Int} {s : Nat} (h1 : 1 ≤ s) (h2 : s ≤ w.length) : (kmp w).getD (s - 1) 0 = (lb (gg w) s : Int) := by
  have : s - 1 < w.length := by omega
  simp [kmp, List.getD, this, show s - 1 + 1 = s by omega]
theorem stepW_eq {w : List Int} {s : Nat} (h1 : 1 ≤ s) (h2 : s ≤ w.length) : stepW w s = ((s - lb (gg (w.take s)) s : Nat) : Int) := by
  unfold stepW
  rw [kmp_get h1 h2, lb_congr (g := gg (w.take s)) (g' := gg w) (fun i hi => gg_take hi) h1]
  have := lb_lt (g := gg w) (m := s) (by omega)
  omega

/-! the tails that are beginnings -/
def bdesc (g : Nat → Int) (n : Nat) : Nat → List Int
  | 0 => []
  | k + 1 => if bd g n (k + 1) then ((k + 1 : Nat) : Int) :: bdesc g n k else bdesc g n k

theorem bdesc_congr {g g' : Nat → Int} {n n' : Nat} : ∀ {k : Nat}, k < n → k < n' → (∀ b, b ≤ k → (Bd g n b ↔ Bd g' n' b)) → bdesc g n k = bdesc g' n' k
  | 0, _, _, _ => rfl
  | k + 1, h, h', e => by
    unfold bdesc
    rw [bdesc_congr (k := k) (by omega) (by omega) fun b hb => e b (by omega)]
    have : bd g n (k + 1) = bd g' n' (k + 1) := by
      rw [Bool.eq_iff_iff, bd_iff h, bd_iff h']; exact e (k + 1) (Nat.le_refl _)
    rw [this]
theorem bdesc_skip {g : Nat → Int} {n b : Nat} : ∀ {k : Nat}, b ≤ k → k < n → (∀ x, Bd g n x → x ≤ b) → bdesc g n k = bdesc g n b
  | 0, h, _, _ => by rw [show b = 0 by omega]
  | k + 1, h, hk, e => by
    by_cases q : b = k + 1
    · rw [q]
    · have : ¬ bd g n (k + 1) = true := fun x => by have := e _ ((bd_iff hk).mp x); omega
      have e2 : bdesc g n (k + 1) = bdesc g n k := by show (if _ then _ else _) = _; rw [if_neg this]
      rw [e2]; exact bdesc_skip (by omega) (by omega) e
theorem bdesc_step {g : Nat → Int} {n : Nat} (h1 : 1 ≤ n) : bdesc g n (n - 1) = if 0 < lb g n then (lb g n : Int) :: bdesc g (lb g n) (lb g n - 1) else [] := by
  have hb := lb_bd (g := g) (m := n) (by omega)
  have hl := hb.1
  rw [bdesc_skip (b := lb g n) (by omega) (by omega) fun x hx => lb_max hx]
  generalize lb g n = b at hb hl
  cases b with
  | zero => rfl
  | succ b =>
    rw [if_pos (by omega)]
    show (if _ then _ else _) = _
    rw [if_pos ((bd_iff hl).mpr hb)]
    congr 1
    exact bdesc_congr (by omega) (by omega) fun x hx => ⟨fun h => bd_down hb h (by omega), fun h => bd_up hb h⟩

theorem chn_desc {w : List Int} : ∀ (m s : Nat), s ≤ m → s ≤ w.length → (chnL (kmp w) s m).filter (fun x => decide (0 < x)) = bdesc (gg w) s (s - 1)
  | 0, s, h, _ => by rw [show s = 0 by omega]; rfl
  | m + 1, s, h, hs => by
    show ((stepC (kmp w) s) :: chnL (kmp w) (stepC (kmp w) s) m).filter _ = _
    by_cases q : s = 0
    · subst q
      have e : stepC (kmp w) ((0 : Nat) : Int) = ((0 : Nat) : Int) := rfl
      rw [e, List.filter_cons_of_neg (by simp)]
      exact chn_desc m 0 (by omega) (by omega)
    · have e : stepC (kmp w) (s : Int) = ((lb (gg w) s : Nat) : Int) := by
        unfold stepC
        rw [if_pos ⟨by omega, by rw [kmp_length]; omega⟩, show ((s : Int) - 1).toNat = s - 1 by omega]
        exact kmp_get (by omega) hs
      have hl := lb_lt (g := gg w) (m := s) (by omega)
      rw [e, bdesc_step (by omega)]
      have ih := chn_desc (w := w) m (lb (gg w) s) (by omega) (by omega)
      by_cases q2 : 0 < lb (gg w) s
      · rw [if_pos q2, List.filter_cons_of_pos (by simpa using q2), ih]
      · rw [if_neg q2, List.filter_cons_of_neg (by simpa using q2), ih]
        rw [show lb (gg w) s = 0 by omega]; rfl

theorem lapB_iff {w : List Int} {sg : Int} (hs : sg = 1 ∨ sg = -1) {i : Nat} (h1 : 1 ≤ i) (h2 : i < w.length) : lapB w sg i = bd (gg w) w.length (w.length - i) := by
  have r0 : ∀ j, j < w.length → (row w 0).getD (w.length + j) 0 = 1 ∧ (row w 0).getD j 0 = gg w j := fun j hj => by
    rw [row_pres w (by omega) hj, row_let w (by omega) hj, if_pos (by omega), if_pos (by omega), Nat.zero_add]; exact ⟨rfl, rfl⟩
  have ri : ∀ j, j < w.length - i → (row w i).getD (w.length + j) 0 = 1 ∧ (row w i).getD j 0 = gg w (i + j) := fun j hj => by
    rw [row_pres w (by omega) (by omega), row_let w (by omega) (by omega), if_pos (by omega), if_pos (by omega)]; exact ⟨rfl, rfl⟩
  rcases first_not (fun j => gg w j = gg w (i + j)) (w.length - i) with h | ⟨k, k1, k2, k3⟩
  · have hb : Bd (gg w) w.length (w.length - i) := ⟨by omega, fun j hj => by
      rw [show w.length - (w.length - i) + j = i + j by omega]; exact h j hj⟩
    rw [(bd_iff (by omega)).mpr hb]
    have e1 : ∀ j, j < w.length - i → (row w 0).getD (w.length + j) 0 = (row w i).getD (w.length + j) 0 ∧ (row w 0).getD j 0 = (row w i).getD j 0 := fun j hj => by
      rw [(r0 j (by omega)).1, (r0 j (by omega)).2, (ri j hj).1, (ri j hj).2]; exact ⟨rfl, h j hj⟩
    obtain ⟨x1, q1⟩ := cmp_to (n := w.length) (sg := sg) (k := w.length - i) (by omega) e1
    obtain ⟨x2, q2⟩ := cmp_to (n := w.length) (sg := sg) (k := w.length - i) (by omega) fun j hj => ⟨(e1 j hj).1.symm, (e1 j hj).2.symm⟩
    have p1 := (r0 (w.length - i) (by omega)).1
    have p2 : (row w i).getD (w.length + (w.length - i)) 0 = 0 := by rw [row_pres w (by omega) (by omega), if_neg (by omega)]
    rw [p1, p2] at q1 q2
    rw [if_neg (by omega), if_pos (by omega)] at q1
    rw [if_pos (by omega)] at q2
    unfold lapB cmpR
    rw [q1, q2]
    rw [Bool.and_eq_true_iff]
    exact ⟨decide_eq_true (by omega), decide_eq_true (by omega)⟩
  · have hb : ¬ bd (gg w) w.length (w.length - i) = true := fun x => by
      have := ((bd_iff (by omega)).mp x).2 k k1
      rw [show w.length - (w.length - i) + k = i + k by omega] at this
      exact k3 this
    rw [Bool.not_eq_true] at hb
    rw [hb]
    have e1 : ∀ j, j < k → (row w 0).getD (w.length + j) 0 = (row w i).getD (w.length + j) 0 ∧ (row w 0).getD j 0 = (row w i).getD j 0 := fun j hj => by
      rw [(r0 j (by omega)).1, (r0 j (by omega)).2, (ri j (by omega)).1, (ri j (by omega)).2]; exact ⟨rfl, k2 j hj⟩
    obtain ⟨x1, q1⟩ := cmp_to (n := w.length) (sg := sg) (k := k) (by omega) e1
    rw [(r0 k (by omega)).1, (ri k k1).1, (r0 k (by omega)).2, (ri k k1).2] at q1
    have hne : cmpR w sg 0 i ≠ 2 * ((w.length : Int) - i) + 1 := by
      unfold cmpR
      rw [q1]
      rcases hs with rfl | rfl <;> (repeat' split) <;> omega
    unfold lapB
    rw [decide_eq_false hne]; rfl

theorem laps_desc {g : Nat → Int} {n : Nat} : ∀ m, m < n → ((List.range m).filter fun j => bd g n (m - j)).map (fun j => ((m - j : Nat) : Int)) = bdesc g n m
  | 0, _ => rfl
  | m + 1, h => by
    rw [List.range_succ_eq_map]
    have ih := laps_desc (g := g) (n := n) m (by omega)
    have e : ((List.map Nat.succ (List.range m)).filter fun j => bd g n (m + 1 - j)).map (fun j => ((m + 1 - j : Nat) : Int)) = bdesc g n m := by
      rw [← ih, List.filter_map, List.map_map]
      have e1 : ((fun j => bd g n (m + 1 - j)) ∘ Nat.succ) = fun j => bd g n (m - j) := by funext j; simp only [Function.comp]; congr 1; omega
      have e2 : ((fun j => ((m + 1 - j : Nat) : Int)) ∘ Nat.succ) = fun j => ((m - j : Nat) : Int) := by funext j; simp only [Function.comp]; congr 1; omega
      rw [e1, e2]
    unfold bdesc
    by_cases q : bd g n (m + 1) = true
    · rw [if_pos q, List.filter_cons_of_pos (by simpa using q), List.map_cons, e]; rfl
    · rw [if_neg q, List.filter_cons_of_neg (by simpa using q), e]
theorem lapsF_desc {w : List Int} {sg : Int} (hs : sg = 1 ∨ sg = -1) (h1 : 1 ≤ w.length) : lapsF w sg = bdesc (gg w) w.length (w.length - 1) := by
  rw [← laps_desc (g := gg w) (n := w.length) (w.length - 1) (by omega)]
  unfold lapsF
  have e1 : (List.range (w.length - 1)).filter (fun j => lapB w sg (1 + j)) = (List.range (w.length - 1)).filter fun j => bd (gg w) w.length (w.length - 1 - j) := by
    apply List.filter_congr
    intro j hj
    have hj := List.mem_range.mp hj
    rw [lapB_iff hs (by omega) (by omega), show w.length - (1 + j) = w.length - 1 - j by omega]
  rw [e1]
  apply List.map_congr_left
  intro j hj
  have hj := List.mem_range.mp (List.mem_filter.mp hj).1
  omega

theorem law_laps {w : List Int} {s : Nat} (h1 : 1 ≤ s) (h2 : s ≤ w.length) {sg : Int} (hs : sg = 1 ∨ sg = -1) : lapsF (w.take s) sg = chainF (kmp w) s := by
  have hl : (w.take s).length = s := by rw [List.length_take]; omega
  unfold chainF
  rw [lapsF_desc hs (by omega), hl, chn_desc s s (Nat.le_refl _) h2]
  exact bdesc_congr (by omega) (by omega) fun b hb => bd_congr (fun i hi => gg_take hi) (by omega)
theorem more_let {w : List Int} (h1 : 1 ≤ w.length) : (∀ j, j < w.length → (moreL w).getD (w.length + j) 0 = (row w 0).getD (w.length + j) 0) ∧ (∀ j, j < w.length - 1 → (moreL w).getD j 0 = (row w 0).getD j 0) ∧ (moreL w).getD (w.length - 1) 0 = w.getD (w.length - 1) 0 + 1 := by
  have rl := row_length w (Nat.zero_le _)
  have tl : ((row w 0).take (w.length - 1)).length = w.length - 1 := by rw [List.length_take]; omega
  have e : ∀ j, (moreL w)[j]? = if j < w.length - 1 then (row w 0)[j]? else if j = w.length - 1 then some (w.getD (w.length - 1) 0 + 1) else (row w 0)[j]? := fun j => by
    unfold moreL
    simp only [List.getElem?_append, List.length_append, tl, List.length_cons, List.length_nil, List.getElem?_drop, List.getElem?_take]
    by_cases q1 : j < w.length - 1
    · rw [if_pos (by omega), if_pos q1, if_pos q1, if_pos q1]
    · by_cases q2 : j = w.length - 1
      · rw [if_pos (by omega), if_neg q1, if_neg q1, if_pos q2, show j - (w.length - 1) = 0 by omega]; rfl
      · rw [if_neg (by omega), if_neg q1, if_neg q2]; congr 1; omega
  refine ⟨fun j hj => ?_, fun j hj => ?_, ?_⟩
  · rw [List.getD_eq_getElem?_getD, e, if_neg (by omega), if_neg (by omega), ← List.getD_eq_getElem?_getD]
  · rw [List.getD_eq_getElem?_getD, e, if_pos hj, ← List.getD_eq_getElem?_getD]
  · rw [List.getD_eq_getElem?_getD, e, if_neg (by omega), if_pos rfl]; rfl
theorem law_more {w : List Int} (h1 : 1 ≤ w.length) {sg : Int} : cmpM w sg = -(sg * (2 * w.length)) := by
  obtain ⟨m1, m2, m3⟩ := more_let h1
  obtain ⟨x, q⟩ := cmp_to (ls := row w 0) (rs := moreL w) (n := w.length) (sg := sg) (k := w.length - 1) (by omega) fun j hj => ⟨(m1 j (by omega)).symm, (m2 j hj).symm⟩
  have a2 : (row w 0).getD (w.length - 1) 0 = w.getD (w.length - 1) 0 := by rw [row_let w (by omega) (by omega), if_pos (by omega), Nat.zero_add]
  rw [m1 _ (by omega), m3, a2, if_neg (Int.lt_irrefl _), if_neg (Int.lt_irrefl _), if_pos (by omega)] at q
  unfold cmpM
  rw [q, show 2 * ((w.length - 1 : Nat) : Int) + 2 = 2 * w.length by omega]
end Mine

namespace Mine

section
variable {w : List Int} {s : Nat}
theorem law_cutlt (h1 : 1 ≤ w.length) : cutF w < w.length - lb (gg w) w.length := by
  obtain ⟨p1, p2, _⟩ := per_spec (g := gg w) (n := w.length) h1
  exact (cft h1 p2 (p1.loc _)).1
theorem law_loc (h1 : 1 ≤ w.length) : (if 0 < cutF w then (locF w (cutF w) : Int) else 1) = ((w.length - lb (gg w) w.length : Nat) : Int) := by
  obtain ⟨p1, p2, p3⟩ := per_spec (g := gg w) (n := w.length) h1
  have hc := cutF_lt h1
  by_cases q : 0 < cutF w
  · rw [if_pos q]
    obtain ⟨r1, r2, r3, r4⟩ := locF_spec (p := cutF w) h1 (by omega)
    have a := r4 _ p2 (p1.loc _)
    have b := p3 _ r1 (cft h1 r1 r3).2
    omega
  · rw [if_neg q]
    have L : LocP (gg w) w.length (cutF w) 1 := fun i hi => by omega
    have b := p3 1 (Nat.le_refl _) (cft h1 (Nat.le_refl _) L).2
    omega
theorem law_max (h1 : 1 ≤ w.length) : IsMax (1 :: (List.range (w.length - 1)).map fun j => (locF w (1 + j) : Int)) ((w.length - lb (gg w) w.length : Nat) : Int) := by
  obtain ⟨p1, p2, p3⟩ := per_spec (g := gg w) (n := w.length) h1
  have hc := cutF_lt h1
  refine ⟨?_, fun a ha => ?_⟩
  · have := law_loc h1
    by_cases q : 0 < cutF w
    · rw [if_pos q] at this
      rw [← this]
      refine .tail _ (List.mem_map.mpr ⟨cutF w - 1, List.mem_range.mpr (by omega), ?_⟩)
      rw [show 1 + (cutF w - 1) = cutF w by omega]
    · rw [if_neg q] at this
      rw [← this]; exact .head _
  · cases ha with
    | head => omega
    | tail _ h =>
      obtain ⟨j, hj, rfl⟩ := List.mem_map.mp h
      have hj := List.mem_range.mp hj
      have := (locF_spec (p := 1 + j) h1 (by omega)).2.2.2 _ p2 (p1.loc _)
      omega
end

/-! places -/
theorem winL_iff {w t : List Int} {a : Nat} (h : a + w.length ≤ t.length) : winL w t a = w ↔ ∀ i, i < w.length → gg t (a + i) = gg w i := by
  constructor
  · intro e i hi
    have := congrArg (fun l : List Int => l[i]?) e
    simp only [winL, List.getElem?_take, List.getElem?_drop, if_pos hi] at this
    rw [getD_eq (by omega), getD_eq hi] at this
    exact Option.some.inj this
  · intro e
    apply List.ext_getElem?
    intro i
    simp only [winL, List.getElem?_take, List.getElem?_drop]
    by_cases hi : i < w.length
    · rw [if_pos hi, getD_eq (by omega), getD_eq hi]
      exact congrArg some (e i hi)
    · rw [if_neg hi, List.getElem?_eq_none (by omega)]
theorem winL_in {w t : List Int} {a : Nat} (h1 : 1 ≤ w.length) (h : winL w t a = w) : a + w.length ≤ t.length := by
  have := congrArg List.length h
  simp only [winL, List.length_take, List.length_drop] at this
  omega

theorem range_split (a b : Nat) : List.range (a + b) = List.range a ++ (List.range b).map (a + ·) := by
  induction b with
  | zero => simp
  | succ b ih => rw [← Nat.add_assoc, List.range_succ, ih, List.range_succ, List.map_append, List.append_assoc]; rfl

section
variable {w t : List Int} {bar : Int}
theorem zz1 {i : Nat} (h : i < w.length) : gg (w ++ [bar] ++ t) i = gg w i := by
  show List.getD _ _ _ = List.getD _ _ _
  simp only [List.getD_eq_getElem?_getD, List.getElem?_append, List.length_append, List.length_cons, List.length_nil]
  rw [if_pos (by omega), if_pos h]
theorem zz2 : gg (w ++ [bar] ++ t) w.length = bar := by
  show List.getD _ _ _ = _
  simp only [List.getD_eq_getElem?_getD, List.getElem?_append, List.length_append, List.length_cons, List.length_nil]
  rw [if_pos (by omega), if_neg (by omega), Nat.sub_self]; rfl
theorem zz3 {i : Nat} : gg (w ++ [bar] ++ t) (w.length + 1 + i) = gg t i := by
  show List.getD _ _ _ = List.getD _ _ _
  simp only [List.getD_eq_getElem?_getD, List.getElem?_append, List.length_append, List.length_cons, List.length_nil]
  rw [if_neg (by omega)]
  congr 2; omega
theorem gg_mem {l : List Int} {i : Nat} (h : i < l.length) : gg l i ∈ l := by
  show List.getD _ _ _ ∈ _
  have := getD_eq h
  exact List.mem_of_getElem? this

theorem lb_bar (hw : bar ∉ w) (ht : bar ∉ t) (h1 : 1 ≤ w.length) {k : Nat} (hk : k < w.length + 1 + t.length) :
    lb (gg (w ++ [bar] ++ t)) (k + 1) = w.length ↔ 2 * w.length ≤ k ∧ winL w t (k - 2 * w.length) = w := by
  have hbd := lb_bd (g := gg (w ++ [bar] ++ t)) (m := k + 1) (by omega)
  constructor
  · intro e
    rw [e] at hbd
    obtain ⟨b1, b2⟩ := hbd
    have hk2 : 2 * w.length ≤ k := by
      rcases Nat.lt_or_ge k (2 * w.length) with q | q
      · exfalso
        have := b2 (2 * w.length - k - 1) (by omega)
        rw [show k + 1 - w.length + (2 * w.length - k - 1) = w.length by omega, zz2, zz1 (by omega)] at this
        exact hw (this ▸ gg_mem (by omega))
      · exact q
    refine ⟨hk2, (winL_iff (by omega)).mpr fun i hi => ?_⟩
    have := b2 i hi
    rw [zz1 hi, show k + 1 - w.length + i = w.length + 1 + (k - 2 * w.length + i) by omega, zz3] at this
    exact this.symm
  · rintro ⟨h2, h3⟩
    have hin := winL_in h1 h3
    have h4 := (winL_iff hin).mp h3
    refine lb_uniq ⟨by omega, fun i hi => ?_⟩ fun b hb => ?_
    · rw [zz1 hi, show k + 1 - w.length + i = w.length + 1 + (k - 2 * w.length + i) by omega, zz3]
      exact (h4 i hi).symm
    · rcases Nat.lt_or_ge w.length b with q | q
      · exfalso
        obtain ⟨b1, b2⟩ := hb
        have := b2 w.length q
        rw [zz2, show k + 1 - b + w.length = w.length + 1 + (k - b) by omega, zz3] at this
        exact ht (this ▸ gg_mem (by omega))
      · exact q

theorem law_places (hw : bar ∉ w) (ht : bar ∉ t) (h1 : 1 ≤ w.length) : placesF w t bar = occF w t := by
  have ef : ∀ k, k < w.length + 1 + t.length → decide ((kmp (w ++ [bar] ++ t)).getD k 0 = (w.length : Int)) = decide (2 * w.length ≤ k ∧ winL w t (k - 2 * w.length) = w) := fun k hk => by
    have hl : (w ++ [bar] ++ t).length = w.length + 1 + t.length := by simp; omega
    have := kmp_get (w := w ++ [bar] ++ t) (s := k + 1) (by omega) (by omega)
    rw [Nat.add_sub_cancel] at this
    rw [this]
    rw [decide_eq_decide, ← lb_bar hw ht h1 hk]
    omega
  unfold placesF occF
  rw [List.filter_congr fun k hk => ef k (List.mem_range.mp hk)]
  rcases Nat.lt_or_ge t.length w.length with q | q
  · rw [show ((t.length : Int) - w.length + 1).toNat = 0 by omega]
    have : (List.range (w.length + 1 + t.length)).filter (fun k => decide (2 * w.length ≤ k ∧ winL w t (k - 2 * w.length) = w)) = [] := by
      rw [List.filter_eq_nil_iff]
      intro k hk
      have hk := List.mem_range.mp hk
      simp only [decide_eq_true_eq]
      omega
    rw [this]; rfl
  · have e1 : w.length + 1 + t.length = 2 * w.length + ((t.length : Int) - w.length + 1).toNat := by omega
    rw [e1, range_split, List.filter_append]
    have : (List.range (2 * w.length)).filter (fun k => decide (2 * w.length ≤ k ∧ winL w t (k - 2 * w.length) = w)) = [] := by
      rw [List.filter_eq_nil_iff]
      intro k hk
      have hk := List.mem_range.mp hk
      simp only [decide_eq_true_eq]
      omega
    rw [this, List.nil_append, List.filter_map, List.map_map]
    have e2 : ((fun k => decide (2 * w.length ≤ k ∧ winL w t (k - 2 * w.length) = w)) ∘ fun x => 2 * w.length + x) = fun k => decide (winL w t k = w) := by
      funext k
      simp only [Function.comp]
      rw [decide_eq_decide, show 2 * w.length + k - 2 * w.length = k by omega]
      constructor
      · exact fun h => h.2
      · exact fun h => ⟨by omega, h⟩
    rw [e2]
    apply List.map_congr_left
    intro k _
    simp only [Function.comp]
    omega
end

/-! the walk -/
def occL (w t : List Int) (a : Nat) : List Int := ((List.range a).filter fun k => decide (winL w t k = w)).map fun k : Nat => (k : Int)
theorem occL_succ (w t : List Int) (a : Nat) : occL w t (a + 1) = if winL w t a = w then occL w t a ++ [(a : Int)] else occL w t a := by
  unfold occL
  rw [List.range_succ, List.filter_append, List.map_append]
  by_cases q : winL w t a = w
  · rw [if_pos q, List.filter_cons_of_pos (by simpa using q)]; rfl
  · rw [if_neg q, List.filter_cons_of_neg (by simpa using q)]; simp
theorem occL_skip {w t : List Int} {a : Nat} : ∀ (d : Nat), (∀ s, s < d → winL w t (a + s) ≠ w) → occL w t (a + d) = occL w t a
  | 0, _ => rfl
  | d + 1, h => by
    rw [← Nat.add_assoc, occL_succ, if_neg (h d (by omega))]
    exact occL_skip d fun s hs => h s (by omega)
theorem occL_end {w t : List Int} (h1 : 1 ≤ w.length) {a : Nat} (h : t.length < a + w.length) : occL w t a = occF w t := by
  have e : occF w t = occL w t ((t.length : Int) - w.length + 1).toNat := rfl
  rw [e]
  rcases Nat.lt_or_ge a ((t.length : Int) - w.length + 1).toNat with q | q
  · omega
  · obtain ⟨d, rfl⟩ : ∃ d, a = ((t.length : Int) - w.length + 1).toNat + d := ⟨a - ((t.length : Int) - w.length + 1).toNat, by omega⟩
    exact occL_skip d fun s hs hw => by
      have := winL_in h1 hw; omega

theorem told_spec {w t : List Int} {cut a kn : Nat} (hc : cut ≤ w.length) (ha : a + w.length ≤ t.length) :
    (toldF w t cut a kn = 0 ∧ (∀ i, max cut kn ≤ i → i < w.length → gg t (a + i) = gg w i) ∧ (∀ i, kn ≤ i → i < cut → gg t (a + i) = gg w i)) ∨
    (∃ i, toldF w t cut a kn = i + 1 ∧ max cut kn ≤ i ∧ i < w.length ∧ gg t (a + i) ≠ gg w i ∧ ∀ j, max cut kn ≤ j → j < i → gg t (a + j) = gg w j) ∨
    (∃ i, toldF w t cut a kn = i + 1 ∧ kn ≤ i ∧ i < cut ∧ gg t (a + i) ≠ gg w i ∧ ∀ j, max cut kn ≤ j → j < w.length → gg t (a + j) = gg w j) := by
  have wg : ∀ i, i < w.length → (winL w t a).getD i 0 = gg t (a + i) := fun i hi => by
    show _ = List.getD _ _ _
    simp only [List.getD_eq_getElem?_getD, winL, List.getElem?_take, List.getElem?_drop, if_pos hi]
  have kA : ∀ j, j < w.length - max cut kn → (keysW w.length cut kn)[j]? = some (max cut kn + j, ((max cut kn + j : Nat) : Int) + 1) := fun j hj => by
    unfold keysW keysA
    rw [List.getElem?_append_left (by simpa using hj)]
    simp [hj]
  have kB : ∀ j, j < cut - kn → (keysW w.length cut kn)[w.length - max cut kn + j]? = some (kn + j, -((kn + j : Nat) : Int) - 1) := fun j hj => by
    unfold keysW keysA keysB
    rw [List.getElem?_append_right (by simp)]
    simp [hj]
  have kN : ∀ l p, (keysW w.length cut kn)[l]? = some p → l < (w.length - max cut kn) + (cut - kn) := fun l p h => by
    have := (List.getElem?_eq_some_iff.mp h).1
    simpa [keysW, keysA, keysB] using this
  rcases cmpT_idx (winL w t a) w (keysW w.length cut kn) with ⟨q1, q2⟩ | ⟨l, p, q1, q2, q3⟩
  · refine .inl ⟨by unfold toldF; rw [q1]; rfl, fun i h1 h2 => ?_, fun i h1 h2 => ?_⟩
    · have := q2 _ (List.mem_of_getElem? (kA (i - max cut kn) (by omega)))
      dsimp only at this
      rw [show max cut kn + (i - max cut kn) = i by omega, wg i h2] at this
      exact this
    · have := q2 _ (List.mem_of_getElem? (kB (i - kn) (by omega)))
      dsimp only at this
      rw [show kn + (i - kn) = i by omega, wg i (by omega)] at this
      exact this
  · have hl := kN l p q1
    have hne : (winL w t a).getD p.1 0 ≠ w.getD p.1 0 := by rcases q3 with q | q <;> omega
    have habs : toldF w t cut a kn = p.2.natAbs := by unfold toldF; rcases q3 with q | q <;> rw [q.2] <;> omega
    rcases Nat.lt_or_ge l (w.length - max cut kn) with h | h
    · have e := kA l h
      rw [q1] at e; cases e
      refine .inr (.inl ⟨max cut kn + l, by rw [habs]; dsimp only; omega, by omega, by omega, ?_, fun j h1 h2 => ?_⟩)
      · rw [← wg _ (by omega)]; exact hne
      · have := q2 (j - max cut kn) _ (by omega) (kA (j - max cut kn) (by omega))
        dsimp only at this
        rw [show max cut kn + (j - max cut kn) = j by omega, wg j (by omega)] at this
        exact this
    · have e := kB (l - (w.length - max cut kn)) (by omega)
      rw [show w.length - max cut kn + (l - (w.length - max cut kn)) = l by omega, q1] at e; cases e
      refine .inr (.inr ⟨kn + (l - (w.length - max cut kn)), by rw [habs]; dsimp only; omega, by omega, by omega, ?_, fun j h1 h2 => ?_⟩)
      · rw [← wg _ (by omega)]; exact hne
      · have := q2 (j - max cut kn) _ (by omega) (kA (j - max cut kn) (by omega))
        dsimp only at this
        rw [show max cut kn + (j - max cut kn) = j by omega, wg j (by omega)] at this
        exact this

theorem walk_ok {w t : List Int} {cut step : Nat} (h1 : 1 ≤ w.length) (hc : cut < step) (hs : step ≤ w.length) (hp : PerP (gg w) w.length step)
    (C : ∀ s, 1 ≤ s → LocP (gg w) w.length cut s → PerP (gg w) w.length s ∧ step ≤ s) : ∀ (f a kn : Nat) (acc : List Int), t.length + 1 ≤ a + f → acc = occL w t a → (∀ i, i < kn → a + w.length ≤ t.length → gg t (a + i) = gg w i) → kn < w.length →
    walkF w t cut step f a kn acc = occF w t
  | 0, a, kn, acc, hf, e, _, _ => by
    show acc = _
    rw [e]; exact occL_end h1 (by omega)
  | f + 1, a, kn, acc, hf, e, hk, hkn => by
    have e0 : walkF w t cut step (f + 1) a kn acc = if a + w.length ≤ t.length then
          if cut < toldF w t cut a kn then walkF w t cut step f (a + (toldF w t cut a kn - cut)) 0 acc
          else walkF w t cut step f (a + step) (w.length - step) (if toldF w t cut a kn = 0 then acc ++ [(a : Int)] else acc)
        else acc := rfl
    rw [e0]
    by_cases hin : a + w.length ≤ t.length
    · rw [if_pos hin]
      -- no occurrence between, where all columns from the cut on are alike
      have between : (∀ j, cut ≤ j → j < w.length → gg t (a + j) = gg w j) → ∀ s, 1 ≤ s → s < step → winL w t (a + s) ≠ w := fun h s s1 s2 hw => by
        have hw' := (winL_iff (winL_in h1 hw)).mp hw
        have := (C s s1 fun i hi1 hi2 hi3 => by
          have a1 := hw' i (by omega)
          have a2 := h (i + s) hi2 hi3
          rw [show a + s + i = a + (i + s) by omega] at a1
          rw [← a1, a2]).2
        omega
      have known : (∀ j, cut ≤ j → j < w.length → gg t (a + j) = gg w j) → ∀ i, i < w.length - step → a + step + w.length ≤ t.length → gg t (a + step + i) = gg w i := fun h i hi _ => by
        have a1 := h (step + i) (by omega) (by omega)
        have a2 := hp i (by omega)
        rw [show a + step + i = a + (step + i) by omega, a1, a2, Nat.add_comm]
      rcases told_spec (kn := kn) (Nat.le_of_lt (Nat.lt_of_lt_of_le hc hs)) hin with ⟨q1, q2, q3⟩ | ⟨i, q1, q2, q3, q4, q5⟩ | ⟨i, q1, q2, q3, q4, q5⟩
      · -- alike throughout
        rw [q1, if_neg (by omega), if_pos rfl]
        have all : ∀ j, j < w.length → gg t (a + j) = gg w j := fun j hj => by
          rcases Nat.lt_or_ge j kn with h | h
          · exact hk j h hin
          rcases Nat.lt_or_ge j cut with h' | h'
          · exact q3 j h h'
          · exact q2 j (by omega) hj
        have occ : winL w t a = w := (winL_iff hin).mpr all
        refine walk_ok h1 hc hs hp C f (a + step) (w.length - step) _ (by omega) ?_ (known fun j _ hj => all j hj) (by omega)
        rw [show a + step = a + 1 + (step - 1) by omega, occL_skip (step - 1) fun s hs' => by
          rw [show a + 1 + s = a + (1 + s) by omega]; exact between (fun j _ hj => all j hj) (1 + s) (by omega) (by omega), occL_succ, if_pos occ, e]
      · -- a column from the cut on
        have right : ∀ j, cut ≤ j → j < i → gg t (a + j) = gg w j := fun j hj1 hj2 => by
          rcases Nat.lt_or_ge j kn with h | h
          · exact hk j h hin
          · exact q5 j (by omega) hj2
        rw [q1, if_pos (by omega)]
        refine walk_ok h1 hc hs hp C f (a + (i + 1 - cut)) 0 acc (by omega) ?_ (fun i hi => by omega) (by omega)
        rw [e]
        refine (occL_skip (i + 1 - cut) fun s hs' hw => ?_).symm
        have hw' := (winL_iff (winL_in h1 hw)).mp hw
        by_cases s0 : s = 0
        · subst s0; exact q4 (hw' i q3)
        · have P := (C s (by omega) fun j hj1 hj2 hj3 => by
            have a1 := hw' j (by omega)
            have a2 := right (j + s) hj2 (by omega)
            rw [show a + s + j = a + (j + s) by omega] at a1
            rw [← a1, a2]).1
          have a1 := hw' (i - s) (by omega)
          have a2 := P (i - s) (by omega)
          rw [show a + s + (i - s) = a + i by omega] at a1
          rw [show i - s + s = i by omega] at a2
          exact q4 (a1.trans a2)
      · -- a column ahead of the cut
        have right : ∀ j, cut ≤ j → j < w.length → gg t (a + j) = gg w j := fun j hj1 hj2 => by
          rcases Nat.lt_or_ge j kn with h | h
          · exact hk j h hin
          · exact q5 j (by omega) hj2
        rw [q1, if_neg (by omega), if_neg (by omega)]
        refine walk_ok h1 hc hs hp C f (a + step) (w.length - step) acc (by omega) ?_ (known right) (by omega)
        rw [e]
        refine (occL_skip step fun s hs' hw => ?_).symm
        by_cases s0 : s = 0
        · subst s0
          exact q4 ((winL_iff hin).mp hw i (by omega))
        · exact between right s (by omega) hs' hw
    · rw [if_neg hin, e]; exact occL_end h1 (by omega)

theorem lawOk_of {w t : List Int} {bar : Int} (h1 : 1 ≤ w.length) (hw : bar ∉ w) (ht : bar ∉ t) : LawOk w t bar := by
  have hl : ∀ s, s ≤ w.length → (w.take s).length = s := fun s h => by rw [List.length_take]; omega
  have hst : ∀ s, 1 ≤ s → s ≤ w.length → stepW w s = (((w.take s).length - lb (gg (w.take s)) (w.take s).length : Nat) : Int) := fun s a b => by rw [hl s b]; exact stepW_eq a b
  refine ⟨fun s a b sg hs => law_laps a b hs, fun s a b sg hs => ?_, fun s a b sg => cmpR_self _ _ _, fun s a b => ?_, fun s a b => ?_, fun s a b => ?_, fun s a b => ?_, law_places hw ht h1, ?_⟩
  · rw [law_more (by rw [hl s b]; exact a), hl s b]
  · have := law_max (w := w.take s) (by rw [hl s b]; exact a)
    rw [hst s a b]; rwa [hl s b] at this ⊢
  · rw [hst s a b, hl s b]; omega
  · rw [hst s a b]
    have := law_cutlt (w := w.take s) (by rw [hl s b]; exact a)
    omega
  · rw [hst s a b]
    exact law_loc (w := w.take s) (by rw [hl s b]; exact a)
  · obtain ⟨p1, p2, p3⟩ := per_spec (g := gg w) (n := w.length) h1
    have e : (stepW w w.length).toNat = w.length - lb (gg w) w.length := by
      rw [hst w.length h1 (Nat.le_refl _), List.take_length]; omega
    rw [e]
    exact walk_ok h1 (law_cutlt h1) (by omega) p1 (fun s hs L => ⟨(cft h1 hs L).2, p3 s hs (cft h1 hs L).2⟩) (t.length + 1) 0 0 [] (by omega) rfl (fun i hi => by omega) h1

theorem bar_word (nums : List Int) : barW nums ∉ wordW nums := fun h => by
  have h1 := wordW_length nums
  have := (maxW_is (xs := wordW nums) (by have := (sizeW_le nums).1; omega)).2 _ h
  unfold barW at this; omega
theorem bar_text (nums : List Int) : barW nums ∉ textW nums := fun h => by
  have hw := bar_word nums
  have tk : ∀ n, barW nums ∉ (wordW nums).take n := fun n h => hw (List.mem_of_mem_take h)
  unfold textW at h
  simp only [List.mem_append, List.mem_cons, List.not_mem_nil, or_false] at h
  rcases h with (((((h | h) | h) | h) | h) | h) | h
  · exact tk _ h
  · exact tk _ h
  · exact tk _ h
  · omega
  · exact tk _ h
  · exact tk _ h
  · exact tk _ h
theorem lawOk (nums : List Int) : LawOk (wordW nums) (textW nums) (barW nums) :=
  lawOk_of (by have := (sizeW_le nums).1; have := wordW_length nums; omega) (bar_word nums) (bar_text nums)
end Mine

set_option maxRecDepth 100000 in
set_option maxHeartbeats 8000000 in
theorem PySem.Challenge.cw_rw0008_01_holds : PySem.Challenge.rw_rw0008_01.Holds := by
  apply Mine.hd
  k_fill
  intro w s₀ s₁ mg mb G Y fa o pm cd doc dV kV ho hd' hcd hD hmg hg args vals as hpre hlay hrd hwl hlo
  have KX := kIn_of Y
  refine Ground.open G ?_
  intro T B D TE TW
  have e81 := Mine.law_at KX T.g
  have hmg' : mg "law" = some (.ref fa) := hmg
  rw [e81] at hmg'
  cases hmg'
  wrow_args hpre hlay hrd hwl hlo
  refine enter_call ?_
  w_top on
  rename_i hL _ _ _ hI _ hc _
  refine codeAny_mono ?_ (fun _ _ g => GoodW.toG g)
  refine Mine.law_run (c := Mine.cxOf w mg) (Mine.k_ok KX T.g) Mine.fn_law ⟨rfl, by decide, by decide⟩ ⟨KX, T.g, ⟨mb, T.b, T.builtins⟩, T.nolimit⟩ hL hI (by omega) (fun nums _ => Mine.lawOk nums) (fun s' kp => ?_)
  obtain ⟨⟨h', tk, rfl⟩, kh⟩ := kp
  refine ⟨.inl ⟨_, .bool true, [], rfl, raisesW_false ?_, .bool true, ?_, unshared_nil⟩, kh, rfl, hg⟩
  · wrow_none_raised
  · kc_post
