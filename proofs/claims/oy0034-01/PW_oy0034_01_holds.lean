import PyProof.Rows.All
import Wide.All
import OpenK.AllK
import Wide.FinOn
import PySem.Challenge.RW_oy0034_01

section -- OyHead
open PySem PySem.W PyProof.Rows
set_option Elab.async false
set_option maxRecDepth 100000
set_option maxHeartbeats 8000000
namespace Mine
open_top oy_hd for PySem.Challenge.rw_oy0034_01
end Mine

end -- OyHead

section -- OyCore
open PySem PySem.W PySem.Calls PyProof.Rows
set_option Elab.async false
namespace Mine

/-- plain data as the program's values hold them -/
inductive D where
  | none
  | bool (b : Bool)
  | int (i : Int)
  | str (s : Str)
  | bytes (b : Array UInt8)
  | obj (v : Value)
  | list (ds : List D)
  | tuple (ds : List D)

mutual
/-- value v reads as datum d in heap h; no list or tuple on the way lies at an address of W -/
inductive Rd (W : List Addr) (h : Heap) : Value → D → Prop
  | none : Rd W h .none .none
  | bool (b : Bool) : Rd W h (.bool b) (.bool b)
  | int (i : Int) (t : Tok) : Rd W h (.int i t) (.int i)
  | str (x : Str) (t : Tok) : Rd W h (.str x t) (.str x)
  | bytes (b : Array UInt8) (t : Tok) : Rd W h (.bytes b t) (.bytes b)
  | obj (v : Value) : Rd W h v (.obj v)
  | list {a : Addr} {vs : List Value} {ds : List D} : a ∉ W → h.PlainList a vs.toArray → Rds W h vs ds → Rd W h (.ref a) (.list ds)
  | tuple {a : Addr} {vs : List Value} {ds : List D} : a ∉ W → h.IsTuple a vs.toArray → Rds W h vs ds → Rd W h (.ref a) (.tuple ds)
inductive Rds (W : List Addr) (h : Heap) : List Value → List D → Prop
  | nil : Rds W h [] []
  | cons {v : Value} {d : D} {vs : List Value} {ds : List D} : Rd W h v d → Rds W h vs ds → Rds W h (v :: vs) (d :: ds)
end

/-- all that h holds outside W, h' holds too -/
noncomputable def ExtW (W : List Addr) (h h' : Heap) : Prop := ∀ b o, b ∉ W → h.get? b = some o → h'.get? b = some o
noncomputable abbrev Ext (h h' : Heap) : Prop := ∀ b o, h.get? b = some o → h'.get? b = some o

theorem ExtW.refl {W : List Addr} {h : Heap} : ExtW W h h := fun _ _ _ e => e
theorem ExtW.trans {W : List Addr} {h h' h'' : Heap} (x : ExtW W h h') (y : ExtW W h' h'') : ExtW W h h'' := fun b o n e => y b o n (x b o n e)
theorem ExtW.ofExt {W : List Addr} {h h' : Heap} (x : Ext h h') : ExtW W h h' := fun b o _ e => x b o e

theorem Rd.move {W W' : List Addr} {h h' : Heap} (hx : ∀ b o, b ∉ W → h.get? b = some o → h'.get? b = some o ∧ b ∉ W') {v : Value} {d : D} (r : Rd W h v d) : Rd W' h' v d := by
  refine Rd.rec (motive_1 := fun v d _ => Rd W' h' v d) (motive_2 := fun vs ds _ => Rds W' h' vs ds) ?_ ?_ ?_ ?_ ?_ ?_ ?_ ?_ ?_ ?_ r
  · exact .none
  · exact .bool
  · exact .int
  · exact .str
  · exact .bytes
  · exact .obj
  · intro a vs ds ha hl _ ih
    obtain ⟨n, ho⟩ := hl
    exact .list (hx a _ ha ho).2 ⟨n, (hx a _ ha ho).1⟩ ih
  · intro a vs ds ha hl _ ih
    obtain ⟨o, ho, x⟩ := hl
    exact .tuple (hx a o ha ho).2 ⟨o, (hx a o ha ho).1, x⟩ ih
  · exact .nil
  · intro v d vs ds _ _ i1 i2
    exact .cons i1 i2
theorem Rds.move {W W' : List Addr} {h h' : Heap} (hx : ∀ b o, b ∉ W → h.get? b = some o → h'.get? b = some o ∧ b ∉ W') : ∀ {vs : List Value} {ds : List D}, Rds W h vs ds → Rds W' h' vs ds
  | _, _, .nil => .nil
  | _, _, .cons r rs => .cons (r.move hx) (Rds.move hx rs)
theorem Rd.mono {W : List Addr} {h h' : Heap} {v : Value} {d : D} (r : Rd W h v d) (x : ExtW W h h') : Rd W h' v d := r.move fun b o n e => ⟨x b o n e, n⟩
theorem Rds.mono {W : List Addr} {h h' : Heap} {vs : List Value} {ds : List D} (r : Rds W h vs ds) (x : ExtW W h h') : Rds W h' vs ds := r.move fun b o n e => ⟨x b o n e, n⟩
theorem Rd.ext {W : List Addr} {h h' : Heap} {v : Value} {d : D} (r : Rd W h v d) (x : Ext h h') : Rd W h' v d := r.mono (.ofExt x)
theorem Rds.ext {W : List Addr} {h h' : Heap} {vs : List Value} {ds : List D} (r : Rds W h vs ds) (x : Ext h h') : Rds W h' vs ds := r.mono (.ofExt x)
theorem Rd.less {W W' : List Addr} {h : Heap} {v : Value} {d : D} (r : Rd W h v d) (x : ∀ a ∈ W', a ∈ W) : Rd W' h v d := r.move fun b o n e => ⟨e, fun q => n (x b q)⟩
theorem Rds.less {W W' : List Addr} {h : Heap} {vs : List Value} {ds : List D} (r : Rds W h vs ds) (x : ∀ a ∈ W', a ∈ W) : Rds W' h vs ds := r.move fun b o n e => ⟨e, fun q => n (x b q)⟩
theorem Rds.length {W : List Addr} {h : Heap} : ∀ {vs : List Value} {ds : List D}, Rds W h vs ds → vs.length = ds.length
  | _, _, .nil => rfl
  | _, _, .cons _ rs => by simp [Rds.length rs]
theorem Rds.get {W : List Addr} {h : Heap} : ∀ {vs : List Value} {ds : List D}, Rds W h vs ds → ∀ {i : Nat} {d : D}, ds[i]? = some d → ∃ v, vs[i]? = some v ∧ Rd W h v d
  | _, _, .nil, i, d, e => by simp at e
  | _, _, .cons r rs, 0, d, e => by simp at e; subst e; exact ⟨_, rfl, r⟩
  | _, _, .cons r rs, i + 1, d, e => by
    have e' := e
    simp only [List.getElem?_cons_succ] at e' ⊢
    exact rs.get e'
theorem Rds.get' {W : List Addr} {h : Heap} : ∀ {vs : List Value} {ds : List D}, Rds W h vs ds → ∀ {i : Nat} {v : Value}, vs[i]? = some v → ∃ d, ds[i]? = some d ∧ Rd W h v d
  | _, _, .nil, i, d, e => by simp at e
  | _, _, .cons r rs, 0, d, e => by simp at e; subst e; exact ⟨_, rfl, r⟩
  | _, _, .cons r rs, i + 1, d, e => by
    have e' := e
    simp only [List.getElem?_cons_succ] at e' ⊢
    exact rs.get' e'
theorem Rds.append {W : List Addr} {h : Heap} : ∀ {vs vs' : List Value} {ds ds' : List D}, Rds W h vs ds → Rds W h vs' ds' → Rds W h (vs ++ vs') (ds ++ ds')
  | _, _, _, _, .nil, y => y
  | _, _, _, _, .cons r rs, y => .cons r (rs.append y)
theorem Rds.take {W : List Addr} {h : Heap} : ∀ {vs : List Value} {ds : List D}, Rds W h vs ds → ∀ n, Rds W h (vs.take n) (ds.take n)
  | _, _, _, 0 => by simpa using Rds.nil
  | _, _, .nil, n + 1 => by simpa using Rds.nil
  | _, _, .cons r rs, n + 1 => .cons r (rs.take n)
theorem Rds.drop {W : List Addr} {h : Heap} : ∀ {vs : List Value} {ds : List D}, Rds W h vs ds → ∀ n, Rds W h (vs.drop n) (ds.drop n)
  | _, _, x, 0 => by simpa using x
  | _, _, .nil, n + 1 => by simpa using Rds.nil
  | _, _, .cons r rs, n + 1 => by simpa using rs.drop n
theorem Rds.set {W : List Addr} {h : Heap} {v : Value} {d : D} (r : Rd W h v d) : ∀ {vs : List Value} {ds : List D}, Rds W h vs ds → ∀ n, Rds W h (vs.set n v) (ds.set n d)
  | _, _, .nil, _ => .nil
  | _, _, .cons _ rs, 0 => .cons r rs
  | _, _, .cons r' rs, n + 1 => .cons r' (rs.set r n)
theorem Rds.one {W : List Addr} {h : Heap} {v : Value} {d : D} (r : Rd W h v d) : Rds W h [v] [d] := .cons r .nil

theorem Rd.noneI {W : List Addr} {h : Heap} {v : Value} (r : Rd W h v .none) : v = .none := by cases r; rfl
theorem Rd.boolI {W : List Addr} {h : Heap} {v : Value} {b : Bool} (r : Rd W h v (.bool b)) : v = .bool b := by cases r; rfl
theorem Rd.intI {W : List Addr} {h : Heap} {v : Value} {i : Int} (r : Rd W h v (.int i)) : ∃ t, v = .int i t := by cases r; exact ⟨_, rfl⟩
theorem Rd.strI {W : List Addr} {h : Heap} {v : Value} {x : Str} (r : Rd W h v (.str x)) : ∃ t, v = .str x t := by cases r; exact ⟨_, rfl⟩
theorem Rd.bytesI {W : List Addr} {h : Heap} {v : Value} {x : Array UInt8} (r : Rd W h v (.bytes x)) : ∃ t, v = .bytes x t := by cases r; exact ⟨_, rfl⟩
theorem Rd.objI {W : List Addr} {h : Heap} {v u : Value} (r : Rd W h v (.obj u)) : v = u := by cases r; rfl
theorem Rd.listI {W : List Addr} {h : Heap} {v : Value} {ds : List D} (r : Rd W h v (.list ds)) : ∃ (a : Addr) (vs : List Value), v = .ref a ∧ a ∉ W ∧ h.PlainList a vs.toArray ∧ Rds W h vs ds := by cases r with | list ha hl rs => exact ⟨_, _, rfl, ha, hl, rs⟩
theorem Rd.tupI {W : List Addr} {h : Heap} {v : Value} {ds : List D} (r : Rd W h v (.tuple ds)) : ∃ (a : Addr) (vs : List Value), v = .ref a ∧ a ∉ W ∧ h.IsTuple a vs.toArray ∧ Rds W h vs ds := by cases r with | tuple ha hl rs => exact ⟨_, _, rfl, ha, hl, rs⟩
theorem Rd.ii {W : List Addr} {h : Heap} {v w : Value} {i j : Int} (r : Rd W h v (.int i)) (q : Rd W h w (.int j)) : ∃ t u, v = .int i t ∧ w = .int j u := let ⟨t, e⟩ := r.intI; let ⟨u, f⟩ := q.intI; ⟨t, u, e, f⟩
theorem Rd.ss {W : List Addr} {h : Heap} {v w : Value} {i j : Str} (r : Rd W h v (.str i)) (q : Rd W h w (.str j)) : ∃ t u, v = .str i t ∧ w = .str j u := let ⟨t, e⟩ := r.strI; let ⟨u, f⟩ := q.strI; ⟨t, u, e, f⟩
theorem Rd.sI {W : List Addr} {h : Heap} {v w : Value} {i : Str} {j : Int} (r : Rd W h v (.str i)) (q : Rd W h w (.int j)) : ∃ t u, v = .str i t ∧ w = .int j u := let ⟨t, e⟩ := r.strI; let ⟨u, f⟩ := q.intI; ⟨t, u, e, f⟩
theorem Rd.bI {W : List Addr} {h : Heap} {v w : Value} {i : Array UInt8} {j : Int} (r : Rd W h v (.bytes i)) (q : Rd W h w (.int j)) : ∃ t u, v = .bytes i t ∧ w = .int j u := let ⟨t, e⟩ := r.bytesI; let ⟨u, f⟩ := q.intI; ⟨t, u, e, f⟩
theorem Rd.bb {W : List Addr} {h : Heap} {v w : Value} {i j : Array UInt8} (r : Rd W h v (.bytes i)) (q : Rd W h w (.bytes j)) : ∃ t u, v = .bytes i t ∧ w = .bytes j u := let ⟨t, e⟩ := r.bytesI; let ⟨u, f⟩ := q.bytesI; ⟨t, u, e, f⟩
theorem Rd.oo {W : List Addr} {h : Heap} {v w : Value} {i j : Bool} (r : Rd W h v (.bool i)) (q : Rd W h w (.bool j)) : v = .bool i ∧ w = .bool j := ⟨r.boolI, q.boolI⟩

theorem Rds.inv1 {W : List Addr} {h : Heap} {vs : List Value} {d : D} (r : Rds W h vs [d]) : ∃ v, vs = [v] ∧ Rd W h v d := by
  cases r with | cons r1 r => cases r; exact ⟨_, rfl, r1⟩
theorem Rds.inv2 {W : List Addr} {h : Heap} {vs : List Value} {d e : D} (r : Rds W h vs [d, e]) : ∃ v w, vs = [v, w] ∧ Rd W h v d ∧ Rd W h w e := by
  cases r with | cons r1 r => cases r with | cons r2 r => cases r; exact ⟨_, _, rfl, r1, r2⟩

theorem lt4 : ∀ {n : Nat}, n < 4 → n = 0 ∨ n = 1 ∨ n = 2 ∨ n = 3
  | 0, _ => .inl rfl
  | 1, _ => .inr (.inl rfl)
  | 2, _ => .inr (.inr (.inl rfl))
  | 3, _ => .inr (.inr (.inr rfl))
  | n + 4, h => absurd h (Nat.not_lt.mpr (Nat.le_add_left 4 n))
theorem one_of {vs : List Value} (h : vs.length = 1) : ∃ v, vs = [v] := by
  match vs, h with
  | [v], _ => exact ⟨v, rfl⟩
theorem two_of {vs : List Value} (h : vs.length = 2) : ∃ v w, vs = [v, w] := by
  match vs, h with
  | [v, w], _ => exact ⟨v, w, rfl⟩
theorem three_of {vs : List Value} (h : vs.length = 3) : ∃ v w u, vs = [v, w, u] := by
  match vs, h with
  | [v, w, u], _ => exact ⟨v, w, u, rfl⟩
/-- ints, texts as data -/
noncomputable abbrev dInts (ns : List Int) : List D := ns.map .int
noncomputable abbrev dStrs (xs : List Str) : List D := xs.map .str
theorem Rds.intsAre {W : List Addr} {h : Heap} : ∀ {vs : List Value} {ns : List Int}, Rds W h vs (dInts ns) → IntsAre vs ns
  | [], [], _ => .nil
  | [], _ :: _, x => by cases x
  | _ :: _, [], x => by cases x
  | v :: vs, n :: ns, x => by
    cases x with
    | cons r rs => cases r; exact .cons _ _ rs.intsAre
theorem Rds.ofInts {W : List Addr} {h : Heap} : ∀ {vs : List Value} {ns : List Int}, IntsAre vs ns → Rds W h vs (dInts ns)
  | _, _, .nil => .nil
  | _, _, .cons _ _ r => .cons (.int _ _) (Rds.ofInts r)

/-- a name of the frame holds v -/
noncomputable def Bound (h : Heap) (env : Env) (x : Str) (v : Value) : Prop :=
  (env.kindOf x = some .local ∧ ∃ m, h.Ns env.locals m ∧ m x = some v) ∨
  ((env.kindOf x = some .cell ∨ env.kindOf x = some .free) ∧ ∃ c, env.cells.lookup x = some c ∧ h.IsCell c (some v))
theorem Bound.ext {h h' : Heap} {env : Env} {x : Str} {v : Value} (b : Bound h env x v) (e : Ext h h') : Bound h' env x v := by
  rcases b with ⟨k, m, hn, hm⟩ | ⟨k, c, hc, hi⟩
  · exact .inl ⟨k, m, hn.keeps e, hm⟩
  · exact .inr ⟨k, c, hc, hi.keeps e⟩

/-- what stands at the start of the law's call: the text's own objects K, the globals mg, the builtins mb -/
structure Gl (K : Frag) (mg mb : Str → Option Value) (H : Heap) : Prop where
  K : K.In H
  g : H.Ns mainGlobals mg
  b : H.Ns builtinsNs mb
  nolimit : H.NoLimit
  builtins : ∀ x : Str, x ≠ "__name__" → mb x = bootBuiltins x
theorem Gl.ext {K : Frag} {mg mb : Str → Option Value} {H H' : Heap} (G : Gl K mg mb H) (e : Ext H H') : Gl K mg mb H' :=
  ⟨fun a o q => e a o (G.K a o q), G.g.keeps e, G.b.keeps e, G.nolimit.keeps e, G.builtins⟩

/-- the frame env stands in h, all of it within W -/
structure FrameOk (env : Env) (W : List Addr) (h : Heap) : Prop where
  kind : env.scope.kind = .function
  ns : ∃ m, h.Ns env.locals m
  lw : env.locals ∈ W
  cell : ∀ x a, env.cells.lookup x = some a → a ∈ W ∧ ∃ v, h.IsCell a v
  apart : ∀ x y a, env.cells.lookup x = some a → env.cells.lookup y = some a → x = y

theorem FrameOk.ext {env : Env} {W : List Addr} {h h' : Heap} (f : FrameOk env W h) (e : Ext h h') : FrameOk env W h' :=
  ⟨f.kind, let ⟨m, q⟩ := f.ns; ⟨m, q.keeps e⟩, f.lw, fun x a q => let ⟨i, v, r⟩ := f.cell x a q; ⟨i, v, r.keeps e⟩, f.apart⟩
theorem FrameOk.more {env : Env} {W W' : List Addr} {h : Heap} (f : FrameOk env W h) (e : ∀ a ∈ W, a ∈ W') : FrameOk env W' h :=
  ⟨f.kind, f.ns, e _ f.lw, fun x a q => let ⟨i, r⟩ := f.cell x a q; ⟨e _ i, r⟩, f.apart⟩

theorem ns_not_cell {h : Heap} {a : Addr} {m : Str → Option Value} {v : Option Value} (x : h.Ns a m) (y : h.IsCell a v) : False := by
  obtain ⟨o, es, ep, ho, hd, _⟩ := x
  obtain ⟨o', ho', hd'⟩ := y
  rw [ho] at ho'; cases ho'
  rw [hd] at hd'; cases hd'
theorem ns_not_list {h : Heap} {a : Addr} {m : Str → Option Value} {v : Array Value} (x : h.Ns a m) (y : h.PlainList a v) : False := by
  obtain ⟨o, es, ep, ho, hd, _⟩ := x
  obtain ⟨n, ho'⟩ := y
  rw [ho] at ho'; cases ho'
  cases hd
theorem cell_not_list {h : Heap} {a : Addr} {m : Option Value} {v : Array Value} (x : h.IsCell a m) (y : h.PlainList a v) : False := by
  obtain ⟨o, ho, hd⟩ := x
  obtain ⟨n, ho'⟩ := y
  rw [ho] at ho'; cases ho'
  cases hd

/-- what holds while an expression of the frame env is evaluated: W its own mutable objects, own its lists among them, ρ its names -/
structure Cx where
  prog : Program
  w : World
  K : Frag
  mg : Str → Option Value
  mb : Str → Option Value
  H : Heap
  A : Around
  env : Env
  W : List Addr
  V : List Addr
  own : List (Addr × List D)
  ρ : List (Str × D)

structure Ok (c : Cx) (h : Heap) : Prop where
  gl : Gl c.K c.mg c.mb c.H
  base : Ext c.H h
  fr : FrameOk c.env c.V h
  vw : ∀ a ∈ c.V, a ∈ c.W
  glob : c.env.globals = mainGlobals
  blt : c.env.builtins = builtinsNs
  hh : c.A.handled = none
  wex : ∀ a ∈ c.W, ∃ o, h.get? a = some o
  wnew : ∀ a ∈ c.W, c.H.get? a = none
  vars : ∀ x d, c.ρ.lookup x = some d → ∃ v, Bound h c.env x v ∧ Rd c.W h v d
  own : ∀ p ∈ c.own, p.1 ∈ c.V ∧ ∃ vs : List Value, h.PlainList p.1 vs.toArray ∧ Rds c.W h vs p.2

theorem Ok.kind {c : Cx} {h : Heap} (k : Ok c h) : c.env.scope.kind = .function := k.fr.kind
theorem Ok.glh {c : Cx} {h : Heap} (k : Ok c h) : Gl c.K c.mg c.mb h := k.gl.ext k.base
theorem Ok.ext {c : Cx} {h h' : Heap} (k : Ok c h) (e : Ext h h') : Ok c h' where
  gl := k.gl
  base := fun b o q => e b o (k.base b o q)
  fr := k.fr.ext e
  vw := k.vw
  glob := k.glob
  blt := k.blt
  hh := k.hh
  wex := fun a ha => let ⟨o, ho⟩ := k.wex a ha; ⟨o, e a o ho⟩
  wnew := k.wnew
  vars := fun x d q => let ⟨v, b, r⟩ := k.vars x d q; ⟨v, b.ext e, r.ext e⟩
  own := fun p hp => let ⟨a, vs, l, r⟩ := k.own p hp; ⟨a, vs, l.at fun o q => e _ o q, r.ext e⟩
theorem Ok.fresh {c : Cx} {h : Heap} (k : Ok c h) : h.objs.size ∉ c.W := fun hm => let ⟨_, ho⟩ := k.wex _ hm; Nat.lt_irrefl _ (Heap.lt_size ho)
/-- objects of W have changed, the names and the own lists stand -/
theorem Ok.change {c : Cx} {h h' : Heap} (k : Ok c h) (f : FrameOk c.env c.V h') (e : ExtW c.W h h') (hw : ∀ a ∈ c.W, ∃ o, h'.get? a = some o) (hv : ∀ x v, Bound h c.env x v → Bound h' c.env x v)
    (ho : ∀ p ∈ c.own, ∀ vs : List Value, h.PlainList p.1 vs.toArray → h'.PlainList p.1 vs.toArray) : Ok c h' where
  gl := k.gl
  base := fun b o q => e b o (fun hm => by rw [k.wnew b hm] at q; cases q) (k.base b o q)
  fr := f
  vw := k.vw
  glob := k.glob
  blt := k.blt
  hh := k.hh
  wex := hw
  wnew := k.wnew
  vars := fun x d q => let ⟨v, b, r⟩ := k.vars x d q; ⟨v, hv x v b, r.mono e⟩
  own := fun p hp => let ⟨a, vs, l, r⟩ := k.own p hp; ⟨a, vs, ho p hp vs l, r.mono e⟩
theorem Ok.rho {c : Cx} {h : Heap} (k : Ok c h) (ρ : List (Str × D)) (hv : ∀ x d, ρ.lookup x = some d → ∃ v, Bound h c.env x v ∧ Rd c.W h v d) : Ok { c with ρ := ρ } h :=
  ⟨k.gl, k.base, k.fr, k.vw, k.glob, k.blt, k.hh, k.wex, k.wnew, hv, k.own⟩

noncomputable abbrev Cx.M (c : Cx) : Model := model c.prog c.w

/-- every object is kept; only heap and tokens change -/
noncomputable def Kp (s s' : Shared) : Prop := ∃ h' tk, s' = { s with heap := h', toks := tk } ∧ Ext s.heap h'
theorem Kp.refl (s : Shared) : Kp s s := ⟨s.heap, s.toks, rfl, fun _ _ e => e⟩
theorem Kp.trans {s s' s'' : Shared} (x : Kp s s') (y : Kp s' s'') : Kp s s'' := by
  obtain ⟨h, t, rfl, e⟩ := x
  obtain ⟨h', t', rfl, e'⟩ := y
  exact ⟨h', t', rfl, fun b o q => e' b o (e b o q)⟩
theorem Kp.ext {s s' : Shared} (x : Kp s s') : Ext s.heap s'.heap := by
  obtain ⟨h, t, rfl, e⟩ := x; exact e
theorem Kp.toks (s : Shared) (t : Nat) : Kp s { s with toks := t } := ⟨s.heap, t, rfl, fun _ _ e => e⟩
theorem Kp.grow (s : Shared) (h : Heap) (t : Nat) (e : Ext s.heap h) : Kp s { s with heap := h, toks := t } := ⟨h, t, rfl, e⟩
theorem Kp.keeps {s s' : Shared} (x : Kp s s') : Keeps s s' := x
theorem Kp.of {s s' : Shared} (x : Keeps s s') : Kp s s' := x

/-- a quiet step: it keeps every object, and its value reads as d -/
noncomputable def Qt (c : Cx) (t : Sem Value) (d : D) (s : Shared) : Prop := ∀ E, wpAny c.M c.A t (fun v s' => Kp s s' ∧ Rd c.W s'.heap v d) E s
noncomputable def Ev (c : Cx) (e : Expr) (d : D) : Prop := ∀ s, Ok c s.heap → Qt c (eval e c.env) d s

/-- the evaluation of one expression as a step of a larger one -/
theorem Ev.step {c : Cx} {e : Expr} {d : D} {s : Shared} {Q : Value → Shared → Prop} {E : Value → Shared → Prop} (h : Ev c e d) (k : Ok c s.heap)
    (q : ∀ v s', Kp s s' → Ok c s'.heap → Rd c.W s'.heap v d → Q v s') : wpAny c.M c.A (eval e c.env) Q E s :=
  wpAny_mono (h s k E) (fun v s' x => q v s' x.1 (k.ext x.1.ext) x.2) fun _ _ e => e

theorem Ev.name {c : Cx} {x : Str} {pos : Pos} {d : D} (hx : c.ρ.lookup x = some d) (hd : (x == ("__debug__" : Str)) = false := by decide) (hc : (x == ("__classdict__" : Str)) = false := by decide) : Ev c (.Name x pos) d := by
  intro s k E
  obtain ⟨v, b, r⟩ := k.vars x d hx
  rcases b with ⟨q, m, hn, hm⟩ | ⟨q | q, a, ha, hi⟩
  · exact wpAny_Name (wpAny_loadName_local k.kind q hn hm ⟨.refl s, r⟩) hd
  · exact wpAny_Name (wpAny_loadName_cell k.kind q ha hi ⟨.refl s, r⟩) hd
  · exact wpAny_Name (wpAny_loadName_free k.kind q ha hi ⟨.refl s, r⟩ hc) hd

theorem Ev.glob {c : Cx} {x : Str} {pos : Pos} {v : Value} {d : D} (hx : c.env.kindOf x = some .globalImplicit) (hv : nsIn c.K mainGlobals x = some (some v))
    (hr : ∀ s : Shared, Ok c s.heap → Rd c.W s.heap v d) (hd : (x == ("__debug__" : Str)) = false := by decide) : Ev c (.Name x pos) d := by
  intro s k E
  refine Calls.Name_function_global k.kind hx (Calls.loadGlobal_global (mg := c.mg) ?_ (mg_of k.glh.K k.glh.g hv) ⟨.refl s, hr s k⟩) hd
  rw [k.glob]; exact k.glh.g

theorem Ev.builtin {c : Cx} {x : Str} {pos : Pos} {v : Value} (hx : c.env.kindOf x = some .globalImplicit) (hv : nsIn c.K mainGlobals x = some none)
    (hb : bootBuiltins x = some v) (hn : x ≠ "__name__" := by decide) (hd : (x == ("__debug__" : Str)) = false := by decide) : Ev c (.Name x pos) (.obj v) := by
  intro s k E
  refine Calls.Name_function_global k.kind hx (Calls.loadGlobal_builtin (mg := c.mg) ?_ (mg_none_of k.glh.K k.glh.g hv) (mb := c.mb) ?_ ((k.gl.builtins x hn).trans hb) ⟨.refl s, .obj v⟩) hd
  · rw [k.glob]; exact k.glh.g
  · rw [k.blt]; exact k.glh.b

theorem Ev.int {c : Cx} {i : Int} {k : Nat} {pos : Pos} : Ev c (.Constant (.int i) k pos) (.int i) := fun _ _ _ => wpAny_Constant_int ⟨.toks _ _, .int _ _⟩

theorem Ev.bin {c : Cx} {l r : Expr} {op : Operator} {pos : Pos} {a b d : D} (hl : Ev c l a) (hr : Ev c r b)
    (ho : ∀ va vb s, Ok c s.heap → Rd c.W s.heap va a → Rd c.W s.heap vb b → Qt c (binaryOp op va vb) d s) : Ev c (.BinOp l op r pos) d := by
  intro s k E
  refine wpAny_BinOp (hl.step k fun va s₁ e₁ k₁ r₁ => hr.step k₁ fun vb s₂ e₂ k₂ r₂ => ?_)
  exact wpAny_mono (ho va vb s₂ k₂ (r₁.ext e₂.ext) r₂ E) (fun v s' x => ⟨e₁.trans (e₂.trans x.1), x.2⟩) fun _ _ e => e

theorem Ev.cmp {c : Cx} {l r : Expr} {op : CmpOp} {pos : Pos} {a b d : D} (hl : Ev c l a) (hr : Ev c r b)
    (ho : ∀ va vb s, Ok c s.heap → Rd c.W s.heap va a → Rd c.W s.heap vb b → Qt c (compareOp op va vb) d s)
    (hm : behindInMarks op r = false := by with_unfolding_all rfl) : Ev c (.Compare l [op] [r] pos) d := by
  intro s k E
  refine wpAny_Compare1 (hl.step k fun va s₁ e₁ k₁ r₁ => hr.step k₁ fun vb s₂ e₂ k₂ r₂ => ?_) hm
  exact wpAny_mono (ho va vb s₂ k₂ (r₁.ext e₂.ext) r₂ E) (fun v s' x => ⟨e₁.trans (e₂.trans x.1), x.2⟩) fun _ _ e => e

section
variable {c : Cx} {l r : Expr} {pos : Pos} {a b : Int}
theorem Ev.add (hl : Ev c l (.int a)) (hr : Ev c r (.int b)) : Ev c (.BinOp l .Add r pos) (.int (a + b)) :=
  hl.bin hr fun va vb s k ra rb E => by obtain ⟨_, _, rfl, rfl⟩ := ra.ii rb; exact PyProof.Rows.add_int ⟨.toks _ _, .int _ _⟩
theorem Ev.sub (hl : Ev c l (.int a)) (hr : Ev c r (.int b)) : Ev c (.BinOp l .Sub r pos) (.int (a - b)) :=
  hl.bin hr fun va vb s k ra rb E => by obtain ⟨_, _, rfl, rfl⟩ := ra.ii rb; exact PyProof.Rows.sub_int ⟨.toks _ _, .int _ _⟩
theorem Ev.mul (hl : Ev c l (.int a)) (hr : Ev c r (.int b)) (hm : IntMulOk a b) : Ev c (.BinOp l .Mult r pos) (.int (a * b)) :=
  hl.bin hr fun va vb s k ra rb E => by obtain ⟨_, _, rfl, rfl⟩ := ra.ii rb; exact PyProof.Rows.mul_int ⟨.toks _ _, .int _ _⟩ hm
theorem Ev.mod (hl : Ev c l (.int a)) (hr : Ev c r (.int b)) (hb : 0 < b) : Ev c (.BinOp l .Mod r pos) (.int (a % b)) :=
  hl.bin hr fun va vb s k ra rb E => by
    obtain ⟨_, _, rfl, rfl⟩ := ra.ii rb
    rw [← Int.fmod_eq_emod_of_nonneg _ (Int.le_of_lt hb)]
    exact PyProof.Rows.mod_int (by omega) ⟨.toks _ _, .int _ _⟩
theorem Ev.div (hl : Ev c l (.int a)) (hr : Ev c r (.int b)) (hb : 0 < b) (hp : b < 1073741824) : Ev c (.BinOp l .FloorDiv r pos) (.int (a / b)) :=
  hl.bin hr fun va vb s k ra rb E => by
    obtain ⟨_, _, rfl, rfl⟩ := ra.ii rb
    rw [← Int.fdiv_eq_ediv_of_nonneg _ (Int.le_of_lt hb)]
    exact PyProof.Rows.floordiv_int (by omega) ⟨.toks _ _, .int _ _⟩ (.inl (PyProof.noPylong_small (by omega)))
end

end Mine

end -- OyCore

section -- OyExpr
open PySem PySem.W PySem.Calls PyProof.Rows
set_option Elab.async false
namespace Mine

theorem Ext.push (h : Heap) (o : Obj) : Ext h (h.push o) := fun _ _ e => Heap.get?_push_of_some _ e
theorem Ext.trans {h h' h'' : Heap} (x : Ext h h') (y : Ext h' h'') : Ext h h'' := fun b o e => y b o (x b o e)

section
variable {c : Cx} {k : Nat} {pos : Pos}
theorem Ev.str {x : Str} : Ev c (.Constant (.str x) k pos) (.str x) := fun _ _ _ => wpAny_Constant_str ⟨.toks _ _, .str _ _⟩
theorem Ev.bytes {x : List UInt8} : Ev c (.Constant (.bytes x) k pos) (.bytes x.toArray) := fun _ _ _ => Constant_bytes ⟨.toks _ _, .bytes _ _⟩
theorem Ev.bool {b : Bool} : Ev c (.Constant (.bool b) k pos) (.bool b) := fun _ _ _ => wpAny_Constant_bool ⟨.refl _, .bool _⟩
theorem Ev.none : Ev c (.Constant .none k pos) .none := fun _ _ _ => wpAny_Constant_none ⟨.refl _, .none⟩
end

/-- one operation on two data -/
noncomputable def Bn (c : Cx) (op : Operator) (a b d : D) : Prop := ∀ va vb s, Ok c s.heap → Rd c.W s.heap va a → Rd c.W s.heap vb b → Qt c (binaryOp op va vb) d s
noncomputable def Cm (c : Cx) (op : CmpOp) (a b : D) (r : Bool) : Prop := ∀ va vb s, Ok c s.heap → Rd c.W s.heap va a → Rd c.W s.heap vb b → Qt c (compareOp op va vb) (.bool r) s
/-- a test -/
noncomputable def Tv (c : Cx) (e : Expr) (b : Bool) : Prop := ∀ s, Ok c s.heap → ∀ E, wpAny c.M c.A (isTrue e c.env (eval e c.env)) (fun r s' => Kp s s' ∧ r = b) E s
theorem Tv.step {c : Cx} {e : Expr} {b : Bool} {s : Shared} {Q : Bool → Shared → Prop} {E : Value → Shared → Prop} (h : Tv c e b) (k : Ok c s.heap)
    (q : ∀ s', Kp s s' → Ok c s'.heap → Q b s') : wpAny c.M c.A (isTrue e c.env (eval e c.env)) Q E s :=
  wpAny_mono (h s k E) (fun v s' x => by rw [x.2]; exact q s' x.1 (k.ext x.1.ext)) fun _ _ e => e

section
variable {c : Cx}
theorem Cm.eqInt {a b : Int} : Cm c .Eq (.int a) (.int b) (a == b) := fun va vb s k ra rb E => by obtain ⟨_, _, rfl, rfl⟩ := ra.ii rb; exact PyProof.Rows.eq_int ⟨.refl _, .bool _⟩
theorem Cm.geInt {a b : Int} : Cm c .GtE (.int a) (.int b) (decide (b ≤ a)) := fun va vb s k ra rb E => by obtain ⟨_, _, rfl, rfl⟩ := ra.ii rb; exact PyProof.Rows.ge_int ⟨.refl _, .bool _⟩
theorem Cm.eqStr {a b : Str} : Cm c .Eq (.str a) (.str b) (a == b) := fun va vb s k ra rb E => by obtain ⟨_, _, rfl, rfl⟩ := ra.ss rb; exact PyProof.Rows.eq_str ⟨.refl _, .bool _⟩
theorem Cm.ltStr {a b : Str} : Cm c .Lt (.str a) (.str b) (decide (a.cps.toList < b.cps.toList)) := fun va vb s k ra rb E => by obtain ⟨_, _, rfl, rfl⟩ := ra.ss rb; exact PyProof.Rows.lt_str ⟨.refl _, .bool _⟩
theorem Cm.gtStr {a b : Str} : Cm c .Gt (.str a) (.str b) (decide (b.cps.toList < a.cps.toList)) := fun va vb s k ra rb E => by obtain ⟨_, _, rfl, rfl⟩ := ra.ss rb; exact PySem.P.gt_str ⟨.refl _, .bool _⟩
theorem Cm.eqBool {a b : Bool} : Cm c .Eq (.bool a) (.bool b) (a == b) := fun va vb s k ra rb E => by obtain ⟨rfl, rfl⟩ := ra.oo rb; exact PyProof.Rows.eq_bool ⟨.refl _, .bool _⟩

theorem Ev.cm {l r : Expr} {op : CmpOp} {pos : Pos} {a b : D} {q : Bool} (hl : Ev c l a) (hr : Ev c r b) (ho : Cm c op a b q)
    (hm : behindInMarks op r = false := by with_unfolding_all rfl) : Ev c (.Compare l [op] [r] pos) (.bool q) := hl.cmp hr ho hm
theorem Tv.cm {l r : Expr} {op : CmpOp} {pos : Pos} {a b : D} {q : Bool} (hl : Ev c l a) (hr : Ev c r b) (ho : Cm c op a b q)
    (hm : behindInMarks op r = false := by with_unfolding_all rfl) : Tv c (.Compare l [op] [r] pos) q := by
  intro s k E
  refine wpAny_isTrue_Compare1 (hl.step k fun va s₁ e₁ k₁ r₁ => hr.step k₁ fun vb s₂ e₂ k₂ r₂ => ?_) hm
  refine wpAny_mono (ho va vb s₂ k₂ (r₁.ext e₂.ext) r₂ E) (fun v s' x => ?_) fun _ _ e => e
  obtain ⟨x1, x2⟩ := x
  obtain rfl := x2.boolI
  exact wpAny_truthy_bool ⟨e₁.trans (e₂.trans x1), rfl⟩
theorem Tv.ofEv {e : Expr} {b : Bool} (h : Ev c e (.bool b)) (he : isTrue e c.env (eval e c.env) = (do let v ← eval e c.env; standAt e.pos; holding [v] (truthy v)) := by rfl) : Tv c e b := by
  intro s k E
  refine wpAny_isTrue_value (h.step k fun v s₁ e₁ k₁ r₁ => ?_) he
  obtain rfl := r₁.boolI
  exact wpAny_truthy_bool ⟨e₁, rfl⟩
theorem Tv.not {e : Expr} {pos : Pos} {b : Bool} (h : Tv c e b) : Tv c (.UnaryOp .Not e pos) (!b) := fun s k E =>
  wpAny_isTrue_Not (h.step k fun s₁ e₁ _ => ⟨e₁, rfl⟩)

/-- tests joined by and -/
noncomputable def Ta (c : Cx) (es : List Expr) (b : Bool) : Prop := ∀ s, Ok c s.heap → ∀ E, wpAny c.M c.A (allTrue .And es c.env) (fun r s' => Kp s s' ∧ r = b) E s
theorem Ta.nil : Ta c [] true := fun s _ E => wpAny_allTrue_And_nil ⟨.refl _, rfl⟩
theorem Ta.cons {e : Expr} {es : List Expr} {b b' : Bool} (h : Tv c e b) (hr : b = true → Ta c es b') : Ta c (e :: es) (b && b') := by
  intro s k E
  refine wpAny_allTrue_And_cons (h.step k fun s₁ e₁ k₁ => ?_)
  cases b with
  | false => exact ⟨e₁, rfl⟩
  | true => exact wpAny_mono (hr rfl s₁ k₁ E) (fun r s' x => ⟨e₁.trans x.1, by rw [x.2]; rfl⟩) fun _ _ e => e
theorem Tv.and {es : List Expr} {pos : Pos} {b : Bool} (h : Ta c es b) : Tv c (.BoolOp .And es pos) b := fun s k E => wpAny_isTrue_BoolOp (h s k E)
noncomputable def To (c : Cx) (es : List Expr) (b : Bool) : Prop := ∀ s, Ok c s.heap → ∀ E, wpAny c.M c.A (allTrue .Or es c.env) (fun r s' => Kp s s' ∧ r = b) E s
theorem To.nil : To c [] false := fun s _ E => wpAny_allTrue_Or_nil ⟨.refl _, rfl⟩
theorem To.cons {e : Expr} {es : List Expr} {b b' : Bool} (h : Tv c e b) (hr : b = false → To c es b') : To c (e :: es) (b || b') := by
  intro s k E
  refine wpAny_allTrue_Or_cons (h.step k fun s₁ e₁ k₁ => ?_)
  cases b with
  | true => exact ⟨e₁, rfl⟩
  | false => exact wpAny_mono (hr rfl s₁ k₁ E) (fun r s' x => ⟨e₁.trans x.1, by rw [x.2]; rfl⟩) fun _ _ e => e
theorem Tv.or {es : List Expr} {pos : Pos} {b : Bool} (h : To c es b) : Tv c (.BoolOp .Or es pos) b := fun s k E => wpAny_isTrue_BoolOp (h s k E)

theorem Ev.ite {t b o : Expr} {pos : Pos} {q : Bool} {d : D} (ht : Tv c t q) (hb : q = true → Ev c b d) (ho : q = false → Ev c o d) : Ev c (.IfExp t b o pos) d := by
  intro s k E
  refine wpAny_IfExp (ht.step k fun s₁ e₁ k₁ => ?_)
  cases q with
  | true => exact (hb rfl).step k₁ fun v s₂ e₂ k₂ r => ⟨e₁.trans e₂, r⟩
  | false => exact (ho rfl).step k₁ fun v s₂ e₂ k₂ r => ⟨e₁.trans e₂, r⟩
theorem Ev.neg {e : Expr} {pos : Pos} {a : Int} (h : Ev c e (.int a)) : Ev c (.UnaryOp .USub e pos) (.int (-a)) := fun s k E =>
  wpAny_UnaryOp (h.step k fun v s₁ e₁ k₁ r => by obtain ⟨_, rfl⟩ := r.intI; exact PyProof.Rows.neg_int ⟨e₁.trans (.toks _ _), .int _ _⟩)
/-- x and y as a value, both bools -/
theorem Ev.and2 {x y : Expr} {pos : Pos} {a b : Bool} (hx : Ev c x (.bool a)) (hy : a = true → Ev c y (.bool b)) : Ev c (.BoolOp .And [x, y] pos) (.bool (a && b)) := by
  intro s k E
  refine wpAny_And2 (hx.step k fun v s₁ e₁ k₁ r => ?_)
  obtain rfl := r.boolI
  refine wpAny_truthy_bool ?_
  cases a with
  | false => exact ⟨e₁, .bool _⟩
  | true => exact (hy rfl).step k₁ fun v s₂ e₂ k₂ r => ⟨e₁.trans e₂, r⟩

theorem Ev.bn {l r : Expr} {op : Operator} {pos : Pos} {a b d : D} (hl : Ev c l a) (hr : Ev c r b) (ho : Bn c op a b d) : Ev c (.BinOp l op r pos) d := hl.bin hr ho
theorem Bn.addStr {a b : Str} (hsz : a.length + b.length ≤ sizeLine) : Bn c .Add (.str a) (.str b) (.str (a ++ b)) := fun va vb s k ra rb E => by
  obtain ⟨_, _, rfl, rfl⟩ := ra.ss rb; exact PyProof.Rows.add_str (fun t tk => ⟨.toks _ _, .str _ _⟩) hsz
theorem Bn.mulStr {a : Str} {n : Int} (hok : MulOk a n) : Bn c .Mult (.str a) (.int n) (.str (Txt.mul a n)) := fun va vb s k ra rb E => by
  obtain ⟨_, _, rfl, rfl⟩ := ra.sI rb; exact SB.mul hok (fun t tk => ⟨.toks _ _, .str _ _⟩)
theorem Bn.subBool {a b : Bool} : Bn c .Sub (.bool a) (.bool b) (.int (b2i a - b2i b)) := fun va vb s k ra rb E => by
  obtain ⟨rfl, rfl⟩ := ra.oo rb; exact PyProof.Rows.sub_bool ⟨.toks _ _, .int _ _⟩
theorem Bn.pow {a n : Int} (hn : 0 ≤ n) (hsz : (Builtin.Int.intBits a : Int) * n ≤ 2 ^ 27) : Bn c .Pow (.int a) (.int n) (.int (a ^ n.toNat)) := fun va vb s k ra rb E => by
  obtain ⟨_, _, rfl, rfl⟩ := ra.ii rb; exact PyProof.Rows.pow_int hn hsz ⟨.toks _ _, .int _ _⟩
theorem Bn.shl {a n : Int} (hn : 0 ≤ n) (hn2 : n ≤ 1000000) (ha : a.natAbs < 2 ^ 64) : Bn c .LShift (.int a) (.int n) (.int (a * 2 ^ n.toNat)) := fun va vb s k ra rb E => by
  obtain ⟨_, _, rfl, rfl⟩ := ra.ii rb; exact PyProof.Rows.lshift_int_small hn hn2 ha ⟨.toks _ _, .int _ _⟩
theorem Bn.shr {a n : Int} (hn : 0 ≤ n) : Bn c .RShift (.int a) (.int n) (.int (a.fdiv (2 ^ n.toNat))) := fun va vb s k ra rb E => by
  obtain ⟨_, _, rfl, rfl⟩ := ra.ii rb; exact PyProof.Rows.rshift_int hn ⟨.toks _ _, .int _ _⟩
theorem Bn.and {a b : Int} : Bn c .BitAnd (.int a) (.int b) (.int (Builtin.bitAnd a b)) := fun va vb s k ra rb E => by
  obtain ⟨_, _, rfl, rfl⟩ := ra.ii rb; exact PyProof.Rows.and_int ⟨.toks _ _, .int _ _⟩
theorem Bn.or {a b : Int} : Bn c .BitOr (.int a) (.int b) (.int (Builtin.bitOr a b)) := fun va vb s k ra rb E => by
  obtain ⟨_, _, rfl, rfl⟩ := ra.ii rb; exact PyProof.Rows.or_int ⟨.toks _ _, .int _ _⟩

/-- a new list on the heap -/
theorem Rd.newList {W : List Addr} {h : Heap} {vs : List Value} {ds : List D} {n : Nat} (hw : h.objs.size ∉ W) (r : Rds W h vs ds) :
    Rd W (h.push { cls := .type "list", data := .seq vs.toArray n }) (.ref h.objs.size) (.list ds) :=
  .list hw ⟨_, Heap.get?_push_size _ rfl⟩ (r.ext (Ext.push _ _))
theorem Rd.newTuple {W : List Addr} {h : Heap} {vs : List Value} {ds : List D} {n : Nat} (hw : h.objs.size ∉ W) (r : Rds W h vs ds) :
    Rd W (h.push { cls := .type "tuple", data := .seq vs.toArray n }) (.ref h.objs.size) (.tuple ds) :=
  .tuple hw ⟨_, Heap.get?_push_size _ rfl, rfl, _, rfl⟩ (r.ext (Ext.push _ _))

theorem Bn.addList {as bs : List D} (hsz : as.length + bs.length ≤ sizeLine) : Bn c .Add (.list as) (.list bs) (.list (as ++ bs)) := by
  intro va vb s k ra rb E
  obtain ⟨l, vs, rfl, ha, hl, ra⟩ := ra.listI
  obtain ⟨b, ws, rfl, hb, hl', rb⟩ := rb.listI
  obtain ⟨n, ho⟩ := id hl
  obtain ⟨n2, ho2⟩ := id hl'
  have e : vs.toArray ++ ws.toArray = (vs ++ ws).toArray := by simp
  refine concat_meets ⟨_, ho, rfl⟩ ⟨_, ho2, rfl⟩ noFill_list_add seq_list_add PySem.F.slot_list_add PySem.F.entry_list_add (PySem.F.args_list_add_2 _ _)
    (list_addW l b vs.toArray ws.toArray n n2 none none #[] #[] (by simp [ra.length, rb.length]; exact hsz)) ⟨ho, ho2, ?_⟩
  rw [e]
  exact ⟨.grow _ _ _ (Ext.push _ _), .newList k.fresh (ra.append rb)⟩

/-- several expressions, one behind the other -/
noncomputable def EvL (c : Cx) (es : List Expr) (ds : List D) : Prop := ∀ pos s, Ok c s.heap → ∀ E, wpAny c.M c.A (spliced (backTo pos (starEach es c.env))) (fun vs s' => Kp s s' ∧ Rds c.W s'.heap vs ds) E s
theorem EvL.nil : EvL c [] [] := fun pos s _ E => spliced_none ⟨.refl _, .nil⟩
theorem EvL.cons {e : Expr} {es : List Expr} {d : D} {ds : List D} (h : Ev c e d) (hr : EvL c es ds) (he : starEach (e :: es) c.env = (false, eval e c.env) :: starEach es c.env := by rfl) : EvL c (e :: es) (d :: ds) := by
  intro pos s k E
  refine spliced_more (h.step k fun v s₁ e₁ k₁ r₁ => ?_) he
  exact wpAny_mono (hr pos s₁ k₁ E) (fun vs s₂ x => ⟨e₁.trans x.1, .cons (r₁.ext x.1.ext) x.2⟩) fun _ _ e => e
theorem EvL.step {es : List Expr} {ds : List D} {pos : Pos} {s : Shared} {Q : List Value → Shared → Prop} {E : Value → Shared → Prop} (h : EvL c es ds) (k : Ok c s.heap)
    (q : ∀ vs s', Kp s s' → Ok c s'.heap → Rds c.W s'.heap vs ds → Q vs s') : wpAny c.M c.A (spliced (backTo pos (starEach es c.env))) Q E s :=
  wpAny_mono (h pos s k E) (fun vs s' x => q vs s' x.1 (k.ext x.1.ext) x.2) fun _ _ e => e
theorem Ev.list {es : List Expr} {ds : List D} {pos : Pos} (h : EvL c es ds) (hsz : ds.length ≤ sizeLine := by first | decide | exact Nat.le_of_ble_eq_true rfl) : Ev c (.List es pos) (.list ds) := by
  intro s k E
  refine wpAny_List_spliced (h.step k fun vs s₁ e₁ k₁ r => ⟨by rw [r.length]; exact hsz, ?_⟩)
  exact ⟨e₁.trans (.grow _ _ _ (Ext.push _ _)), .newList k₁.fresh r⟩
theorem Ev.tuple {es : List Expr} {n : Nat} {ds : List D} {pos : Pos} (h : EvL c es ds) (hsz : ds.length ≤ sizeLine := by first | decide | exact Nat.le_of_ble_eq_true rfl) : Ev c (.Tuple es n pos) (.tuple ds) := by
  intro s k E
  refine wpAny_Tuple_spliced (h.step k fun vs s₁ e₁ k₁ r => ⟨by rw [r.length]; exact hsz, ?_⟩)
  exact ⟨e₁.trans (.grow _ _ _ (Ext.push _ _)), .newTuple k₁.fresh r⟩

/-- an item of o at i -/
noncomputable def It (c : Cx) (value slice : Expr) (a b d : D) : Prop := ∀ va vb s, Ok c s.heap → Rd c.W s.heap va a → Rd c.W s.heap vb b → Qt c (subscriptTail value slice va vb) d s
theorem Ev.sbs {value slice : Expr} {pos : Pos} {a b d : D} (hv : Ev c value a) (hs : Ev c slice b) (hi : It c value slice a b d) : Ev c (.Subscript value slice pos) d := by
  intro s k E
  refine Subscript_ (hv.step k fun va s₁ e₁ k₁ r₁ => hs.step k₁ fun vb s₂ e₂ k₂ r₂ => ?_)
  exact wpAny_mono (hi va vb s₂ k₂ (r₁.ext e₂.ext) r₂ E) (fun v s' x => ⟨e₁.trans (e₂.trans x.1), x.2⟩) fun _ _ e => e

/-- the slice expression is no slice -/
noncomputable def Plain (slice : Expr) : Prop := ∀ o i, subscripted slice false o i = operate [o, i] (getItem o i)
theorem It.list {value slice : Expr} {ds : List D} {i : Int} {d : D} (h0 : 0 ≤ i) (hd : ds[i.toNat]? = some d) (hi : i < 2 ^ 63) (hp : Plain slice) : It c value slice (.list ds) (.int i) d := by
  intro va vb s k ra rb E
  obtain ⟨_, _, rfl, ha, hl, ra⟩ := ra.listI
  obtain ⟨_, rfl⟩ := rb.intI
  obtain ⟨v, hv, r⟩ := ra.get hd
  exact tail_any hl.isList.typeIs slot_list_getitem.lookup (wpAny_getItem_list hl.isList h0 hi (by simpa using hv) ⟨.refl _, r⟩) (hp _ _)
theorem It.str {value slice : Expr} {x : Str} {i : Int} {n : Nat} (h0 : 0 ≤ i) (hd : x.cps[i.toNat]? = some n) (hi : i < 2 ^ 63) (hp : Plain slice) : It c value slice (.str x) (.int i) (.str ⟨#[n]⟩) := by
  intro va vb s k ra rb E
  obtain ⟨_, _, rfl, rfl⟩ := ra.sI rb
  refine tail_any (typeIs_str _ _ _) PyProof.Rows.slot_str_getitem.lookup (PyProof.Rows.getItem_str ?_ ?_ ⟨.toks _ _, .str _ _⟩) (hp _ _)
  · simp; omega
  · have hlt : i.toNat < x.cps.size := by
      rcases Array.getElem?_eq_some_iff.mp hd with ⟨q, _⟩; exact q
    have hlt' : i.toNat < x.length := hlt
    have e : seqIndex? i x.length = some i.toNat := by
      unfold seqIndex?
      simp only [h0, if_true]
      split <;> simp_all <;> omega
    rw [e]; exact hd
theorem It.bytes {value slice : Expr} {b : Array UInt8} {i : Int} {u : UInt8} (h0 : 0 ≤ i) (hd : b[i.toNat]? = some u) (hsz : b.size ≤ 1000000) (hp : Plain slice) : It c value slice (.bytes b) (.int i) (.int u.toNat) := by
  intro va vb s k ra rb E
  obtain ⟨_, _, rfl, rfl⟩ := ra.bI rb
  have hlt : i.toNat < b.size := by
    rcases Array.getElem?_eq_some_iff.mp hd with ⟨q, _⟩; exact q
  refine tail_any (typeIs_bytes _ _ _) FB.slot_bytes_getitem.lookup ?_ (hp _ _)
  · have e : b = b.toList.toArray := by simp
    rw [e]
    refine getItem_bytes (l := b.toList) (by simp; omega) h0 (by simp; omega) ?_
    have e2 : (b.toList.getD i.toNat 0) = u := by
      rw [List.getD_eq_getElem?_getD, Array.getElem?_toList, hd]; rfl
    rw [e2]
    exact ⟨.toks _ _, .int _ _⟩
end

end Mine

end -- OyExpr

section -- OyComp
open PySem PySem.W PySem.Calls PyProof.Rows
set_option Elab.async false
namespace Mine

/-- where a name of the frame lies -/
noncomputable def slotOf (env : Env) (x : Str) : Addr := if env.kindOf x = some .local then env.locals else (env.cells.lookup x).getD 0
/-- a name that may be stored -/
noncomputable def Storable (env : Env) (x : Str) : Prop := env.kindOf x = some .local ∨ (env.kindOf x = some .cell ∧ (env.cells.lookup x).isSome = true)

/-- a store into the frame -/
theorem store_any {M : Model} {A : Around} {env : Env} {W : List Addr} {x : Str} {v : Value} {s : Shared} {Q : Unit → Shared → Prop} {E : Value → Shared → Prop} (f : FrameOk env W s.heap)
    (hk : Storable env x)
    (q : ∀ h' tk, (∃ o', h'.get? (slotOf env x) = some o') → slotOf env x ∈ W → (∀ vs, ¬ s.heap.PlainList (slotOf env x) vs) → Heap.SameBut (slotOf env x) s.heap h' → FrameOk env W h' → Bound h' env x v → (∀ y u, y ≠ x → Bound s.heap env y u → Bound h' env y u) → Q () { s with heap := h', toks := tk }) :
    wpAny M A (storeName env x v) Q E s := by
  obtain ⟨m, hn⟩ := f.ns
  rcases hk with hk | ⟨hk, hc⟩
  · have hslot : slotOf env x = env.locals := if_pos hk
    rw [hslot] at q
    refine wpAny_storeName_local hk hn (fun h' hn' hs => ?_) (by rw [f.kind]; rfl)
    have hcell : ∀ y a, env.cells.lookup y = some a → a ≠ env.locals := fun y a q e => by
      subst e
      obtain ⟨_, u, r⟩ := f.cell y _ q
      exact ns_not_cell hn r
    refine q h' _ ?_ f.lw (fun vs l => ns_not_list hn l) hs ⟨f.kind, ⟨_, hn'⟩, f.lw, fun y a q => ?_, f.apart⟩ (.inl ⟨hk, _, hn', by simp⟩) fun y u hy b => ?_
    · obtain ⟨o, _, _, ho, _⟩ := hn'; exact ⟨o, ho⟩
    · obtain ⟨i, u, r⟩ := f.cell y a q
      exact ⟨i, u, r.sameBut hs (hcell y a q)⟩
    · rcases b with ⟨k, m', hn2, hm'⟩ | ⟨k, a, ha, hi⟩
      · refine .inl ⟨k, _, hn', ?_⟩
        simp only [if_neg hy]
        have : m' y = m y := by
          obtain ⟨o, es, ep, ho, hd, _, hf⟩ := hn
          obtain ⟨o', es', ep', ho', hd', _, hf'⟩ := hn2
          rw [ho] at ho'; cases ho'
          rw [hd] at hd'; cases hd'
          rw [← hf, ← hf']
        rw [← this]; exact hm'
      · exact .inr ⟨k, a, ha, hi.sameBut hs (hcell y a ha)⟩
  · obtain ⟨a, ha⟩ := Option.isSome_iff_exists.mp hc
    have hslot : slotOf env x = a := by
      unfold slotOf
      rw [if_neg (by rw [hk]; decide), ha]; rfl
    rw [hslot] at q
    obtain ⟨hw, v₀, hi⟩ := f.cell x a ha
    have hne : env.locals ≠ a := fun e => ns_not_cell hn (e ▸ hi)
    refine wpAny_storeName_cell f.kind hk ha hi fun h' hi' hs => ?_
    refine q h' _ ?_ hw (fun vs l => cell_not_list hi l) hs ⟨f.kind, ⟨m, hn.sameBut hs hne⟩, f.lw, fun y b q => ?_, f.apart⟩ (.inr ⟨.inl hk, a, ha, hi'⟩) fun y u hy b => ?_
    · obtain ⟨o, ho, _⟩ := hi'; exact ⟨o, ho⟩
    · by_cases e : b = a
      · subst e; exact ⟨hw, _, hi'⟩
      · obtain ⟨i, u, r⟩ := f.cell y b q
        exact ⟨i, u, r.sameBut hs e⟩
    · rcases b with ⟨k, m', hn2, hm'⟩ | ⟨k, b, hb, hi2⟩
      · exact .inl ⟨k, m', hn2.sameBut hs hne, hm'⟩
      · exact .inr ⟨k, b, hb, hi2.sameBut hs fun e => hy (f.apart y x a (e ▸ hb) ha)⟩

/-- an object that is no part of the frame has changed -/
theorem FrameOk.but {env : Env} {W : List Addr} {h h' : Heap} {I : Addr} (f : FrameOk env W h) (e : ∀ b o, b ≠ I → h.get? b = some o → h'.get? b = some o) (hl : env.locals ≠ I) (hc : ∀ y a, env.cells.lookup y = some a → a ≠ I) : FrameOk env W h' :=
  ⟨f.kind, let ⟨m, q⟩ := f.ns; ⟨m, q.at' fun o x => e _ o hl x⟩, f.lw, fun x a q => let ⟨i, v, o, ho, hd⟩ := f.cell x a q; ⟨i, v, o, e _ o (hc x a q) ho, hd⟩, f.apart⟩
theorem Bound.but {h h' : Heap} {env : Env} {x : Str} {v : Value} {I : Addr} (b : Bound h env x v) (e : ∀ b o, b ≠ I → h.get? b = some o → h'.get? b = some o) (hl : env.locals ≠ I) (hc : ∀ y a, env.cells.lookup y = some a → a ≠ I) : Bound h' env x v := by
  rcases b with ⟨k, m, hn, hm⟩ | ⟨k, c, hc', o, ho, hd⟩
  · exact .inl ⟨k, m, hn.at' fun o x => e _ o hl x, hm⟩
  · exact .inr ⟨k, c, hc', o, e _ o (hc x c hc') ho, hd⟩

theorem closure_mem {scope : Scope} {env : Env} {cl : List (Str × Addr)} (hc : closureFor scope env = pure cl) : ∀ p ∈ cl, env.cells.lookup p.1 = some p.2 := by
  have key : ∀ (names : List (Str × NameKind)) (acc : List (Str × Addr)) (cl : List (Str × Addr)), (∀ p ∈ acc, env.cells.lookup p.1 = some p.2) →
      (forIn names acc (fun x cs => if x.2 == .free then (do let a ← cellOf env x.1; pure (ForInStep.yield ((x.1, a) :: cs))) else pure (ForInStep.yield cs)) : Sem (List (Str × Addr))) = Sem.pure cl → ∀ p ∈ cl, env.cells.lookup p.1 = some p.2 := by
    intro names
    induction names with
    | nil =>
      intro acc cl ha e
      rw [List.forIn_nil] at e
      have e' : acc = cl := by injection e
      subst e'; exact ha
    | cons x r ih =>
      intro acc cl ha e
      rw [List.forIn_cons] at e
      by_cases hk : (x.2 == NameKind.free) = true
      · rw [if_pos hk] at e
        unfold cellOf at e
        cases hl : env.cells.lookup x.1 with
        | none =>
          rw [hl] at e
          exact absurd e (by intro q; injection q)
        | some a =>
          rw [hl] at e
          refine ih ((x.1, a) :: acc) cl (fun p hp => ?_) e
          rcases List.mem_cons.mp hp with rfl | hp
          · exact hl
          · exact ha p hp
      · rw [if_neg hk] at e
        exact ih acc cl ha e
  refine key scope.names [] cl (fun y q => by cases q) ?_
  rw [← show closureFor scope env = Sem.pure cl from hc]
  unfold closureFor
  rw [show (forIn scope.names ([] : List (Str × Addr)) _ >>= fun r => pure r : Sem (List (Str × Addr))) = forIn scope.names [] _ from bind_pure _]

theorem cells_new : ∀ (names : List (Str × NameKind)) (h : Heap) (acc : List (Str × Addr)), (∀ p ∈ acc, p.2 < h.objs.size) → (∀ p ∈ acc, ∀ q ∈ acc, p.2 = q.2 → p.1 = q.1) →
    (∀ p ∈ cellsFrom h.objs.size names acc, p ∈ acc ∨ (h.objs.size ≤ p.2 ∧ (pushCells h names).IsCell p.2 none)) ∧
    (∀ p ∈ cellsFrom h.objs.size names acc, ∀ q ∈ cellsFrom h.objs.size names acc, p.2 = q.2 → p.1 = q.1)
  | [], h, acc, _, hi => ⟨fun p hp => .inl hp, hi⟩
  | (name, kind) :: r, h, acc, hl, hi => by
    unfold cellsFrom pushCells
    split
    · rename_i hk
      have := cells_new r (h.push { cls := .type "cell", data := .cell none }) ((name, h.objs.size) :: acc) (fun p hp => by
        rw [Heap.size_push]
        rcases List.mem_cons.mp hp with rfl | hp
        · exact Nat.lt_succ_self _
        · exact Nat.lt_succ_of_lt (hl p hp)) (fun p hp q hq e => by
        rcases List.mem_cons.mp hp with rfl | hp <;> rcases List.mem_cons.mp hq with rfl | hq
        · rfl
        · exact absurd (hl q hq) (by rw [← e]; exact Nat.lt_irrefl _)
        · exact absurd (hl p hp) (by rw [e]; exact Nat.lt_irrefl _)
        · exact hi p hp q hq e)
      rw [Heap.size_push] at this
      refine ⟨fun p hp => ?_, this.2⟩
      rcases this.1 p hp with h1 | ⟨h1, h2⟩
      · rcases List.mem_cons.mp h1 with rfl | h1
        · exact .inr ⟨Nat.le_refl _, ⟨_, pushCells_keeps _ _ _ _ (Heap.get?_push_size _ rfl), rfl⟩⟩
        · exact .inl h1
      · exact .inr ⟨Nat.le_of_succ_le h1, h2⟩
    · exact cells_new r h acc hl hi

/-- the comprehension's own frame -/
theorem newCompEnv {M : Model} {A : Around} {E : Value → Shared → Prop} {s : Shared} {scope : Scope} {g : Addr} {cl : List (Str × Addr)} {q : Str} {env : Env} {Q : Env → Shared → Prop}
    (h : Q { scope := scope, locals := s.heap.objs.size, globals := g, cells := cellsFrom (s.heap.objs.size + 1) scope.names cl, qual := q, func := none, code := env.code, frame := env.frame, builtins := env.builtins }
      { s with heap := pushCells (s.heap.push { cls := .type "dict", data := .dict #[] }) scope.names }) :
    wpAny M A (newFunctionEnv scope g cl [] q none .none (some env)) Q E s := by
  simp only [newFunctionEnv, Option.isSome_some, if_true]
  refine wpAny_bind (wpAny_alloc ?_)
  refine wpAny_bind (wpAny_layCells _ (fun name kind cells => by cases hkc : kind == NameKind.cell <;> simp [hkc]) _ _ _ _ ?_)
  refine wpAny_bind ?_
  rw [List.forIn_nil]
  refine wpAny_pure (wpAny_pure ?_)
  rw [show ({ s with heap := s.heap.push { cls := .type "dict", data := .dict #[] } } : Shared).heap.objs.size = s.heap.objs.size + 1 from Heap.size_push ..]
  exact h

/-- two lists item by item -/
inductive All2 {α β : Type} (R : α → β → Prop) : List α → List β → Prop
  | nil : All2 R [] []
  | cons {a b as bs} : R a b → All2 R as bs → All2 R (a :: as) (b :: bs)
theorem All2.get {α β : Type} {R : α → β → Prop} : ∀ {as : List α} {bs : List β}, All2 R as bs → ∀ {i : Nat} {a : α}, as[i]? = some a → ∃ b, bs[i]? = some b ∧ R a b
  | _, _, .nil, i, a, e => by simp at e
  | _, _, .cons r rs, 0, a, e => by simp at e; subst e; exact ⟨_, rfl, r⟩
  | _, _, .cons r rs, i + 1, a, e => by
    simp only [List.getElem?_cons_succ] at e ⊢
    exact rs.get e
theorem All2.length {α β : Type} {R : α → β → Prop} : ∀ {as : List α} {bs : List β}, All2 R as bs → as.length = bs.length
  | _, _, .nil => rfl
  | _, _, .cons _ rs => by simp [All2.length rs]
theorem All2.map {α β γ : Type} {R : α → β → Prop} {as : List γ} {f : γ → α} {g : γ → β} (h : ∀ x ∈ as, R (f x) (g x)) : All2 R (as.map f) (as.map g) := by
  induction as with
  | nil => exact .nil
  | cons x r ih => exact .cons (h x List.mem_cons_self) (ih fun y hy => h y (List.mem_cons_of_mem _ hy))

/-- what a loop goes over -/
noncomputable def Src (c : Cx) (e : Expr) (its : List D) : Prop := ∀ s, Ok c s.heap → ∀ E (Q : Value → Shared → Prop),
  (∀ I fp P St s₁ s', Kp s s₁ → Kp s₁ s' → Walks c.prog c.w c.A I fp [I] its.length P St → St 0 s'.heap → (∀ b ∈ fp, b < s'.heap.objs.size) → (∀ b ∈ fp, b ∉ c.W) → s₁.heap.get? I = none → (∀ i h, St i h → ∃ o, h.get? I = some o) →
    (∀ i v, P i v → ∃ d, its[i]? = some d ∧ Rd c.W s₁.heap v d) → Q (.ref I) s') →
  wpAny c.M c.A (eval e c.env) (fun x s₁ => wpAny c.M c.A (pyIter x) Q E s₁) E s

section
variable {c : Cx} {e : Expr}
theorem Src.list {ds : List D} (h : Ev c e (.list ds)) : Src c e ds := by
  intro s k E Q q
  refine h.step k fun v s₁ e₁ k₁ r => ?_
  obtain ⟨a, vs, rfl, ha, hl, rs⟩ := r.listI
  refine wpAny_pyIter_list hl.isList ?_
  have hlt : a < s₁.heap.objs.size := by obtain ⟨n, ho⟩ := hl; exact Heap.lt_size ho
  have hne : a ≠ s₁.heap.objs.size := Nat.ne_of_lt hlt
  have W := Walks.list (prog := c.prog) (w := c.w) k.hh s₁.heap.objs.size a hne vs.toArray
  rw [show vs.toArray.size = ds.length by simp [rs.length]] at W
  refine q _ _ _ _ s₁ _ e₁ (.grow _ _ _ (Ext.push _ _)) W ⟨⟨_, Heap.get?_push_size _ rfl, rfl, rfl⟩, (hl.at fun o e => Heap.get?_push_of_some _ e).isList⟩ ?_ ?_ ?_ ?_ ?_
  · intro b hb
    show b < (s₁.heap.push _).objs.size
    rw [Heap.size_push]
    rcases List.mem_cons.mp hb with rfl | hb
    · exact Nat.lt_succ_self _
    · rw [List.mem_singleton.mp hb]; exact Nat.lt_succ_of_lt hlt
  · intro b hb
    rcases List.mem_cons.mp hb with rfl | hb
    · exact k₁.fresh
    · rw [List.mem_singleton.mp hb]; exact ha
  · cases q : s₁.heap.get? s₁.heap.objs.size with
    | none => rfl
    | some o => exact absurd (Heap.lt_size q) (Nat.lt_irrefl _)
  · intro i h st
    obtain ⟨o, e, _⟩ := st.1; exact ⟨o, e⟩
  · intro i v hv
    exact rs.get' (by simpa using hv)
theorem Src.tuple {ds : List D} (h : Ev c e (.tuple ds)) : Src c e ds := by
  intro s k E Q q
  refine h.step k fun v s₁ e₁ k₁ r => ?_
  obtain ⟨a, vs, rfl, ha, hl, rs⟩ := r.tupI
  refine wpAny_pyIter_tuple hl ?_
  have hlt : a < s₁.heap.objs.size := by obtain ⟨o, ho, _⟩ := hl; exact Heap.lt_size ho
  have hne : a ≠ s₁.heap.objs.size := Nat.ne_of_lt hlt
  have W := Walks.tuple (prog := c.prog) (w := c.w) k.hh s₁.heap.objs.size a hne vs.toArray
  rw [show vs.toArray.size = ds.length by simp [rs.length]] at W
  refine q _ _ _ _ s₁ _ e₁ (.grow _ _ _ (Ext.push _ _)) W ⟨⟨_, Heap.get?_push_size _ rfl, rfl, rfl⟩, ?_⟩ ?_ ?_ ?_ ?_ ?_
  · obtain ⟨o, ho, x⟩ := hl
    exact ⟨o, Heap.get?_push_of_some _ ho, x⟩
  · intro b hb
    show b < (s₁.heap.push _).objs.size
    rw [Heap.size_push]
    rcases List.mem_cons.mp hb with rfl | hb
    · exact Nat.lt_succ_self _
    · rw [List.mem_singleton.mp hb]; exact Nat.lt_succ_of_lt hlt
  · intro b hb
    rcases List.mem_cons.mp hb with rfl | hb
    · exact k₁.fresh
    · rw [List.mem_singleton.mp hb]; exact ha
  · cases q : s₁.heap.get? s₁.heap.objs.size with
    | none => rfl
    | some o => exact absurd (Heap.lt_size q) (Nat.lt_irrefl _)
  · intro i h st
    obtain ⟨o, e, _⟩ := st.1; exact ⟨o, e⟩
  · intro i v hv
    exact rs.get' (by simpa using hv)
end

end Mine

end -- OyComp

section -- OyComp2
open PySem PySem.W PySem.Calls PyProof.Rows
set_option Elab.async false
namespace Mine

/-- the context within a comprehension -/
noncomputable def compCx (c : Cx) (scope : Scope) (cl : List (Str × Addr)) (C : Addr) (W : List Addr) (ρ : List (Str × D)) : Cx :=
  { c with env := compEnvC scope (cellsFrom (C + 1) scope.names cl) C c.env, W := W, V := W, ρ := ρ }

/-- the captured names -/
noncomputable def Cap (c : Cx) (scope : Scope) (cl : List (Str × Addr)) : List (Str × D) → Prop
  | [] => True
  | (y, d) :: r => (c.ρ.lookup y = some d ∧ (c.env.kindOf y = some .cell ∨ c.env.kindOf y = some .free) ∧
      (∀ C, (compEnvC scope (cellsFrom (C + 1) scope.names cl) C c.env).kindOf y = some .cell ∨ (compEnvC scope (cellsFrom (C + 1) scope.names cl) C c.env).kindOf y = some .free) ∧
      ∀ C, (cellsFrom (C + 1) scope.names cl).lookup y = c.env.cells.lookup y) ∧ Cap c scope cl r
theorem Cap.at {c : Cx} {scope : Scope} {cl : List (Str × Addr)} : ∀ {ρ : List (Str × D)}, Cap c scope cl ρ → ∀ y d, ρ.lookup y = some d → c.ρ.lookup y = some d ∧ (c.env.kindOf y = some .cell ∨ c.env.kindOf y = some .free) ∧
      (∀ C, (compEnvC scope (cellsFrom (C + 1) scope.names cl) C c.env).kindOf y = some .cell ∨ (compEnvC scope (cellsFrom (C + 1) scope.names cl) C c.env).kindOf y = some .free) ∧
      ∀ C, (cellsFrom (C + 1) scope.names cl).lookup y = c.env.cells.lookup y
  | (z, e) :: r, h, y, d, q => by
    rw [List.lookup_cons] at q
    cases hy : y == z with
    | true => rw [hy] at q; cases q; rw [beq_iff_eq.mp hy]; exact h.1
    | false => rw [hy] at q; exact Cap.at h.2 y d q

noncomputable def Ts (c : Cx) (ifs : List Expr) (b : Bool) : Prop := ∀ s, Ok c s.heap → ∀ E, wpAny c.M c.A (forIn ifs true fun e r => if r = true then do let ok ← isTrue e c.env (eval e c.env); pure (ForInStep.yield ok) else pure (ForInStep.yield r))
  (fun r s' => Kp s s' ∧ r = b) E s
theorem Ts.nil {c : Cx} : Ts c [] true := fun s _ E => wpAny_tests_nil ⟨.refl _, rfl⟩
theorem Ts.one {c : Cx} {e : Expr} {b : Bool} (h : Tv c e b) : Ts c [e] b := fun s k E => wpAny_tests_one (h s k E)

theorem Kp.same {s s' : Shared} (x : Kp s s') : ∃ h tk, s' = { s with heap := h, toks := tk } := let ⟨h, t, e, _⟩ := x; ⟨h, t, e⟩

/-- one item of a comprehension: kept or left out -/
noncomputable def Turn (c : Cx) (scope : Scope) (cl : List (Str × Addr)) (x : Str) (ρc : List (Str × D)) (ifs : List Expr) (elt : Expr) (d : D) (o : Option D) : Prop :=
  ∀ C W, Ts (compCx c scope cl C W ((x, d) :: ρc)) ifs o.isSome ∧ ∀ r, o = some r → Ev (compCx c scope cl C W ((x, d) :: ρc)) elt r

theorem lookup_cons_ne {α : Type} {x y : Str} {d : α} {r : List (Str × α)} (h : y ≠ x) : ((x, d) :: r).lookup y = r.lookup y := by
  rw [List.lookup_cons]
  have : (y == x) = false := beq_eq_false_iff_ne.mpr h
  rw [this]
theorem lookup_cons_self {α : Type} {x : Str} {d : α} {r : List (Str × α)} : ((x, d) :: r).lookup x = some d := by
  rw [List.lookup_cons]; simp

theorem FrameOk.notList {env : Env} {W : List Addr} {h : Heap} {a : Addr} {vs : Array Value} (f : FrameOk env W h) (l : h.PlainList a vs) : env.locals ≠ a ∧ ∀ y b, env.cells.lookup y = some b → b ≠ a :=
  ⟨fun e => let ⟨_, q⟩ := f.ns; ns_not_list q (e ▸ l), fun y b q e => let ⟨_, _, r⟩ := f.cell y b q; cell_not_list r (e ▸ l)⟩

theorem isList_uniq {h : Heap} {a : Addr} {vs ws : Array Value} (x : h.PlainList a vs) (y : h.PlainList a ws) : vs = ws := by
  obtain ⟨n, ho⟩ := x
  obtain ⟨n', ho'⟩ := y
  rw [ho] at ho'; cases ho'; rfl

/-- the loop of a comprehension -/
theorem comp_loop {c : Cx} {R : Result → Shared → Prop} {elt iter : Expr} {x : Str} {px : Pos} {ifs : List Expr} {scope : Scope} {cl : List (Str × Addr)} {pos : Pos} {ρc : List (Str × D)} {its : List D} {res : List (Option D)}
    {I C D₀ : Addr} {fp W' : List Addr} {P : Nat → Value → Prop} {St : Nat → Heap → Prop} {s₁ s : Shared}
    (hx : Storable (compCx c scope cl C W' ρc).env x)
    (W : Walks c.prog c.w c.A I fp [I] its.length P St) (hst : St 0 s.heap) (hfp : ∀ b ∈ fp, b ≠ D₀ ∧ b ≠ slotOf (compCx c scope cl C W' ρc).env x) (hI : I ∈ W') (hD : D₀ ∈ W') (hDI : D₀ ≠ I)
    (hIl : (compCx c scope cl C W' ρc).env.locals ≠ I) (hIc : ∀ y a, (compCx c scope cl C W' ρc).env.cells.lookup y = some a → a ≠ I)
    (hP : ∀ i v, P i v → ∃ d, its[i]? = some d ∧ Rd c.W s₁.heap v d) (hold : ∀ b o, b ∉ c.W → s₁.heap.get? b = some o → b ∉ W' ∧ s.heap.get? b = some o)
    (ok : Ok (compCx c scope cl C W' ρc) s.heap)
    (hIo : ∀ i h, St i h → ∃ o, h.get? I = some o) (hxρ : ρc.lookup x = none) (hown : ∀ p ∈ c.own, p.1 ≠ D₀ ∧ p.1 ≠ I)
    (hacc : s.heap.PlainList D₀ #[])
    (turn : All2 (Turn c scope cl x ρc ifs elt) its res)
    (hsz : its.length ≤ sizeLine)
    (fin : ∀ (vs : List Value) h tk, (∀ b o, b ≠ I → b ≠ D₀ → b ≠ slotOf (compCx c scope cl C W' ρc).env x → s.heap.get? b = some o → h.get? b = some o) → FrameOk (compCx c scope cl C W' ρc).env W' h → h.PlainList D₀ vs.toArray → Rds W' h vs (res.filterMap id) →
      R (.ok .next) { s with heap := h, toks := tk }) :
    codeAny (model c.prog c.w) c.A (.compLoop (.ListComp elt [⟨.Name x px, iter, ifs, 0⟩] scope pos) 0 (.ref I) (.ref D₀) (compCx c scope cl C W' ρc).env) R s := by
  have fr : FrameOk (compCx c scope cl C W' ρc).env W' s.heap := ok.fr
  have hslotW : slotOf (compCx c scope cl C W' ρc).env x ∈ W' := by
    rcases hx with hk | ⟨hk, hc⟩
    · rw [show slotOf (compCx c scope cl C W' ρc).env x = (compCx c scope cl C W' ρc).env.locals from if_pos hk]; exact fr.lw
    · obtain ⟨a, ha⟩ := Option.isSome_iff_exists.mp hc
      have : slotOf (compCx c scope cl C W' ρc).env x = a := by
        unfold slotOf
        rw [if_neg (by rw [hk]; decide), ha]; rfl
      rw [this]; exact (fr.cell x a ha).1
  have hlen := turn.length
  refine codeAny_compLoop_tests
    (fun k s' => ∃ h' tk i, ∃ ys : List Value, s' = { s with heap := h', toks := tk } ∧ i ≤ its.length ∧ k = its.length + 1 - i ∧ St i h' ∧ Ok (compCx c scope cl C W' ρc) h' ∧ FrameOk (compCx c scope cl C W' ρc).env W' h' ∧
      h'.PlainList D₀ ys.toArray ∧ ys.length ≤ i ∧ Rds W' h' ys ((res.take i).filterMap id) ∧ (∀ b o, b ≠ I → b ≠ D₀ → b ≠ slotOf (compCx c scope cl C W' ρc).env x → s.heap.get? b = some o → h'.get? b = some o)) ?_ (its.length + 1)
    ⟨s.heap, s.toks, 0, [], rfl, Nat.zero_le _, rfl, hst, ok, fr, hacc, Nat.le_refl _, by simpa using Rds.nil, fun _ _ _ _ _ e => e⟩
  rintro k s' ⟨h', tk, i, ys, rfl, hi, rfl, hst', ok', fr', hl', hyl, rs, keep⟩
  by_cases hlt : i < its.length
  · refine W.item i _ _ _ hlt hst' fun v h₁ tk₁ hPv hst₁ hk₁ => ?_
    have e₁ : ∀ b o, b ≠ I → h'.get? b = some o → h₁.get? b = some o := fun b o hb e => hk₁ b o (by simpa using hb) e
    obtain ⟨d, hd, rd⟩ := hP i v hPv
    obtain ⟨o, ho, tn⟩ := turn.get hd
    have fr₁ := fr'.but e₁ hIl hIc
    refine wpAny_assign_Name (store_any (s := { s with heap := h₁, toks := tk₁ }) fr₁ hx fun h₂ tk₂ hex hsl hnl hs₂ fr₂ bx by' => ?_)
    have keep₂ : ∀ b o, b ≠ I → b ≠ D₀ → b ≠ slotOf (compCx c scope cl C W' ρc).env x → s.heap.get? b = some o → h₂.get? b = some o := fun b o h1 h2 h3 e => hs₂.extBut b o h3 (e₁ b o h1 (keep b o h1 h2 h3 e))
    have ext₂ : ∀ b o, b ∉ W' → h'.get? b = some o → h₂.get? b = some o := fun b o hb e => hs₂.extBut b o (fun q => hb (q ▸ hslotW)) (e₁ b o (fun q => hb (q ▸ hI)) e)
    have hl₁ : h₁.PlainList D₀ ys.toArray := hl'.at fun o e => e₁ _ o hDI e
    have hDs : D₀ ≠ slotOf (compCx c scope cl C W' ρc).env x := fun q => hnl _ (q ▸ hl₁)
    have hl₂ : h₂.PlainList D₀ ys.toArray := hl₁.at fun o e => hs₂.extBut _ o hDs e
    have hst₂ : St (i + 1) h₂ := W.frame _ _ _ hst₁ fun b hb o e => hs₂.extBut b o (hfp b hb).2 e
    have wex₂ : ∀ a ∈ W', ∃ o, h₂.get? a = some o := fun a ha => by
      by_cases q : a = slotOf (compCx c scope cl C W' ρc).env x
      · rw [q]; exact hex
      · obtain ⟨o, hoa⟩ : ∃ o, h₁.get? a = some o := by
          by_cases q2 : a = I
          · rw [q2]; exact hIo _ _ hst₁
          · obtain ⟨o, hoa⟩ := ok'.wex a ha
            exact ⟨o, e₁ a o q2 hoa⟩
        exact ⟨o, hs₂.extBut a o q hoa⟩
    have hIs : I ≠ slotOf (compCx c scope cl C W' ρc).env x := fun q => by
      rcases hx with hk | ⟨hk, hc⟩
      · exact hIl (by rw [q]; exact (if_pos hk).symm)
      · obtain ⟨a, ha⟩ := Option.isSome_iff_exists.mp hc
        refine hIc x a ha ?_
        rw [q]
        unfold slotOf
        rw [if_neg (by rw [hk]; decide), ha]; rfl
    have ownStay : ∀ p ∈ c.own, ∀ vs : List Value, h'.PlainList p.1 vs.toArray → h₂.PlainList p.1 vs.toArray := fun p hp vs l => by
      have l₁ : h₁.PlainList p.1 vs.toArray := l.at fun o e => e₁ _ o (hown p hp).2 e
      exact l₁.at fun o e => hs₂.extBut _ o (fun q => hnl _ (q ▸ l₁)) e
    have rs₂ : Rds W' h₂ ys ((res.take i).filterMap id) := rs.mono ext₂
    have ok₂ : Ok (compCx c scope cl C W' ((x, d) :: ρc)) h₂ := by
      refine ⟨ok'.gl, fun b o q => ?_, fr₂, ok'.vw, ok'.glob, ok'.blt, ok'.hh, wex₂, ok'.wnew, fun y dy q => ?_, fun p hp => ?_⟩
      · have q' : (compCx c scope cl C W' ρc).H.get? b = some o := q
        exact ext₂ b o (fun hm => by rw [ok'.wnew b hm] at q'; cases q') (ok'.base b o q')
      · by_cases hy : y = x
        · subst hy
          have q' : some d = some dy := by rw [← q]; exact lookup_cons_self.symm
          cases q'
          refine ⟨v, bx, rd.move fun b o hb e => ?_⟩
          obtain ⟨n1, n2⟩ := hold b o hb e
          exact ⟨keep₂ b o (fun z => n1 (z ▸ hI)) (fun z => n1 (z ▸ hD)) (fun z => n1 (z ▸ hslotW)) n2, n1⟩
        · have q' : ρc.lookup y = some dy := by rw [← q]; exact (lookup_cons_ne hy).symm
          obtain ⟨u, bu, ru⟩ := ok'.vars y dy q'
          exact ⟨u, by' y u hy (bu.but e₁ hIl hIc), ru.mono ext₂⟩
      · obtain ⟨a1, vs, l, r⟩ := ok'.own p hp
        exact ⟨a1, vs, ownStay p hp vs l, r.mono ext₂⟩
    refine wpAny_mono ((tn C W').1 { s with heap := h₂, toks := tk₂ } ok₂ _) (fun b s₃ x₃ => ?_) fun _ _ e => e
    obtain ⟨x₃, rfl⟩ := x₃
    obtain ⟨h₃, tk₃, rfl, e₃⟩ := x₃
    have take_succ : (res.take (i + 1)).filterMap id = (res.take i).filterMap id ++ o.toList := by
      rw [List.take_add_one, ho, List.filterMap_append]; cases o <;> rfl
    have dropx : ∀ h₄ : Heap, Ok (compCx c scope cl C W' ((x, d) :: ρc)) h₄ → Ok (compCx c scope cl C W' ρc) h₄ := fun h₄ q =>
      ⟨q.gl, q.base, q.fr, q.vw, q.glob, q.blt, q.hh, q.wex, q.wnew, fun y dy z => q.vars y dy (by
        have z' : ρc.lookup y = some dy := z
        have hy : y ≠ x := fun w => by subst w; rw [hxρ] at z'; cases z'
        rw [← z']; exact lookup_cons_ne hy), q.own⟩
    cases o with
    | none =>
      simp only [Option.isSome_none, Bool.false_eq_true, if_false]
      refine ⟨its.length + 1 - (i + 1), by omega, h₃, tk₃, i + 1, ys, rfl, hlt, rfl, W.frame _ _ _ hst₂ fun b _ o e => e₃ b o e, dropx _ (ok₂.ext e₃), fr₂.ext e₃, hl₂.at fun o e => e₃ _ o e, Nat.le_succ_of_le hyl, ?_, fun b o h1 h2 h3 e => e₃ b o (keep₂ b o h1 h2 h3 e)⟩
      rw [take_succ]; simpa using rs₂.ext e₃
    | some r =>
      simp only [Option.isSome_some, if_true]
      refine wpAny_mono ((tn C W').2 r rfl { s with heap := h₃, toks := tk₃ } (ok₂.ext e₃) _) (fun y s₄ x₄ => ?_) fun _ _ e => e
      obtain ⟨x₄, ry⟩ := x₄
      obtain ⟨h₄, tk₄, rfl, e₄⟩ := x₄
      have hl₄ : h₄.PlainList D₀ ys.toArray := hl₂.at fun o e => e₄ _ o (e₃ _ o e)
      have fr₄ := (fr₂.ext e₃).ext e₄
      refine wpAny_list_append_plain hl₄ (fun h₅ hl₅ hs₅ => ?_) (by rw [List.size_toArray]; omega)
      obtain ⟨nl, nc⟩ := fr₄.notList hl₄
      have e₅ : ∀ b o, b ≠ D₀ → h₄.get? b = some o → h₅.get? b = some o := fun b o hb e => hs₅.extBut b o hb e
      have ok₄ := dropx _ ((ok₂.ext e₃).ext e₄)
      refine ⟨its.length + 1 - (i + 1), by omega, h₅, tk₄, i + 1, ys ++ [y], rfl, hlt, rfl, W.frame _ _ _ hst₂ fun b hb o e => e₅ b o (hfp b hb).1 (e₄ b o (e₃ b o e)), ?_, fr₄.but e₅ nl nc, ?_, by rw [List.length_append, List.length_singleton]; omega, ?_,
        fun b o h1 h2 h3 e => e₅ b o h2 (e₄ b o (e₃ b o (keep₂ b o h1 h2 h3 e)))⟩
      · refine ok₄.change (fr₄.but e₅ nl nc) (fun b o hb e => e₅ b o (fun q => hb (q ▸ hD)) e) (fun a ha => ?_) (fun y u b => b.but e₅ nl nc) (fun p hp vs l => l.at fun o e => e₅ _ o (hown p hp).1 e)
        by_cases q : a = D₀
        · subst q; obtain ⟨n, ho⟩ := hl₅; exact ⟨_, ho⟩
        · obtain ⟨o, hoa⟩ := ok₄.wex a ha; exact ⟨o, e₅ a o q hoa⟩
      · rw [← List.push_toArray]; exact hl₅
      · rw [take_succ]
        refine Rds.append ?_ (.one ?_)
        · exact ((rs₂.ext e₃).ext e₄).mono fun b o hb e => e₅ b o (fun q => hb (q ▸ hD)) e
        · exact Rd.mono ry fun b o hb e => e₅ b o (fun q => hb (q ▸ hD)) e
  · have hin : i = its.length := by omega
    subst hin
    refine W.done _ _ _ hst' fun h₁ tk₁ hk₁ => ?_
    have e₁ : ∀ b o, b ≠ I → h'.get? b = some o → h₁.get? b = some o := fun b o hb e => hk₁ b o (by simpa using hb) e
    refine fin ys h₁ tk₁ (fun b o h1 h2 h3 e => e₁ b o h1 (keep b o h1 h2 h3 e)) (fr'.but e₁ hIl hIc) (hl'.at fun o e => e₁ _ o hDI e) ?_
    rw [hlen, List.take_length] at rs
    exact rs.mono fun b o hb e => e₁ b o (fun q => hb (q ▸ hI)) e

end Mine

end -- OyComp2

section -- OyComp3
open PySem PySem.W PySem.Calls PyProof.Rows
set_option Elab.async false
namespace Mine

theorem get_none_of_ge {h : Heap} {a : Addr} (l : h.objs.size ≤ a) : h.get? a = none := by
  cases q : h.get? a with
  | none => rfl
  | some o => exact absurd (Heap.lt_size q) (Nat.not_lt.mpr l)
theorem none_of_ext {h h' : Heap} {a : Addr} (e : Ext h h') (n : h'.get? a = none) : h.get? a = none := by
  cases q : h.get? a with
  | none => rfl
  | some o => rw [e a o q] at n; cases n

/-- the comprehension's own frame stands well -/
theorem compFrame {c : Cx} {scope : Scope} {cl : List (Str × Addr)} {h : Heap} (fr : FrameOk c.env c.W h) (hcl : closureFor scope c.env = pure cl) (hkind : scope.kind = .function) (D₀ : Obj) (a₀ I : Addr) :
    let C := h.objs.size
    let h₂ := pushCells (h.push { cls := .type "dict", data := .dict #[] }) scope.names
    FrameOk (compEnvC scope (cellsFrom (C + 1) scope.names cl) C c.env) (a₀ :: I :: C :: ((cellsFrom (C + 1) scope.names cl).map (·.2) ++ c.W)) h₂ ∧
      (∀ p ∈ cellsFrom (C + 1) scope.names cl, (p.2 ∈ c.W ∧ ∃ v, h.IsCell p.2 v) ∨ (C < p.2 ∧ h₂.IsCell p.2 none)) := by
  intro C h₂
  have hmem := closure_mem hcl
  have hsz : (h.push { cls := .type "dict", data := .dict #[] }).objs.size = C + 1 := Heap.size_push ..
  obtain ⟨n1, n2⟩ := cells_new scope.names (h.push { cls := .type "dict", data := .dict #[] }) cl (fun p hp => by
    obtain ⟨_, v, r⟩ := fr.cell p.1 p.2 (hmem p hp)
    rw [hsz]; exact Nat.lt_succ_of_lt r.lt) (fun p hp q hq e => fr.apart p.1 q.1 p.2 (hmem p hp) (by rw [e]; exact hmem q hq))
  rw [hsz] at n1 n2
  have up : Ext h h₂ := fun b o e => pushCells_keeps _ _ b o (Heap.get?_push_of_some _ e)
  have all : ∀ p ∈ cellsFrom (C + 1) scope.names cl, (p.2 ∈ c.W ∧ ∃ v, h.IsCell p.2 v) ∨ (C < p.2 ∧ h₂.IsCell p.2 none) := fun p hp => by
    rcases n1 p hp with q | ⟨q1, q2⟩
    · exact .inl (fr.cell p.1 p.2 (hmem p q))
    · exact .inr ⟨q1, q2⟩
  refine ⟨⟨hkind, ⟨_, (Heap.Ns.new h (.type "dict")).keeps (pushCells_keeps _ _)⟩, by simp [compEnvC], fun x a q => ?_, fun x y a q r => ?_⟩, all⟩
  · have hm : (x, a) ∈ cellsFrom (C + 1) scope.names cl := mem_of_lookup q
    refine ⟨?_, ?_⟩
    · simp only [List.mem_cons, List.mem_append, List.mem_map]
      exact .inr (.inr (.inr (.inl ⟨(x, a), hm, rfl⟩)))
    · rcases all _ hm with ⟨_, v, r⟩ | ⟨_, r⟩
      · exact ⟨v, r.keeps up⟩
      · exact ⟨_, r⟩
  · exact n2 (x, a) (mem_of_lookup q) (y, a) (mem_of_lookup r) rfl

/-- a comprehension, its value handed to use or back -/
theorem comp_core {c : Cx} {elt iter : Expr} {x : Str} {px : Pos} {ifs : List Expr} {scope : Scope} {cl : List (Str × Addr)} {pos p : Pos} {use : Option (Value → Sem Unit)} {ρc : List (Str × D)} {its : List D} {res : List (Option D)}
    {s : Shared} {Q : Value → Shared → Prop} {E : Value → Shared → Prop} (k : Ok c s.heap) (hsrc : Src c iter its) (hcl : closureFor scope c.env = pure cl) (hkind : scope.kind = .function)
    (hnames : ∀ y ∈ scope.names, y.2 = .local → scope.names.lookup y.1 = some .local)
    (hx : ∀ C, Storable (compEnvC scope (cellsFrom (C + 1) scope.names cl) C c.env) x) (hsl : ∀ C, slotOf (compEnvC scope (cellsFrom (C + 1) scope.names cl) C c.env) x = C ∨ slotOf (compEnvC scope (cellsFrom (C + 1) scope.names cl) C c.env) x = C + 1)
    (cap : Cap c scope cl ρc) (hxρ : ρc.lookup x = none) (turn : All2 (Turn c scope cl x ρc ifs elt) its res) (hsz : its.length ≤ sizeLine) (hs : ∀ v, foldedSetIterable iter c.env v = pure v)
    (post : ∀ (D₀ C : Addr) (vs : List Value) h tk, Ext s.heap h → s.heap.get? D₀ = none → s.heap.get? C = none → C ≠ D₀ → (∃ m, h.Ns C m) → h.PlainList D₀ vs.toArray → Rds (D₀ :: C :: c.W) h vs (res.filterMap id) →
      compPost c.M c.A E use Q (.ref D₀) C (.ok .next) { s with heap := h, toks := tk }) :
    wpAny c.M c.A (comprehension (.ListComp elt [⟨.Name x px, iter, ifs, 0⟩] scope pos) scope c.env p (newList []) false (eval iter c.env) use) Q E s := by
  refine wpAny_comprehension_free rfl hs hcl hkind hnames (hsrc s k E _ ?_)
  intro I fp P St s₁ s₂ kp₁ kp₂ W hst hlt hfpW hI hIo hP
  obtain ⟨h₂, tk₂, rfl, e₁₂⟩ := kp₂
  refine wpAny_newObj_type (newCompEnv ?_)
  dsimp only
  generalize hH : (h₂.push { cls := .type "list", dict := none, data := .seq ([] : List Value).toArray }) = H
  have hC : H.objs.size = h₂.objs.size + 1 := by rw [← hH, Heap.size_push]
  have eH : Ext h₂ H := hH ▸ Ext.push _ _
  have k₂ : Ok c h₂ := (k.ext kp₁.ext).ext e₁₂
  have kH : Ok c H := k₂.ext eH
  obtain ⟨frC, hcells⟩ := compFrame (scope := scope) (kH.fr.more kH.vw) hcl hkind default h₂.objs.size I
  have eN : Ext H (pushCells (H.push { cls := .type "dict", data := .dict #[] }) scope.names) := fun b o e => pushCells_keeps _ _ b o (Heap.get?_push_of_some _ e)
  generalize hN : pushCells (H.push { cls := .type "dict", data := .dict #[] }) scope.names = N at frC hcells eN ⊢
  have eAll : Ext h₂ N := fun b o e => eN b o (eH b o e)
  have hD : N.PlainList h₂.objs.size #[] := ⟨_, eN _ _ (by rw [← hH]; exact Heap.get?_push_size _ rfl)⟩
  have hIf : I ∈ fp := W.sub I (List.mem_singleton.mpr rfl)
  have hIlt : I < h₂.objs.size := hlt I hIf
  have hC1 : h₂.objs.size < H.objs.size := by rw [hC]; exact Nat.lt_succ_self _
  have notW : ∀ b, b < h₂.objs.size → b ≠ I → b ∉ c.W → b ∉ h₂.objs.size :: I :: H.objs.size :: ((cellsFrom (H.objs.size + 1) scope.names cl).map (·.2) ++ c.W) := fun b l n hb hm => by
    simp only [List.mem_cons, List.mem_append, List.mem_map] at hm
    rcases hm with h1 | h1 | h1 | ⟨q, hq, h1⟩ | h1
    · exact Nat.ne_of_lt l h1
    · exact n h1
    · exact Nat.ne_of_lt (Nat.lt_trans l hC1) h1
    · rcases hcells q hq with ⟨h2, _⟩ | ⟨h2, _⟩
      · exact hb (h1 ▸ h2)
      · exact Nat.ne_of_lt (Nat.lt_trans (Nat.lt_trans l hC1) h2) h1.symm
    · exact hb h1
  have loop : codeAny (model c.prog c.w) c.A (.compLoop (.ListComp elt [⟨.Name x px, iter, ifs, 0⟩] scope pos) 0 (.ref I) (.ref h₂.objs.size) (compEnvC scope (cellsFrom (H.objs.size + 1) scope.names cl) H.objs.size c.env))
      (compPost c.M c.A E use Q (.ref h₂.objs.size) H.objs.size) { s₁ with heap := N, toks := tk₂ } := by
    refine comp_loop (W' := h₂.objs.size :: I :: H.objs.size :: ((cellsFrom (H.objs.size + 1) scope.names cl).map (·.2) ++ c.W)) (c := c) (ρc := ρc) (C := H.objs.size) (s₁ := s₁) (hx _) W (W.frame _ _ _ hst fun b _ o e => eAll b o e) ?_ (by simp) (by simp) (Nat.ne_of_gt hIlt) ?_ ?_ hP ?_ ?_ hIo hxρ ?_ hD turn hsz ?_
    · intro b hb
      have hb' := hlt b hb
      refine ⟨Nat.ne_of_lt hb', fun q => ?_⟩
      rcases hsl H.objs.size with h1 | h1
      · exact Nat.ne_of_lt (Nat.lt_trans hb' hC1) (q.trans h1)
      · exact Nat.ne_of_lt (Nat.lt_trans hb' (Nat.lt_succ_of_lt hC1)) (q.trans h1)
    · exact Nat.ne_of_gt (Nat.lt_trans hIlt hC1)
    · intro y a hy hq
      rcases hcells (y, a) (mem_of_lookup hy) with ⟨h1, _⟩ | ⟨h1, _⟩
      · exact hfpW I hIf (by rw [← hq]; exact h1)
      · exact Nat.ne_of_gt (Nat.lt_trans (Nat.lt_trans hIlt hC1) h1) hq
    · intro b o hb e
      have hb₂ : h₂.get? b = some o := e₁₂ b o e
      exact ⟨notW b (Heap.lt_size hb₂) (fun q => by subst q; rw [hI] at e; cases e) hb, eAll b o hb₂⟩
    · have newA : ∀ a, h₂.objs.size ≤ a → c.H.get? a = none := fun a ha => none_of_ext k₂.base (get_none_of_ge ha)
      refine ⟨k.gl, fun b o q => eAll b o (k₂.base b o q), frC, fun _ m => m, k.glob, k.blt, k.hh, fun a ha => ?_, fun a ha => ?_, fun y d hy => ?_, fun p hp => ?_⟩
      · simp only [compCx, List.mem_cons, List.mem_append, List.mem_map] at ha
        rcases ha with h1 | h1 | h1 | ⟨q, hq, h1⟩ | h1
        · subst h1; obtain ⟨n, ho⟩ := hD; exact ⟨_, ho⟩
        · subst h1; obtain ⟨o, ho⟩ := hIo _ _ hst; exact ⟨o, eAll _ o ho⟩
        · subst h1; obtain ⟨m, o, _, _, ho, _⟩ := frC.ns; exact ⟨o, ho⟩
        · rcases hcells q hq with ⟨_, v, o, ho, _⟩ | ⟨_, o, ho, _⟩
          · exact ⟨o, by rw [← h1]; exact eN _ o ho⟩
          · exact ⟨o, by rw [← h1]; exact ho⟩
        · obtain ⟨o, ho⟩ := k₂.wex a h1; exact ⟨o, eAll a o ho⟩
      · simp only [compCx, List.mem_cons, List.mem_append, List.mem_map] at ha
        rcases ha with h1 | h1 | h1 | ⟨q, hq, h1⟩ | h1
        · subst h1; exact newA _ (Nat.le_refl _)
        · subst h1; exact none_of_ext (k.ext kp₁.ext).base hI
        · subst h1; exact newA _ (Nat.le_of_lt hC1)
        · rcases hcells q hq with ⟨h2, _⟩ | ⟨h2, _⟩
          · exact k.wnew a (h1 ▸ h2)
          · exact newA _ (h1 ▸ Nat.le_of_lt (Nat.lt_trans hC1 h2))
        · exact k.wnew a h1
      · obtain ⟨q1, q2, q3, q4⟩ := cap.at y d hy
        obtain ⟨v, bv, rv⟩ := (k.ext kp₁.ext).vars y d q1
        refine ⟨v, ?_, rv.move fun b o hb e => ⟨eAll b o (e₁₂ b o e), notW b (Heap.lt_size (e₁₂ b o e)) (fun q => by subst q; rw [hI] at e; cases e) hb⟩⟩
        rcases bv with ⟨z, _⟩ | ⟨_, a, ha, hi⟩
        · rcases q2 with q2 | q2 <;> · rw [q2] at z; cases z
        · refine .inr ⟨q3 _, a, ?_, hi.keeps fun b o e => eAll b o (e₁₂ b o e)⟩
          show (cellsFrom (H.objs.size + 1) scope.names cl).lookup y = some a
          rw [q4]; exact ha
      · obtain ⟨a1, vs, l, r⟩ := (k.ext kp₁.ext).own p hp
        refine ⟨?_, vs, l.at fun o e => eAll _ o (e₁₂ _ o e), r.move fun b o hb e => ⟨eAll b o (e₁₂ b o e), notW b (Heap.lt_size (e₁₂ b o e)) (fun q => by subst q; rw [hI] at e; cases e) hb⟩⟩
        show p.1 ∈ _ :: _
        simp only [List.mem_cons, List.mem_append]
        exact .inr (.inr (.inr (.inr (k.vw _ a1))))
    · intro p hp
      obtain ⟨a1, vs, ⟨n, ho⟩, r⟩ := (k.ext kp₁.ext).own p hp
      exact ⟨Nat.ne_of_lt (Heap.lt_size (e₁₂ _ _ ho)), fun q => by rw [q, hI] at ho; cases ho⟩
    · intro vs h tk keep fr l rs
      have new : ∀ b o, s.heap.get? b = some o → b ≠ I ∧ b ≠ h₂.objs.size ∧ b ≠ H.objs.size ∧ b ≠ slotOf (compEnvC scope (cellsFrom (H.objs.size + 1) scope.names cl) H.objs.size c.env) x ∧ N.get? b = some o := fun b o e => by
        have e1 : s₁.heap.get? b = some o := kp₁.ext b o e
        have e2 : h₂.get? b = some o := e₁₂ b o e1
        have l2 := Heap.lt_size e2
        refine ⟨fun q => (by subst q; rw [hI] at e1; cases e1), Nat.ne_of_lt l2, Nat.ne_of_lt (Nat.lt_trans l2 hC1), fun q => ?_, eAll b o e2⟩
        rcases hsl H.objs.size with h1 | h1
        · exact Nat.ne_of_lt (Nat.lt_trans l2 hC1) (q.trans h1)
        · exact Nat.ne_of_lt (Nat.lt_trans l2 (Nat.lt_succ_of_lt hC1)) (q.trans h1)
      obtain ⟨g₁, t₁, rfl, x₁⟩ := kp₁
      refine post h₂.objs.size H.objs.size vs h tk (fun b o e => ?_) ?_ ?_ (Nat.ne_of_gt hC1) fr.ns l (rs.less fun a ha => ?_)
      · obtain ⟨n1, n2, n3, n4, n5⟩ := new b o e
        exact keep b o n1 n2 n4 n5
      · exact none_of_ext (fun b o e => e₁₂ b o (x₁ b o e)) (get_none_of_ge (Nat.le_refl _))
      · exact none_of_ext (fun b o e => e₁₂ b o (x₁ b o e)) (get_none_of_ge (Nat.le_of_lt hC1))
      · simp only [List.mem_cons, List.mem_append] at ha ⊢
        rcases ha with h1 | h1 | h1
        · exact .inl h1
        · exact .inr (.inr (.inl h1))
        · exact .inr (.inr (.inr (.inr h1)))
  exact codeAny_compStart_list loop (W.self 0 _ _ _ (W.frame _ _ _ hst fun b _ o e => eAll b o e) loop)

end Mine

end -- OyComp3

section -- OyStmt
open PySem PySem.W PySem.Calls PyProof.Rows
set_option Elab.async false
namespace Mine

/-- what a comprehension's scope must bear -/
structure CompOk (c : Cx) (scope : Scope) (cl : List (Str × Addr)) (x : Str) (ρc : List (Str × D)) : Prop where
  clos : closureFor scope c.env = pure cl
  kind : scope.kind = .function
  names : ∀ y ∈ scope.names, y.2 = .local → scope.names.lookup y.1 = some .local
  st : ∀ C, Storable (compEnvC scope (cellsFrom (C + 1) scope.names cl) C c.env) x
  sl : ∀ C, slotOf (compEnvC scope (cellsFrom (C + 1) scope.names cl) C c.env) x = C ∨ slotOf (compEnvC scope (cellsFrom (C + 1) scope.names cl) C c.env) x = C + 1
  cap : Cap c scope cl ρc
  free : ρc.lookup x = none

theorem Ev.comp {c : Cx} {elt iter : Expr} {x : Str} {px : Pos} {ifs : List Expr} {scope : Scope} {cl : List (Str × Addr)} {pos : Pos} {ρc : List (Str × D)} {its : List D} {res : List (Option D)}
    (ok : CompOk c scope cl x ρc) (hsrc : Src c iter its) (turn : All2 (Turn c scope cl x ρc ifs elt) its res) (hsz : its.length ≤ sizeLine) (hs : ∀ v, foldedSetIterable iter c.env v = pure v := by intro _; rfl) :
    Ev c (.ListComp elt [⟨.Name x px, iter, ifs, 0⟩] scope pos) (.list (res.filterMap id)) := by
  intro s k E
  rw [eval_ListComp]
  refine comp_core k hsrc ok.clos ok.kind ok.names ok.st ok.sl ok.cap ok.free turn hsz hs ?_
  intro D₀ C vs h tk e hD hC hne ⟨m, hn⟩ hl rs
  refine ⟨m, hn, fun h' hs' => ⟨.grow _ _ _ fun b o q => hs'.extBut b o (fun z => by subst z; rw [hC] at q; cases q) (e b o q), ?_⟩⟩
  refine .list (fun hm => by obtain ⟨o, ho⟩ := k.wex _ hm; rw [hD] at ho; cases ho) (hl.at fun o q => hs'.extBut _ o (Ne.symm hne) q) ?_
  exact (rs.mono fun b o hb q => hs'.extBut b o (fun z => hb (by simp [z])) q).less fun a ha => by simp [ha]

/-- the state of a frame between two statements, s0 its start -/
structure Sta (c : Cx) (s0 s : Shared) : Prop where
  ok : Ok c s.heap
  same : ∃ h tk, s = { s0 with heap := h, toks := tk }
  keep : ExtW c.V s0.heap s.heap

theorem Sta.refl {c : Cx} {s : Shared} (k : Ok c s.heap) : Sta c s s := ⟨k, ⟨s.heap, s.toks, rfl⟩, .refl⟩
theorem Sta.quiet {c : Cx} {s0 s s' : Shared} (S : Sta c s0 s) (k : Kp s s') : Sta c s0 s' := by
  obtain ⟨h, t, rfl, e⟩ := k
  obtain ⟨h1, t1, rfl⟩ := S.same
  exact ⟨S.ok.ext e, ⟨h, t, rfl⟩, S.keep.trans (.ofExt e)⟩
theorem Sta.trans {c c' : Cx} {s0 s1 s2 : Shared} (S : Sta c s0 s1) (T : Sta c' s1 s2) (hw : c'.V = c.V) : Sta c' s0 s2 := by
  obtain ⟨h1, t1, rfl⟩ := S.same
  obtain ⟨h2, t2, rfl⟩ := T.same
  refine ⟨T.ok, ⟨h2, t2, rfl⟩, ?_⟩
  have := T.keep
  rw [hw] at this ⊢
  exact S.keep.trans this

/-- a block run in a context -/
noncomputable def Run (c : Cx) (b : List Stmt) (Q : Flow → Shared → Prop) (E : Value → Shared → Prop) (s : Shared) : Prop := wpAny c.M c.A (execs b c.env) Q E s

noncomputable def Cx.set (c : Cx) (x : Str) (d : D) : Cx := { c with ρ := (x, d) :: c.ρ }

theorem slot_mem {env : Env} {W : List Addr} {h : Heap} {x : Str} (fr : FrameOk env W h) (hx : Storable env x) : slotOf env x ∈ W := by
  rcases hx with hk | ⟨hk, hc⟩
  · rw [show slotOf env x = env.locals from if_pos hk]; exact fr.lw
  · obtain ⟨a, ha⟩ := Option.isSome_iff_exists.mp hc
    have : slotOf env x = a := by
      unfold slotOf
      rw [if_neg (by rw [hk]; decide), ha]; rfl
    rw [this]; exact (fr.cell x a ha).1

theorem Sta.store2 {c : Cx} {s0 s : Shared} {x : Str} {v : Value} {d : D} {Q : Unit → Shared → Prop} {E : Value → Shared → Prop} (S : Sta c s0 s) (hx : Storable c.env x) (r : Rd c.W s.heap v d)
    (q : ∀ s', Sta (c.set x d) s0 s' → Heap.SameBut (slotOf c.env x) s.heap s'.heap → Q () s') : wpAny c.M c.A (storeName c.env x v) Q E s := by
  refine store_any S.ok.fr hx fun h' tk hex hsl hnl hs fr' bx by' => q _ ?_ hs
  have hsl := slot_mem S.ok.fr hx
  have extV : ExtW c.V s.heap h' := fun b o hb e => hs.extBut b o (fun z => hb (z ▸ hsl)) e
  have ext : ExtW c.W s.heap h' := fun b o hb e => extV b o (fun z => hb (S.ok.vw b z)) e
  obtain ⟨h1, t1, e1⟩ := S.same
  refine ⟨⟨S.ok.gl, fun b o z => ?_, fr', S.ok.vw, S.ok.glob, S.ok.blt, S.ok.hh, fun a ha => ?_, S.ok.wnew, fun y dy hy => ?_, fun p hp => ?_⟩, ⟨h', tk, by rw [e1]⟩, S.keep.trans extV⟩
  · have z' : c.H.get? b = some o := z
    exact ext b o (fun hm => by rw [S.ok.wnew b hm] at z'; cases z') (S.ok.base b o z')
  · by_cases z : a = slotOf c.env x
    · rw [z]; exact hex
    · obtain ⟨o, ho⟩ := S.ok.wex a ha; exact ⟨o, hs.extBut a o z ho⟩
  · by_cases z : y = x
    · subst z
      have q' : some d = some dy := by rw [← hy]; exact lookup_cons_self.symm
      cases q'
      exact ⟨v, bx, r.mono ext⟩
    · have q' : c.ρ.lookup y = some dy := by rw [← hy]; exact (lookup_cons_ne z).symm
      obtain ⟨u, bu, ru⟩ := S.ok.vars y dy q'
      exact ⟨u, by' y u z bu, ru.mono ext⟩
  · obtain ⟨a1, vs, l, rr⟩ := S.ok.own p hp
    exact ⟨a1, vs, l.at fun o z => hs.extBut _ o (fun w => hnl _ (w ▸ l)) z, rr.mono ext⟩

theorem Sta.store {c : Cx} {s0 s : Shared} {x : Str} {v : Value} {d : D} {Q : Unit → Shared → Prop} {E : Value → Shared → Prop} (S : Sta c s0 s) (hx : Storable c.env x) (r : Rd c.W s.heap v d)
    (q : ∀ s', Sta (c.set x d) s0 s' → Q () s') : wpAny c.M c.A (storeName c.env x v) Q E s := S.store2 hx r fun s' S' _ => q s' S'

section
variable {c : Cx} {s0 s : Shared} {rest : List Stmt} {Q : Flow → Shared → Prop} {E : Value → Shared → Prop}
theorem St.assign {x : Str} {p pos : Pos} {e : Expr} {d : D} (S : Sta c s0 s) (he : Ev c e d) (hx : Storable c.env x) (q : ∀ s', Sta (c.set x d) s0 s' → Run (c.set x d) rest Q E s')
    (hs : swapsWith e (some (.Name x p)) pos.line c.env = pure false := by rfl) : Run c (.Assign [.Name x p] e pos :: rest) Q E s :=
  wpAny_execs_cons (wpAny_Assign_Name (he.step S.ok fun v s₁ e₁ _ r => (S.quiet e₁).store hx r fun s' S' => q s' S') hs)
theorem St.ret {e : Expr} {pos : Pos} {d : D} (S : Sta c s0 s) (he : Ev c e d) (q : ∀ v s', Sta c s0 s' → Rd c.W s'.heap v d → Q (.ret v) s') : Run c (.Return (some e) pos :: rest) Q E s :=
  wpAny_execs_cons (wpAny_Return_some (he.step S.ok fun v s₁ e₁ _ r => q v s₁ (S.quiet e₁) r))
theorem St.if {t : Expr} {b o : List Stmt} {pos : Pos} {v : Bool} (S : Sta c s0 s) (ht : Tv c t v)
    (hb : v = true → ∀ s', Sta c s0 s' → Run c b (fun f s₁ => match f with | .next => Run c rest Q E s₁ | f => Q f s₁) E s')
    (ho : v = false → ∀ s', Sta c s0 s' → Run c o (fun f s₁ => match f with | .next => Run c rest Q E s₁ | f => Q f s₁) E s') :
    Run c (.If t b o pos :: rest) Q E s := by
  refine wpAny_execs_cons (wpAny_If (ht.step S.ok fun s₁ e₁ _ => ?_))
  cases v with
  | true => exact hb rfl s₁ (S.quiet e₁)
  | false => exact ho rfl s₁ (S.quiet e₁)
theorem St.nil (h : Q .next s) : Run c [] Q E s := wpAny_execs_nil h

/-- a comprehension stored into a local name at once -/
theorem St.assignComp {elt iter : Expr} {x y : Str} {px py spos : Pos} {ifs : List Expr} {scope : Scope} {cl : List (Str × Addr)} {pos : Pos} {ρc : List (Str × D)} {its : List D} {res : List (Option D)}
    (S : Sta c s0 s) (ok : CompOk c scope cl x ρc) (hsrc : Src c iter its) (turn : All2 (Turn c scope cl x ρc ifs elt) its res) (hsz : its.length ≤ sizeLine) (hy : Storable c.env y)
    (q : ∀ s', Sta (c.set y (.list (res.filterMap id))) s0 s' → Run (c.set y (.list (res.filterMap id))) rest Q E s')
    (hsw : swapsWith (.ListComp elt [⟨.Name x px, iter, ifs, 0⟩] scope pos) (some (.Name y py)) spos.line c.env = pure true := by rfl) (hs : ∀ v, foldedSetIterable iter c.env v = pure v := by intro _; rfl) :
    Run c (.Assign [.Name y py] (.ListComp elt [⟨.Name x px, iter, ifs, 0⟩] scope pos) spos :: rest) Q E s := by
  refine wpAny_execs_cons ?_
  rw [exec_Assign_Name_used _ _ _ _ hsw]
  refine wpAny_bind (wpAny_standAt (wpAny_bind ?_))
  show wpAny _ c.A (do let _ ← comprehension (.ListComp elt [⟨.Name x px, iter, ifs, 0⟩] scope pos) scope c.env _ (newList []) false (eval iter c.env) (some (PySem.assign (.Name y py) c.env))) _ _ s
  refine wpAny_bind (wpAny_mono (comp_core (use := some (PySem.assign (.Name y py) c.env)) (Q := fun _ s' => wpAny c.M c.A (execs rest c.env) Q E s') S.ok hsrc ok.clos ok.kind ok.names ok.st ok.sl ok.cap ok.free turn hsz hs ?_)
    (fun _ s' hq => wpAny_pure (wpAny_pure hq)) fun _ _ e => e)
  intro D₀ C vs h tk e hD hC hne ⟨m, hn⟩ hl rs
  have S₁ : Sta c s0 { s with heap := h, toks := tk } := S.quiet (.grow _ _ _ e)
  have hDW : D₀ ∉ c.W := fun hm => by obtain ⟨o, ho⟩ := S.ok.wex _ hm; rw [hD] at ho; cases ho
  refine wpAny_assign_Name (store_any S₁.ok.fr hy fun h' tk' hex hsl hnl hs fr' bx by' => ?_)
  have hsl := slot_mem S.ok.fr hy
  have hCs : C ≠ slotOf c.env y := fun z => by obtain ⟨o, ho⟩ := S.ok.wex _ (S.ok.vw _ hsl); rw [← z, hC] at ho; cases ho
  refine ⟨m, hn.sameBut hs hCs, fun h'' hs'' => q _ ?_⟩
  have notC : ∀ b o, s.heap.get? b = some o → b ≠ C := fun b o z w => by subst w; rw [hC] at z; cases z
  have extV : ExtW c.V s.heap h'' := fun b o hb z => hs''.extBut b o (notC b o z) (hs.extBut b o (fun w => hb (w ▸ hsl)) (e b o z))
  have ext : ExtW c.W s.heap h'' := fun b o hb z => extV b o (fun w => hb (S.ok.vw b w)) z
  have hCW : ∀ a ∈ c.W, a ≠ C := fun a ha => by obtain ⟨o, ho⟩ := S.ok.wex a ha; exact notC a o ho
  have cellC : ∀ y a, c.env.cells.lookup y = some a → a ≠ C := fun y a z => hCW a (S.ok.vw _ (S.ok.fr.cell y a z).1)
  have r : Rd c.W h'' (.ref D₀) (.list (res.filterMap id)) := by
    refine .list hDW (hl.at fun o z => hs''.extBut _ o (Ne.symm hne) (hs.extBut _ o (fun w => hnl _ (w ▸ hl)) z)) ?_
    refine rs.move fun b o hb z => ?_
    simp only [List.mem_cons, not_or] at hb
    exact ⟨hs''.extBut b o hb.2.1 (hs.extBut b o (fun w => hb.2.2 (w ▸ S.ok.vw _ hsl)) z), hb.2.2⟩
  have e2 : ∀ b o, b ≠ C → h'.get? b = some o → h''.get? b = some o := fun b o hb z => hs''.extBut b o hb z
  obtain ⟨h1, t1, e1⟩ := S.same
  refine ⟨⟨S.ok.gl, fun b o z => ?_, fr'.but e2 (hCW _ (S.ok.vw _ S.ok.fr.lw)) cellC, S.ok.vw, S.ok.glob, S.ok.blt, S.ok.hh, fun a ha => ?_, S.ok.wnew, fun z dz hz => ?_, fun p hp => ?_⟩, ⟨h'', tk', by rw [e1]⟩, S.keep.trans extV⟩
  · have z' : c.H.get? b = some o := z
    exact ext b o (fun hm => by rw [S.ok.wnew b hm] at z'; cases z') (S.ok.base b o z')
  · by_cases z : a = slotOf c.env y
    · rw [z]; obtain ⟨o, ho⟩ := hex; exact ⟨o, e2 _ o (Ne.symm hCs) ho⟩
    · obtain ⟨o, ho⟩ := S₁.ok.wex a ha; exact ⟨o, e2 a o (hCW a ha) (hs.extBut a o z ho)⟩
  · by_cases w : z = y
    · subst w
      have q' : some (D.list (res.filterMap id)) = some dz := by rw [← hz]; exact lookup_cons_self.symm
      cases q'
      exact ⟨_, bx.but e2 (hCW _ (S.ok.vw _ S.ok.fr.lw)) cellC, r⟩
    · have q' : c.ρ.lookup z = some dz := by rw [← hz]; exact (lookup_cons_ne w).symm
      obtain ⟨u, bu, ru⟩ := S.ok.vars z dz q'
      exact ⟨u, (by' z u w (bu.ext e)).but e2 (hCW _ (S.ok.vw _ S.ok.fr.lw)) cellC, ru.mono ext⟩
  · obtain ⟨a1, ws, l, rr⟩ := S.ok.own p hp
    have l1 : h.PlainList p.1 ws.toArray := l.at fun o z => e _ o z
    exact ⟨a1, ws, l1.at fun o z => e2 _ o (hCW _ (S.ok.vw _ a1)) (hs.extBut _ o (fun w => hnl _ (w ▸ l1)) z), rr.mono ext⟩
end

end Mine

end -- OyStmt

section -- OyLoop
open PySem PySem.W PySem.Calls PyProof.Rows
set_option Elab.async false
namespace Mine

/-- an iterator at work: item i reads as its i; wr are its own objects -/
structure Prov (c : Cx) (target : Expr) (I : Addr) (fp wr : List Addr) (h1 : Heap) (its : List D) (St : Nat → Heap → Prop) : Prop where
  sub : ∀ b ∈ wr, b ∈ fp
  off : ∀ b ∈ fp, b ∉ c.W
  new : ∀ b ∈ wr, h1.get? b = none
  ex : ∀ i h, St i h → ∀ b ∈ wr, ∃ o, h.get? b = some o
  frame : ∀ i h h', St i h → (∀ b ∈ fp, ∀ o, h.get? b = some o → h'.get? b = some o) → St i h'
  item : ∀ i d (s : Shared) (Q : Value → Shared → Prop) (E : Value → Shared → Prop), its[i]? = some d → St i s.heap → (∀ a ∈ c.W, ∃ o, s.heap.get? a = some o) → ExtW (wr ++ c.W) h1 s.heap →
    (∀ v h' tk, St (i + 1) h' → (∀ b o, b ∉ wr → s.heap.get? b = some o → h'.get? b = some o) → Rd (wr ++ c.W) h' v d → Q v { s with heap := h', toks := tk }) →
    wpAny c.M c.A (pyNext (.ref I)) (fun r s₁ => match r with | none => False | some v => wpAny c.M c.A (letOwnedTupleGo target (.ref I) v) (fun _ s₂ => Q v s₂) E s₁) E s
  done : ∀ (s : Shared) (Q : Option Value → Shared → Prop) (E : Value → Shared → Prop), St its.length s.heap →
    (∀ h' tk, (∀ b o, b ∉ wr → s.heap.get? b = some o → h'.get? b = some o) → Q none { s with heap := h', toks := tk }) → wpAny c.M c.A (pyNext (.ref I)) Q E s

noncomputable def SrcF (c : Cx) (e target : Expr) (its : List D) : Prop := ∀ s, Ok c s.heap → ∀ E (Q : Value → Shared → Prop),
  (∀ I fp wr St s₁ s', Kp s s₁ → Kp s₁ s' → Prov c target I fp wr s₁.heap its St → St 0 s'.heap → Q (.ref I) s') →
  wpAny c.M c.A (eval e c.env) (fun x s₁ => wpAny c.M c.A (pyIter x) Q E s₁) E s

theorem SrcF.ofSrc {c : Cx} {e : Expr} {x : Str} {px : Pos} {its : List D} (h : Src c e its) : SrcF c e (.Name x px) its := by
  intro s k E Q q
  refine h s k E Q fun I fp P St s₁ s' kp₁ kp₂ W hst hlt hoff hI hIo hP => ?_
  refine q I fp [I] St s₁ s' kp₁ kp₂ ⟨W.sub, hoff, fun b hb => (by rw [List.mem_singleton.mp hb]; exact hI), fun i h st b hb => (by rw [List.mem_singleton.mp hb]; exact hIo i h st), W.frame, ?_, ?_⟩ hst
  · intro i d s Q E hd st hw hx hQ
    have hi : i < its.length := (List.getElem?_eq_some_iff.mp hd).1
    refine W.item i s _ _ hi st fun v h' tk hPv st' hk => ?_
    show wpAny c.M c.A (pure ()) _ _ _
    refine wpAny_pure (hQ v h' tk st' hk ?_)
    obtain ⟨d', hd', r⟩ := hP i v hPv
    rw [hd] at hd'; cases hd'
    refine r.move fun b o hb e => ?_
    have hbI : b ∉ [I] := fun z => by rw [List.mem_singleton.mp z, hI] at e; cases e
    have hb' : b ∉ [I] ++ c.W := fun z => (List.mem_append.mp z).elim hbI hb
    exact ⟨hk b o hbI (hx b o hb' e), hb'⟩
  · exact fun s Q E st hQ => W.done s Q E st hQ

noncomputable abbrev Cx.at (c : Cx) (W : List Addr) (own : List (Addr × List D)) (ρ : List (Str × D)) : Cx := { c with W := W, own := own, ρ := ρ }

/-- objects that are neither of V nor of the start have changed -/
theorem Sta.iter {c : Cx} {s1 s : Shared} {wr : List Addr} {h' : Heap} {tk : Nat} (S : Sta c s1 s) (hw : ∀ b ∈ wr, b ∈ c.W) (hv : ∀ b ∈ wr, b ∉ c.V) (hn : ∀ b ∈ wr, s1.heap.get? b = none)
    (e : ∀ b o, b ∉ wr → s.heap.get? b = some o → h'.get? b = some o) (ex : ∀ b ∈ wr, ∃ o, h'.get? b = some o) : Sta c s1 { s with heap := h', toks := tk } := by
  have eW : ExtW c.W s.heap h' := fun b o hb z => e b o (fun m => hb (hw b m)) z
  have eV : ∀ b o, b ∈ c.V → s.heap.get? b = some o → h'.get? b = some o := fun b o hb z => e b o (fun m => hv b m hb) z
  have fr' : FrameOk c.env c.V h' := by
    have f := S.ok.fr
    exact ⟨f.kind, let ⟨m, q⟩ := f.ns; ⟨m, q.at' fun o x => eV _ o f.lw x⟩, f.lw, fun x a q => let ⟨i, v, o, ho, hd⟩ := f.cell x a q; ⟨i, v, o, eV _ o i ho, hd⟩, f.apart⟩
  obtain ⟨h1, t1, e1⟩ := S.same
  refine ⟨S.ok.change fr' eW (fun a ha => ?_) (fun x v b => ?_) (fun p hp' vs l => l.at fun o z => eV _ o (S.ok.own p hp').1 z), ⟨h', tk, by rw [e1]⟩, fun b o hb z => e b o (fun m => by rw [hn b m] at z; cases z) (S.keep b o hb z)⟩
  · by_cases q : a ∈ wr
    · exact ex a q
    · obtain ⟨o, ho⟩ := S.ok.wex a ha; exact ⟨o, e a o q ho⟩
  · rcases b with ⟨k, m, hn, hm⟩ | ⟨k, a, hc', o, ho, hd⟩
    · exact .inl ⟨k, m, hn.at' fun o x => eV _ o S.ok.fr.lw x, hm⟩
    · exact .inr ⟨k, a, hc', o, eV _ o (S.ok.fr.cell x a hc').1 ho, hd⟩

/-- the same, the objects dropped out of W -/
theorem Sta.iterDone {c : Cx} {s1 s : Shared} {wr W : List Addr} {h' : Heap} {tk : Nat} (S : Sta { c with W := wr ++ W } s1 s) (hvw : ∀ a ∈ c.V, a ∈ W) (hw : ∀ b ∈ wr, b ∉ W) (hn : ∀ b ∈ wr, s1.heap.get? b = none)
    (e : ∀ b o, b ∉ wr → s.heap.get? b = some o → h'.get? b = some o) : Sta { c with W := W } s1 { s with heap := h', toks := tk } := by
  have eW : ∀ b o, b ∈ W → s.heap.get? b = some o → h'.get? b = some o := fun b o hb z => e b o (fun m => hw b m hb) z
  have eV : ∀ b o, b ∈ c.V → s.heap.get? b = some o → h'.get? b = some o := fun b o hb z => eW b o (hvw b hb) z
  have mv : ∀ b o, b ∉ wr ++ W → s.heap.get? b = some o → h'.get? b = some o ∧ b ∉ W := fun b o hb z => ⟨e b o (fun m => hb (List.mem_append_left _ m)) z, fun m => hb (List.mem_append_right _ m)⟩
  have f : FrameOk c.env c.V s.heap := S.ok.fr
  have fr' : FrameOk c.env c.V h' :=
    ⟨f.kind, let ⟨m, q⟩ := f.ns; ⟨m, q.at' fun o x => eV _ o f.lw x⟩, f.lw, fun x a q => let ⟨i, v, o, ho, hd⟩ := f.cell x a q; ⟨i, v, o, eV _ o i ho, hd⟩, f.apart⟩
  obtain ⟨h1, t1, e1⟩ := S.same
  refine ⟨⟨S.ok.gl, fun b o z => ?_, fr', hvw, S.ok.glob, S.ok.blt, S.ok.hh, fun a ha => ?_, fun a ha => S.ok.wnew a (List.mem_append_right _ ha), fun x d hx => ?_, fun p hp => ?_⟩, ⟨h', tk, by rw [e1]⟩, fun b o hb z => e b o (fun m => by rw [hn b m] at z; cases z) (S.keep b o hb z)⟩
  · have z' : c.H.get? b = some o := z
    exact e b o (fun m => by rw [show c.H.get? b = none from S.ok.wnew b (List.mem_append_left _ m)] at z'; cases z') (S.ok.base b o z)
  · obtain ⟨o, ho⟩ := S.ok.wex a (List.mem_append_right _ ha); exact ⟨o, eW a o ha ho⟩
  · obtain ⟨v, b, r⟩ := S.ok.vars x d hx
    refine ⟨v, ?_, r.move mv⟩
    rcases b with ⟨k, m, hn, hm⟩ | ⟨k, a, hc', o, ho, hd⟩
    · exact .inl ⟨k, m, hn.at' fun o x => eV _ o f.lw x, hm⟩
    · exact .inr ⟨k, a, hc', o, eV _ o (f.cell x a hc').1 ho, hd⟩
  · obtain ⟨a1, vs, l, r⟩ := S.ok.own p hp
    exact ⟨a1, vs, l.at fun o z => eV _ o a1 z, r.move mv⟩

theorem Ok.moreW {c : Cx} {h : Heap} {wr : List Addr} (k : Ok c h) (h1 : Heap) (e1 : Ext h1 h) (k1 : Ok c h1) (hn : ∀ b ∈ wr, h1.get? b = none) (ex : ∀ b ∈ wr, ∃ o, h.get? b = some o) : Ok { c with W := wr ++ c.W } h := by
  have nm : ∀ b o, h1.get? b = some o → b ∉ c.W → b ∉ wr ++ c.W := fun b o e hb z => (List.mem_append.mp z).elim (fun m => by rw [hn b m] at e; cases e) hb
  refine ⟨k.gl, k.base, k.fr, fun a ha => List.mem_append_right _ (k.vw a ha), k.glob, k.blt, k.hh, fun a ha => (List.mem_append.mp ha).elim (ex a) (k.wex a), fun a ha => (List.mem_append.mp ha).elim (fun m => none_of_ext k1.base (hn a m)) (k.wnew a), fun x d hx => ?_, fun p hp => ?_⟩
  · obtain ⟨v, b, r⟩ := k1.vars x d hx
    exact ⟨v, b.ext e1, r.move fun b o hb e => ⟨e1 b o e, nm b o e hb⟩⟩
  · obtain ⟨a1, vs, l, r⟩ := k1.own p hp
    exact ⟨a1, vs, l.at fun o z => e1 _ o z, r.move fun b o hb e => ⟨e1 b o e, nm b o e hb⟩⟩
theorem Ok.lessW {c : Cx} {h : Heap} {W : List Addr} (k : Ok c h) (hs : ∀ a ∈ W, a ∈ c.W) (hv : ∀ a ∈ c.V, a ∈ W) : Ok { c with W := W } h :=
  ⟨k.gl, k.base, k.fr, hv, k.glob, k.blt, k.hh, fun a ha => k.wex a (hs a ha), fun a ha => k.wnew a (hs a ha), fun x d hx => let ⟨v, b, r⟩ := k.vars x d hx; ⟨v, b, r.less hs⟩, fun p hp => let ⟨a1, vs, l, r⟩ := k.own p hp; ⟨a1, vs, l, r.less hs⟩⟩

section
variable {c : Cx} {s0 s : Shared} {rest : List Stmt} {Q : Flow → Shared → Prop} {E : Value → Shared → Prop}

/-- a for: own i, ρ i behind i turns; a break leads where the else leads -/
theorem St.forG {target iter : Expr} {body orelse : List Stmt} {pos : Pos} {its : List D} (own : Nat → List (Addr × List D)) (ρ : Nat → List (Str × D)) (ownE : List (Addr × List D)) (ρE : List (Str × D))
    (S : Sta (c.at c.W (own 0) (ρ 0)) s0 s) (hsrc : SrcF (c.at c.W (own 0) (ρ 0)) iter target its)
    (turn : ∀ i d W s1 s2 v, its[i]? = some d → Sta (c.at W (own i) (ρ i)) s1 s2 → Rd W s2.heap v d → ∀ E, wpAny c.M c.A (PySem.assign target c.env v) (fun _ s3 => wpAny c.M c.A (execs body c.env) (fun f s4 => match f with
      | .next | .cont => Sta (c.at W (own (i + 1)) (ρ (i + 1))) s1 s4
      | .brk => Sta (c.at W ownE ρE) s1 s4
      | .ret _ => False) E s3) E s2)
    (els : ∀ W s1 s2, Sta (c.at W (own its.length) (ρ its.length)) s1 s2 → ∀ E, Run (c.at W (own its.length) (ρ its.length)) orelse (fun f s4 => f = .next ∧ Sta (c.at W ownE ρE) s1 s4) E s2)
    (q : ∀ s', Sta (c.at c.W ownE ρE) s0 s' → Run (c.at c.W ownE ρE) rest Q E s')
    (hs : ∀ x, foldedSetIterable iter c.env x = pure x := by intro _; rfl) :
    Run c (.For target iter body orelse pos :: rest) Q E s := by
  refine wpAny_execs_cons (wpAny_For (hsrc s S.ok E _ ?_) hs)
  intro I fp wr St s₁ s₂ kp₁ kp₂ P hst
  have S₁ := S.quiet kp₁
  have S₂ := S₁.quiet kp₂
  have hvw : ∀ a ∈ c.V, a ∈ c.W := S.ok.vw
  have ok₂ : Ok (c.at (wr ++ c.W) (own 0) (ρ 0)) s₂.heap := S₂.ok.moreW s₁.heap kp₂.ext S₁.ok P.new (P.ex _ _ hst)
  have T₂ : Sta (c.at (wr ++ c.W) (own 0) (ρ 0)) s₁ s₂ := ⟨ok₂, kp₂.same, .ofExt kp₂.ext⟩
  have hwr : ∀ b ∈ wr, b ∉ c.V := fun b hb z => P.off b (P.sub b hb) (hvw b z)
  have fin : ∀ (ow : List (Addr × List D)) (ρ' : List (Str × D)) (s' : Shared), Sta (c.at (wr ++ c.W) ow ρ') s₁ s' → Sta (c.at c.W ow ρ') s0 s' := fun ow ρ' s' T => by
    refine ⟨T.ok.lessW (fun a ha => List.mem_append_right _ ha) hvw, ?_, S₁.keep.trans T.keep⟩
    obtain ⟨h2, t2, e2⟩ := S₁.same
    obtain ⟨h3, t3, e3⟩ := T.same
    exact ⟨h3, t3, by rw [e3, e2]⟩
  refine codeAny_forLoop_any
    (fun n s' => ∃ i, i ≤ its.length ∧ n = its.length + 1 - i ∧ St i s'.heap ∧ Sta (c.at (wr ++ c.W) (own i) (ρ i)) s₁ s') ?_ (its.length + 1) ⟨0, Nat.zero_le _, rfl, hst, T₂⟩
  rintro n s' ⟨i, hi, rfl, st, T⟩
  by_cases hlt : i < its.length
  · obtain ⟨d, hd⟩ : ∃ d, its[i]? = some d := ⟨its[i], by simp [hlt]⟩
    have hx : ExtW (wr ++ c.W) s₁.heap s'.heap := fun b o hb e => T.keep b o (fun z => hb (List.mem_append_right _ (hvw b z))) e
    refine wpAny_mono (P.item i d s' (fun v s₃ => ∃ h' tk, s₃ = { s' with heap := h', toks := tk } ∧ St (i + 1) h' ∧ (∀ b o, b ∉ wr → s'.heap.get? b = some o → h'.get? b = some o) ∧ Rd (wr ++ c.W) h' v d) _ hd st (fun a ha => T.ok.wex a (List.mem_append_right _ ha)) hx fun v h' tk st' hk r => ⟨h', tk, rfl, st', hk, r⟩) (fun r s₃ hr => ?_) fun _ _ e => e
    cases r with
    | none => exact hr.elim
    | some v =>
      refine wpAny_mono hr (fun _ s₄ h₄ => ?_) fun _ _ e => e
      obtain ⟨h', tk, rfl, st', hk, r⟩ := h₄
      have T' : Sta (c.at (wr ++ c.W) (own i) (ρ i)) s₁ { s' with heap := h', toks := tk } := T.iter (fun b hb => List.mem_append_left _ hb) hwr P.new hk (P.ex _ _ st')
      refine wpAny_mono (turn i d (wr ++ c.W) _ _ v hd (Sta.refl T'.ok) r _) (fun _ s₅ h₅ => wpAny_mono h₅ (fun f s₆ h₆ => ?_) fun _ _ e => e) fun _ _ e => e
      have stay : ExtW c.V h' s₆.heap → St (i + 1) s₆.heap := fun k => P.frame _ _ _ st' fun b hb o e => k b o (fun z => P.off b hb (hvw b z)) e
      cases f with
      | next => exact ⟨its.length + 1 - (i + 1), by omega, i + 1, hlt, rfl, stay h₆.keep, T'.trans h₆ rfl⟩
      | cont => exact ⟨its.length + 1 - (i + 1), by omega, i + 1, hlt, rfl, stay h₆.keep, T'.trans h₆ rfl⟩
      | brk => exact q _ (fin _ _ _ (T'.trans h₆ rfl))
      | ret v => exact h₆.elim
  · have hin : i = its.length := by omega
    subst hin
    refine P.done s' _ _ st fun h' tk hk => ?_
    have T' : Sta (c.at c.W (own its.length) (ρ its.length)) s₁ { s' with heap := h', toks := tk } := Sta.iterDone (c := c.at c.W (own its.length) (ρ its.length)) T hvw (fun b hb z => P.off b (P.sub b hb) z) P.new hk
    refine wpAny_mono (els c.W _ _ T' _) (fun f s₃ h₃ => ?_) fun _ _ e => e
    obtain ⟨rfl, T₃⟩ := h₃
    refine q _ ⟨T₃.ok, ?_, S₁.keep.trans T₃.keep⟩
    obtain ⟨h2, t2, e2⟩ := S₁.same
    obtain ⟨h3, t3, e3⟩ := T₃.same
    exact ⟨h3, t3, by rw [e3, e2]⟩

/-- a for over names, without break or else -/
theorem St.for {x : Str} {px : Pos} {iter : Expr} {body : List Stmt} {pos : Pos} {its : List D} (own : Nat → List (Addr × List D)) (ρ : Nat → List (Str × D))
    (S : Sta (c.at c.W (own 0) (ρ 0)) s0 s) (hsrc : Src (c.at c.W (own 0) (ρ 0)) iter its) (hx : Storable c.env x)
    (turn : ∀ i d W s1 s2, its[i]? = some d → Sta ((c.at W (own i) (ρ i)).set x d) s1 s2 → ∀ E, Run ((c.at W (own i) (ρ i)).set x d) body (fun f s4 => f = .next ∧ Sta (c.at W (own (i + 1)) (ρ (i + 1))) s1 s4) E s2)
    (q : ∀ s', Sta (c.at c.W (own its.length) (ρ its.length)) s0 s' → Run (c.at c.W (own its.length) (ρ its.length)) rest Q E s')
    (hs : ∀ x, foldedSetIterable iter c.env x = pure x := by intro _; rfl) :
    Run c (.For (.Name x px) iter body [] pos :: rest) Q E s := by
  refine St.forG own ρ (own its.length) (ρ its.length) S (.ofSrc hsrc) ?_ (fun W s1 s2 T E => St.nil (c := c) ⟨rfl, T⟩) q hs
  intro i d W s1 s2 v hd T r E
  refine wpAny_assign_Name (Sta.store (c := c.at W (own i) (ρ i)) T hx r fun s' T' => ?_)
  refine wpAny_mono (turn i d W s1 s' hd T' E) (fun f s4 h4 => ?_) fun _ _ e => e
  obtain ⟨rfl, T4⟩ := h4
  exact T4

/-- a while: n turns -/
theorem St.while {test : Expr} {body : List Stmt} {pos : Pos} (n : Nat) (own : Nat → List (Addr × List D)) (ρ : Nat → List (Str × D))
    (S : Sta (c.at c.W (own 0) (ρ 0)) s0 s) (tst : ∀ i, i ≤ n → Tv (c.at c.W (own i) (ρ i)) test (decide (i < n)))
    (turn : ∀ i s1 s2, i < n → Sta (c.at c.W (own i) (ρ i)) s1 s2 → ∀ E, Run (c.at c.W (own i) (ρ i)) body (fun f s4 => f = .next ∧ Sta (c.at c.W (own (i + 1)) (ρ (i + 1))) s1 s4) E s2)
    (q : ∀ s', Sta (c.at c.W (own n) (ρ n)) s0 s' → Run (c.at c.W (own n) (ρ n)) rest Q E s') :
    Run c (.While test body [] pos :: rest) Q E s := by
  refine wpAny_execs_cons (wpAny_While ?_)
  refine codeAny_whileLoop (fun k s' => ∃ i, i ≤ n ∧ k = n + 1 - i ∧ Sta (c.at c.W (own i) (ρ i)) s0 s') ?_ (n + 1) ⟨0, Nat.zero_le _, rfl, S⟩
  rintro k s' ⟨i, hi, rfl, T⟩
  refine (tst i hi).step T.ok fun s₁ e₁ k₁ => ?_
  have T₁ := T.quiet e₁
  by_cases hlt : i < n
  · simp only [hlt, decide_true, if_true]
    refine wpAny_mono (turn i _ _ hlt T₁ _) (fun f s4 h4 => ?_) fun _ _ e => e
    obtain ⟨rfl, T4⟩ := h4
    exact ⟨n + 1 - (i + 1), by omega, i + 1, hlt, rfl, T4⟩
  · have hin : i = n := by omega
    subst hin
    simp only [hlt, decide_false, Bool.false_eq_true, if_false]
    exact wpAny_execs_nil (q _ T₁)
end

end Mine

end -- OyLoop

section -- OyCall
open PySem PySem.W PySem.Calls PyProof.Rows
set_option Elab.async false
namespace Mine

theorem bindL_notin {k : Str → Option NameKind} {x : Str} : ∀ {binds : List (Str × Value)} {m : Str → Option Value}, x ∉ binds.map (·.1) → bindL k binds m x = m x
  | [], _, _ => rfl
  | (n, v) :: r, m, h => by
    simp only [List.map_cons, List.mem_cons, not_or] at h
    unfold bindL
    rw [bindL_notin h.2]
    split
    · exact if_neg h.1
    · rfl
theorem bindC_notin {k : Str → Option NameKind} {x : Str} : ∀ {binds : List (Str × Value)} {m : Str → Option Value}, x ∉ binds.map (·.1) → bindC k binds m x = m x
  | [], _, _ => rfl
  | (n, v) :: r, m, h => by
    simp only [List.map_cons, List.mem_cons, not_or] at h
    unfold bindC
    rw [bindC_notin h.2]
    split
    · rfl
    · exact if_neg h.1
theorem bindL_lookup {k : Str → Option NameKind} {x : Str} {v : Value} (hk : k x = some .local) : ∀ {binds : List (Str × Value)} {m : Str → Option Value}, (binds.map (·.1)).Nodup → binds.lookup x = some v → bindL k binds m x = some v
  | (n, u) :: r, m, hn, h => by
    simp only [List.map_cons, List.nodup_cons] at hn
    rw [List.lookup_cons] at h
    unfold bindL
    cases hx : x == n with
    | true =>
      rw [hx] at h; cases h
      have : x = n := beq_iff_eq.mp hx
      subst this
      rw [bindL_notin hn.1, if_pos hk, if_pos rfl]
    | false =>
      rw [hx] at h
      exact bindL_lookup hk hn.2 h
theorem bindC_lookup {k : Str → Option NameKind} {x : Str} {v : Value} (hk : k x = some .cell) : ∀ {binds : List (Str × Value)} {m : Str → Option Value}, (binds.map (·.1)).Nodup → binds.lookup x = some v → bindC k binds m x = some v
  | (n, u) :: r, m, hn, h => by
    simp only [List.map_cons, List.nodup_cons] at hn
    rw [List.lookup_cons] at h
    unfold bindC
    cases hx : x == n with
    | true =>
      rw [hx] at h; cases h
      have : x = n := beq_iff_eq.mp hx
      subst this
      rw [bindC_notin hn.1, if_neg (by rw [hk]; decide), if_pos rfl]
    | false =>
      rw [hx] at h
      exact bindC_lookup hk hn.2 h

/-- names bound to values that read as data -/
theorem binds_read {W : List Addr} {h : Heap} {x : Str} {d : D} : ∀ {names : List Str} {vs : List Value} {ds : List D}, Rds W h vs ds → (names.zip ds).lookup x = some d → ∃ v, (names.zip vs).lookup x = some v ∧ Rd W h v d
  | [], _, _, _, e => by simp at e
  | _ :: _, _, _, .nil, e => by simp at e
  | n :: r, _, _, .cons rv rs, e => by
    simp only [List.zip_cons_cons, List.lookup_cons] at e ⊢
    cases hx : x == n with
    | true => rw [hx] at e; cases e; exact ⟨_, rfl, rv⟩
    | false => rw [hx] at e; exact binds_read rs e

/-- a def's activation -/
noncomputable def fnCx (c : Cx) (fd : FuncData) (f L : Addr) (W V : List Addr) (ρ : List (Str × D)) : Cx :=
  { c with A := c.A.deeper (callEnvC fd L f), env := callEnvC fd L f, W := W, V := V, own := [], ρ := ρ }

/-- what a call of a function yields -/
noncomputable def Cl (c : Cx) (f : Value) (ds : List D) (d : D) : Prop := ∀ vs s, Ok c s.heap → Rds c.W s.heap vs ds → Qt c (call f vs) d s

theorem fn_codeT {c : Cx} {f : Addr} {o : Obj} {fd : FuncData} {body : List Stmt} {names : List Str} {args : Args} {vs : List Value} {ds : List D} {d : D} {s : Shared} {E : Value → Shared → Prop}
    (kgl : Gl c.K c.mg c.mb c.H) (kbase : Ext c.H s.heap) (khh : c.A.handled = none) (kwex : ∀ a ∈ c.W, ∃ o, s.heap.get? a = some o) (kwnew : ∀ a ∈ c.W, c.H.get? a = none) (r : Rds c.W s.heap vs ds) (hK : c.K.lookup f = some o) (hdata : o.data = .func fd) (hcd : codeIn c.K fd.code fd.qualname = true) (hbody : fd.body = .stmts body) (hclo : fd.closure = [])
    (hgl : fd.globals = mainGlobals) (hbl : fd.builtins = builtinsNs) (hlen : names.length = vs.length) (hbind : BindsTo s fd args (names.zip vs)) (hnd : names.Nodup)
    (hkind : ∀ n, ∀ x ∈ names, fd.scope.names.lookup x = some .local ∨ (fd.scope.names.lookup x = some .cell ∧ ((cellsFrom n fd.scope.names []).lookup x).isSome = true))
    (hco : fd.scope.isCoroutine = false) (hgen : fd.scope.isGenerator = false) (hkf : fd.scope.kind = .function) (hroom : c.A.depth < recursionLimit)
    (h : ∀ L W V s1, (∀ a ∈ c.W, a ∈ W) → (∀ a ∈ V, s.heap.get? a = none) → Sta (fnCx c fd f L W V (names.zip ds)) s s1 → ∀ E, wpAny c.M (c.A.deeper (callEnvC fd L f)) (execs body (callEnvC fd L f)) (fun fl s' => ∃ v, fl = .ret v ∧ Kp s s' ∧ Rd W s'.heap v d) E s1) :
    wpAny c.M c.A (runValue (.call (.ref f) args)) (fun v s' => Kp s s' ∧ Rd c.W s'.heap v d) E s := by
  have kglh : Gl c.K c.mg c.mb s.heap := kgl.ext kbase
  have ho : s.heap.get? f = some o := kglh.K _ _ hK
  refine wpAny_runValue (codeAny_call_function hroom ho hdata hco hgen hbody (codeRec_of kglh.K hcd) ?_)
  rw [hclo]
  refine hbind _ _ _ _ (wpAny_newFunctionEnv_cells hkf ?_ fun env he s' x => ?_)
  · intro y hy
    exact hkind _ y.1 (List.of_mem_zip hy).1
  subst he
  refine ⟨kglh.nolimit.keeps x.toInCall.keep, codeAny_func ?_⟩
  have hkeep : Ext s.heap s'.heap := x.toInCall.keep
  have hmem : ∀ y a, (cellsFrom (s.heap.objs.size + 1) fd.scope.names []).lookup y = some a → s.heap.objs.size < a := fun y a hy => x.above y a (mem_of_lookup hy)
  let V : List Addr := s.heap.objs.size :: ((cellsFrom (s.heap.objs.size + 1) fd.scope.names []).map (·.2)).filter fun a => (s'.heap.get? a).isSome
  have hVge : ∀ a ∈ V, s.heap.objs.size ≤ a := fun a ha => by
    rcases List.mem_cons.mp ha with rfl | ha
    · exact Nat.le_refl _
    · obtain ⟨p, hp, rfl⟩ := List.mem_map.mp (List.mem_filter.mp ha).1
      exact Nat.le_of_lt (x.above p.1 p.2 hp)
  have hVn : ∀ a ∈ V, s.heap.get? a = none := fun a ha => get_none_of_ge (hVge a ha)
  have hns : (names.zip vs).map (·.1) = names := by rw [List.map_fst_zip (by omega)]
  have S : Sta (fnCx c fd f s.heap.objs.size (V ++ c.W) V (names.zip ds)) s s' := by
    refine ⟨⟨kgl, fun b o z => hkeep b o (kbase b o z), ⟨hkf, ⟨_, x.toInCall.ns⟩, List.mem_cons_self, fun y a hy => ?_, fun y z a hy hz => ?_⟩, fun a ha => List.mem_append_left _ ha, hgl, hbl, khh, fun a ha => ?_, fun a ha => ?_, fun y dy hy => ?_, fun p hp => (nomatch hp)⟩, ?_, .ofExt hkeep⟩
    · refine ⟨List.mem_cons_of_mem _ (List.mem_filter.mpr ⟨List.mem_map.mpr ⟨(y, a), mem_of_lookup hy, rfl⟩, ?_⟩), _, x.cell y a hy⟩
      obtain ⟨o, ho, _⟩ := x.cell y a hy
      rw [ho]; rfl
    · exact name_of_addr x.apart (mem_of_lookup hy) (mem_of_lookup hz)
    · rcases List.mem_append.mp ha with ha | ha
      · rcases List.mem_cons.mp ha with rfl | ha
        · obtain ⟨o, _, _, ho, _⟩ := x.toInCall.ns; exact ⟨o, ho⟩
        · exact Option.isSome_iff_exists.mp (List.mem_filter.mp ha).2
      · obtain ⟨o, ho⟩ := kwex a ha; exact ⟨o, hkeep a o ho⟩
    · rcases List.mem_append.mp ha with ha | ha
      · exact none_of_ext kbase (hVn a ha)
      · exact kwnew a ha
    · obtain ⟨v, hv, rv⟩ := binds_read r hy
      have hyn : y ∈ names := by
        have := mem_of_lookup hv
        exact (List.of_mem_zip this).1
      refine ⟨v, ?_, rv.move fun b o hb z => ⟨hkeep b o z, fun hm => ?_⟩⟩
      · rcases hkind (s.heap.objs.size + 1) y hyn with hl | ⟨hl, hc⟩
        · exact .inl ⟨hl, _, x.toInCall.ns, bindL_lookup hl (by rw [hns]; exact hnd) hv⟩
        · obtain ⟨a, ha⟩ := Option.isSome_iff_exists.mp hc
          refine .inr ⟨.inl hl, a, ha, ?_⟩
          have := x.cell y a ha
          rwa [bindC_lookup hl (by rw [hns]; exact hnd) hv] at this
      · rcases List.mem_append.mp hm with hm | hm
        · exact absurd (Heap.lt_size z) (Nat.not_lt.mpr (hVge b hm))
        · exact hb hm
    · obtain ⟨h1, t1, e1⟩ := x.toInCall.same
      exact ⟨h1, t1, e1⟩
  refine wpAny_mono (h _ _ V s' (fun a ha => List.mem_append_right _ ha) hVn S _) (fun fl s₂ hp => ?_) fun _ _ e => e
  obtain ⟨v, rfl, kp, rv⟩ := hp
  exact ⟨kp, rv.less fun a ha => List.mem_append_right _ ha⟩

theorem fn_code {c : Cx} {f : Addr} {o : Obj} {fd : FuncData} {body : List Stmt} {names : List Str} {args : Args} {vs : List Value} {ds : List D} {d : D} {s : Shared} {E : Value → Shared → Prop}
    (k : Ok c s.heap) (r : Rds c.W s.heap vs ds) (hK : c.K.lookup f = some o) (hdata : o.data = .func fd) (hcd : codeIn c.K fd.code fd.qualname = true) (hbody : fd.body = .stmts body) (hclo : fd.closure = [])
    (hgl : fd.globals = mainGlobals) (hbl : fd.builtins = builtinsNs) (hlen : names.length = vs.length) (hbind : BindsTo s fd args (names.zip vs)) (hnd : names.Nodup)
    (hkind : ∀ n, ∀ x ∈ names, fd.scope.names.lookup x = some .local ∨ (fd.scope.names.lookup x = some .cell ∧ ((cellsFrom n fd.scope.names []).lookup x).isSome = true))
    (hco : fd.scope.isCoroutine = false) (hgen : fd.scope.isGenerator = false) (hkf : fd.scope.kind = .function) (hroom : c.A.depth < recursionLimit)
    (h : ∀ L W V s1, (∀ a ∈ c.W, a ∈ W) → (∀ a ∈ V, s.heap.get? a = none) → Sta (fnCx c fd f L W V (names.zip ds)) s s1 → ∀ E, wpAny c.M (c.A.deeper (callEnvC fd L f)) (execs body (callEnvC fd L f)) (fun fl s' => ∃ v, fl = .ret v ∧ Kp s s' ∧ Rd W s'.heap v d) E s1) :
    wpAny c.M c.A (runValue (.call (.ref f) args)) (fun v s' => Kp s s' ∧ Rd c.W s'.heap v d) E s :=
  fn_codeT k.gl k.base k.hh k.wex k.wnew r hK hdata hcd hbody hclo hgl hbl hlen hbind hnd hkind hco hgen hkf hroom h

theorem Run.of {c c' : Cx} {b : List Stmt} {Q : Flow → Shared → Prop} {E : Value → Shared → Prop} {s : Shared} (h : Run c' b Q E s) (hp : c'.prog = c.prog := by rfl) (hw : c'.w = c.w := by rfl) (hA : c'.A = c.A := by rfl) (he : c'.env = c.env := by rfl) : Run c b Q E s := by
  unfold Run Cx.M at *
  rw [hp, hw, hA, he] at h
  exact h

/-- a call of a def of the text, its arguments by place -/
theorem Cl.fn {c : Cx} {f : Addr} {o : Obj} {fd : FuncData} {body : List Stmt} {names : List Str} {ds : List D} {d : D}
    (hK : c.K.lookup f = some o) (hdata : o.data = .func fd) (hcd : codeIn c.K fd.code fd.qualname = true) (hbody : fd.body = .stmts body) (hclo : fd.closure = [])
    (hgl : fd.globals = mainGlobals) (hbl : fd.builtins = builtinsNs) (hlen : names.length = ds.length) (hbind : ∀ vs : List Value, vs.length = names.length → bindArgs fd ⟨vs, []⟩ = pure (names.zip vs)) (hnd : names.Nodup)
    (hkind : ∀ n, ∀ x ∈ names, fd.scope.names.lookup x = some .local ∨ (fd.scope.names.lookup x = some .cell ∧ ((cellsFrom n fd.scope.names []).lookup x).isSome = true))
    (hco : fd.scope.isCoroutine = false) (hgen : fd.scope.isGenerator = false) (hkf : fd.scope.kind = .function) (hroom : c.A.depth < recursionLimit)
    (h : ∀ L W V s s1, (∀ a ∈ V, s.heap.get? a = none) → Sta (fnCx c fd f L W V (names.zip ds)) s s1 → ∀ E, Run (fnCx c fd f L W V (names.zip ds)) body (fun fl s' => ∃ v, fl = .ret v ∧ Kp s s' ∧ Rd W s'.heap v d) E s1) :
    Cl c (.ref f) ds d := by
  intro vs s k r E
  exact fn_code k r hK hdata hcd hbody hclo hgl hbl (hlen.trans r.length.symm) (BindsTo.of_eq (hbind vs (r.length.trans hlen.symm))) hnd hkind hco hgen hkf hroom fun L W V s1 _ hV S E => h L W V s s1 hV S E

theorem St.retFn {c : Cx} {s0 s : Shared} {e : Expr} {pos : Pos} {d : D} {rest : List Stmt} {E : Value → Shared → Prop} {W : List Addr} (hV : ∀ a ∈ c.V, s0.heap.get? a = none) (hW : ∀ a ∈ W, a ∈ c.W) (S : Sta c s0 s) (he : Ev c e d) :
    Run c (.Return (some e) pos :: rest) (fun fl s' => ∃ v, fl = .ret v ∧ Kp s0 s' ∧ Rd W s'.heap v d) E s :=
  St.ret S he fun v s' S' r => ⟨v, rfl, by
    obtain ⟨h, t, e⟩ := S'.same
    refine ⟨h, t, e, fun b o z => ?_⟩
    have := S'.keep b o (fun hm => by rw [hV b hm] at z; cases z) z
    rw [e] at this; exact this, r.less hW⟩

section
variable {c : Cx} {x : Str} {np pos : Pos} {args : List Expr} {ds : List D} {d : D}
/-- a call by name -/
theorem Ev.callFn {f : Addr} {o : Obj} {fd : FuncData} {e : Expr} {rest : List Expr} (hf : Ev c (.Name x np) (.obj (.ref f))) (hK : c.K.lookup f = some o) (hdata : o.data = .func fd) (ha : EvL c (e :: rest) ds) (hc : Cl c (.ref f) ds d)
    (he : starEach (e :: rest) c.env = (false, eval e c.env) :: starEach rest c.env := by rfl) : Ev c (.Call (.Name x np) (e :: rest) [] pos) d := by
  intro s k E
  refine wpAny_Call_NameR (hf.step k fun v s₁ e₁ k₁ r => ?_)
  obtain rfl := r.objI
  refine callWith_def_at (h' := s₁.heap) (k₁.glh.K _ _ hK) hdata (ha.step k₁ fun vs s₂ e₂ k₂ rs => ⟨k₂.glh.K _ _ hK, ?_⟩) he
  exact wpAny_mono (hc vs s₂ k₂ rs E) (fun v s' x => ⟨e₁.trans (e₂.trans x.1), x.2⟩) fun _ _ e => e
theorem Ev.callB {id : String} {e : Expr} {rest : List Expr} (hf : Ev c (.Name x np) (.obj (.builtin id))) (ha : EvL c (e :: rest) ds) (hc : Cl c (.builtin id) ds d)
    (he : starEach (e :: rest) c.env = (false, eval e c.env) :: starEach rest c.env := by rfl)
    (hp : ((backTo pos (starEach rest c.env)).any fun x => x.1) = false := by rfl) : Ev c (.Call (.Name x np) (e :: rest) [] pos) d := by
  intro s k E
  refine wpAny_Call_NameR (hf.step k fun v s₁ e₁ k₁ r => ?_)
  obtain rfl := r.objI
  refine PyProof.Rows.callWith_builtin1 (ha.step k₁ fun vs s₂ e₂ k₂ rs => ?_) he hp
  exact wpAny_mono (hc vs s₂ k₂ rs E) (fun v s' x => ⟨e₁.trans (e₂.trans x.1), x.2⟩) fun _ _ e => e
theorem Ev.callT {T : String} {e : Expr} {rest : List Expr} (hf : Ev c (.Name x np) (.obj (.type T))) (ha : EvL c (e :: rest) ds) (hc : Cl c (.type T) ds d)
    (he : starEach (e :: rest) c.env = (false, eval e c.env) :: starEach rest c.env := by rfl)
    (hp : ((backTo pos (starEach rest c.env)).any fun x => x.1) = false := by rfl) : Ev c (.Call (.Name x np) (e :: rest) [] pos) d := by
  intro s k E
  refine wpAny_Call_NameR (hf.step k fun v s₁ e₁ k₁ r => ?_)
  obtain rfl := r.objI
  refine PyProof.Rows.callWith_type1 (ha.step k₁ fun vs s₂ e₂ k₂ rs => ?_) he hp
  exact wpAny_mono (hc vs s₂ k₂ rs E) (fun v s' x => ⟨e₁.trans (e₂.trans x.1), x.2⟩) fun _ _ e => e
end

end Mine

end -- OyCall

section -- OyOwn
open PySem PySem.W PySem.Calls PyProof.Rows
set_option Elab.async false
namespace Mine

noncomputable def Cx.own1 (c : Cx) (X : List Addr) (a : Addr) (ds : List D) : Cx := { c with W := X ++ (a :: c.W), V := a :: c.V, own := (a, ds) :: c.own }

/-- a new list becomes the frame's own -/
theorem Sta.newOwn {c : Cx} {s0 s : Shared} {X : List Addr} {a : Addr} {vs : List Value} {ds : List D} {h : Heap} {tk : Nat} (S : Sta c s0 s) (e : Ext s.heap h) (ha : s.heap.get? a = none) (hX : ∀ b ∈ X, s.heap.get? b = none) (xX : ∀ b ∈ X, ∃ o, h.get? b = some o)
    (hl : h.PlainList a vs.toArray) (rs : Rds (X ++ (a :: c.W)) h vs ds) : Sta (c.own1 X a ds) s0 { s with heap := h, toks := tk } := by
  have nm : ∀ b o, b ∉ c.W → s.heap.get? b = some o → b ∉ X ++ (a :: c.W) := fun b o hb z hm => by
    rcases List.mem_append.mp hm with hm | hm
    · rw [hX b hm] at z; cases z
    · rcases List.mem_cons.mp hm with rfl | hm
      · rw [ha] at z; cases z
      · exact hb hm
  obtain ⟨h1, t1, e1⟩ := S.same
  refine ⟨⟨S.ok.gl, fun b o z => e b o (S.ok.base b o z), (S.ok.fr.ext e).more fun b hb => List.mem_cons_of_mem _ hb, fun b hb => ?_, S.ok.glob, S.ok.blt, S.ok.hh, fun b hb => ?_, fun b hb => ?_, fun x d hx => ?_, fun p hp => ?_⟩, ⟨h, tk, by rw [e1]⟩, fun b o hb z => e b o (S.keep b o (fun m => hb (List.mem_cons_of_mem _ m)) z)⟩
  · rcases List.mem_cons.mp hb with rfl | hb
    · exact List.mem_append_right _ List.mem_cons_self
    · exact List.mem_append_right _ (List.mem_cons_of_mem _ (S.ok.vw b hb))
  · rcases List.mem_append.mp hb with hb | hb
    · exact xX b hb
    · rcases List.mem_cons.mp hb with rfl | hb
      · obtain ⟨n, ho⟩ := hl; exact ⟨_, ho⟩
      · obtain ⟨o, ho⟩ := S.ok.wex b hb; exact ⟨o, e b o ho⟩
  · rcases List.mem_append.mp hb with hb | hb
    · exact none_of_ext S.ok.base (hX b hb)
    · rcases List.mem_cons.mp hb with rfl | hb
      · exact none_of_ext S.ok.base ha
      · exact S.ok.wnew b hb
  · obtain ⟨v, b, r⟩ := S.ok.vars x d hx
    exact ⟨v, b.ext e, r.move fun b o hb z => ⟨e b o z, nm b o hb z⟩⟩
  · rcases List.mem_cons.mp hp with rfl | hp
    · exact ⟨List.mem_cons_self, vs, hl, rs⟩
    · obtain ⟨a1, ws, l, r⟩ := S.ok.own p hp
      exact ⟨List.mem_cons_of_mem _ a1, ws, l.at fun o z => e _ o z, r.move fun b o hb z => ⟨e b o z, nm b o hb z⟩⟩

/-- an expression that makes a new list -/
noncomputable def Fv (c : Cx) (e : Expr) (ds : List D) : Prop := ∀ s, Ok c s.heap → ∀ E, wpAny c.M c.A (eval e c.env) (fun v s' => ∃ a, ∃ vs : List Value, v = .ref a ∧ Kp s s' ∧ s.heap.get? a = none ∧ s'.heap.PlainList a vs.toArray ∧ Rds (a :: c.W) s'.heap vs ds) E s

theorem Fv.nil {c : Cx} {pos : Pos} : Fv c (.List [] pos) [] := fun s k E =>
  wpAny_List_spliced (spliced_none ⟨Nat.zero_le _, s.heap.objs.size, [], rfl, .grow _ _ _ (Ext.push _ _), get_none_of_ge (Nat.le_refl _), ⟨_, Heap.get?_push_size _ rfl⟩, .nil⟩)

/-- fewer facts -/
noncomputable def Sub (ρ' ρ : List (Str × D)) : Prop := ∀ p ∈ ρ', ρ.lookup p.1 = some p.2
theorem Sub.nil {ρ : List (Str × D)} : Sub [] ρ := fun _ h => nomatch h
theorem Sub.cons {ρ ρ' : List (Str × D)} {x : Str} {d : D} (h : ρ.lookup x = some d) (r : Sub ρ' ρ) : Sub ((x, d) :: ρ') ρ := fun p hp => by
  rcases List.mem_cons.mp hp with rfl | hp
  · exact h
  · exact r p hp
theorem Sub.at {ρ ρ' : List (Str × D)} (h : Sub ρ' ρ) {x : Str} {d : D} (e : ρ'.lookup x = some d) : ρ.lookup x = some d := h (x, d) (mem_of_lookup e)
theorem Sta.weak {c : Cx} {s0 s : Shared} {ρ' : List (Str × D)} (S : Sta c s0 s) (h : Sub ρ' c.ρ) : Sta { c with ρ := ρ' } s0 s :=
  ⟨S.ok.rho ρ' fun _ _ e => S.ok.vars _ _ (h.at e), S.same, S.keep⟩

section
variable {c : Cx} {s0 s : Shared} {rest : List Stmt} {Q : Flow → Shared → Prop} {E : Value → Shared → Prop}

theorem St.assignOwn {x : Str} {p pos : Pos} {e : Expr} {ds : List D} (S : Sta c s0 s) (he : Fv c e ds) (hx : Storable c.env x)
    (q : ∀ a s', s.heap.get? a = none → Sta ((c.own1 [] a ds).set x (.obj (.ref a))) s0 s' → Run ((c.own1 [] a ds).set x (.obj (.ref a))) rest Q E s')
    (hs : swapsWith e (some (.Name x p)) pos.line c.env = pure false := by rfl) : Run c (.Assign [.Name x p] e pos :: rest) Q E s := by
  refine wpAny_execs_cons (wpAny_Assign_Name (wpAny_mono (he s S.ok E) (fun v s₁ h => ?_) fun _ _ e => e) hs)
  obtain ⟨a, vs, rfl, kp, ha, hl, rs⟩ := h
  obtain ⟨h1, t1, rfl, e1⟩ := kp
  have S₁ := S.newOwn (X := []) (tk := t1) e1 ha (fun _ h => nomatch h) (fun _ h => nomatch h) hl rs
  exact S₁.store hx (.obj _) fun s' S' => q a s' ha S'

/-- an own list changes -/
theorem Sta.setOwn {a : Addr} {ds ds' : List D} {vs : List Value} {post : List (Addr × List D)} {h' : Heap} (S : Sta c s0 s) (ho : c.own = (a, ds) :: post) (hd : ∀ p ∈ post, p.1 ≠ a) (hl : h'.PlainList a vs.toArray) (hs : Heap.SameBut a s.heap h') (rs : Rds c.W s.heap vs ds') {tk : Nat} :
    Sta { c with own := (a, ds') :: post } s0 { s with heap := h', toks := tk } := by
  obtain ⟨av, ws, l, r⟩ := S.ok.own (a, ds) (by rw [ho]; exact List.mem_cons_self)
  have av : a ∈ c.V := av
  have l : s.heap.PlainList a ws.toArray := l
  have ext : ExtW c.V s.heap h' := fun b o hb z => hs.extBut b o (fun q => hb (q ▸ av)) z
  have extW : ExtW c.W s.heap h' := fun b o hb z => ext b o (fun q => hb (S.ok.vw b q)) z
  obtain ⟨nl, nc⟩ := S.ok.fr.notList l
  have e : ∀ b o, b ≠ a → s.heap.get? b = some o → h'.get? b = some o := fun b o hb z => hs.extBut b o hb z
  obtain ⟨h1, t1, e1⟩ := S.same
  refine ⟨⟨S.ok.gl, fun b o z => ?_, S.ok.fr.but e nl nc, S.ok.vw, S.ok.glob, S.ok.blt, S.ok.hh, fun b hb => ?_, S.ok.wnew, fun x d hx => ?_, fun p hp => ?_⟩, ⟨h', tk, by rw [e1]⟩, S.keep.trans ext⟩
  · have z' : c.H.get? b = some o := z
    exact extW b o (fun hm => by rw [S.ok.wnew b hm] at z'; cases z') (S.ok.base b o z)
  · by_cases q : b = a
    · subst q; obtain ⟨n, ho⟩ := hl; exact ⟨_, ho⟩
    · obtain ⟨o, ho⟩ := S.ok.wex b hb; exact ⟨o, e b o q ho⟩
  · obtain ⟨v, b, r⟩ := S.ok.vars x d hx
    exact ⟨v, b.but e nl nc, r.mono extW⟩
  · rcases List.mem_cons.mp hp with rfl | hp
    · exact ⟨av, vs, hl, rs.mono extW⟩
    · obtain ⟨a1, us, l', r'⟩ := S.ok.own p (by rw [ho]; exact List.mem_cons_of_mem _ hp)
      exact ⟨a1, us, l'.at fun o z => e _ o (hd p hp) z, r'.mono extW⟩

/-- a method of a built-in type, its arguments by place -/
theorem callMeth {o e : Expr} {args : List Expr} {name : Str} {apos pos : Pos} {T id : String} {R : Value → Shared → Prop} (pa : PlainAttrs T) (slot : Slot T name id) (hty : typeOf (.builtin id) = pure (.type "method_descriptor"))
    (h : wpAny c.M c.A (eval o c.env) (fun ov s₁ => s₁.TypeIs ov T ∧ (∀ a, ov = .ref a → ∃ ob, s₁.heap.get? a = some ob ∧ ob.dict = none) ∧
      wpAny c.M c.A (spliced (backTo pos (starEach (e :: args) c.env))) (fun vs s₂ => wpAny c.M c.A (call (.builtin id) ([ov] ++ vs)) R E s₂) E s₁) E s)
    (hbase : attributeBase o name c.env (eval o c.env) = eval o c.env)
    (hfew : ((backTo pos (starEach (e :: args) c.env)).all (fun x => !x.1) && (backToKw pos (keywordEach [] c.env)).all (fun x => x.1.isSome) && decide ((e :: args).length + ([] : List Keyword).length + (if ([] : List Keyword).isEmpty then 0 else 1) < 30)) = true)
    (hline : (apos.endLine == pos.line) = true) (he : starEach (e :: args) c.env = (false, eval e c.env) :: starEach args c.env) (hp : ((backTo pos (starEach args c.env)).any fun x => x.1) = false) :
    wpAny c.M c.A (eval (.Call (.Attribute o name apos) (e :: args) [] pos) c.env) R E s :=
  wpAny_Call_method hbase hfew hline pa slot hty (wpAny_mono h (fun ov s₁ x => ⟨x.1, x.2.1, PyProof.Rows.callWith_method1 x.2.2 he hp⟩) fun _ _ e => e)

theorem base_name {x n : Str} {p : Pos} {env : Env} {w : Sem Value} : attributeBase (.Name x p) n env w = w := rfl
theorem base_const {k : Const} {i : Nat} {n : Str} {p : Pos} {env : Env} {w : Sem Value} : attributeBase (.Constant k i p) n env w = w := rfl
theorem Sta.ownAt {a : Addr} {ds : List D} (S : Sta c s0 s) (hm : (a, ds) ∈ c.own) : ∃ vs : List Value, s.heap.PlainList a vs.toArray ∧ Rds c.W s.heap vs ds := let ⟨_, vs, l, r⟩ := S.ok.own _ hm; ⟨vs, l, r⟩

/-- x.append(e), x's list the frame's own -/
theorem St.append {x : Str} {xp apos pos spos : Pos} {e : Expr} {a : Addr} {ds : List D} {d : D} {post : List (Addr × List D)} (S : Sta c s0 s) (hx : c.ρ.lookup x = some (.obj (.ref a))) (ho : c.own = (a, ds) :: post) (hd : ∀ p ∈ post, p.1 ≠ a) (he : Ev c e d)
    (hsz : ds.length ≤ sizeLine) (q : ∀ s', Sta { c with own := (a, ds ++ [d]) :: post } s0 s' → Run { c with own := (a, ds ++ [d]) :: post } rest Q E s')
    (hline : (apos.endLine == pos.line) = true := by rfl) (hstar : starEach [e] c.env = [(false, eval e c.env)] := by rfl)
    (hi : interactive c.env = false := by rfl) (hxd : (x == ("__debug__" : Str)) = false := by decide) (hxc : (x == ("__classdict__" : Str)) = false := by decide)
    (hbase : attributeBase (.Name x xp) "append" c.env (eval (.Name x xp) c.env) = eval (.Name x xp) c.env := base_name) :
    Run c (.Expr (.Call (.Attribute (.Name x xp) "append" apos) [e] [] pos) spos :: rest) Q E s := by
  refine wpAny_execs_cons (wpAny_Expr ?_ hi)
  refine callMeth PySem.F.plainAttrs_list slot_list_append (by rfl) ?_ hbase ?_ hline (by rw [hstar]; rfl) rfl
  · refine (Ev.name (c := c) (pos := xp) hx hxd hxc).step S.ok fun v s₁ e₁ k₁ r => ?_
    obtain rfl := r.objI
    have S₁ := S.quiet e₁
    obtain ⟨ws, l, _⟩ := S₁.ownAt (a := a) (ds := ds) (by rw [ho]; exact List.mem_cons_self)
    refine ⟨l.isList.typeIs, fun b hb => ?_, ?_⟩
    · cases hb; obtain ⟨n, hn⟩ := l; exact ⟨_, hn, rfl⟩
    refine (EvL.cons he EvL.nil hstar).step k₁ fun vs s₂ e₂ k₂ rs => ?_
    have S₂ := S₁.quiet e₂
    obtain ⟨us, l₂, r₂⟩ := S₂.ownAt (a := a) (ds := ds) (by rw [ho]; exact List.mem_cons_self)
    obtain ⟨_, rfl, rv⟩ := rs.inv1
    refine wpAny_list_append_plain l₂ (fun h' hl' hs' => ?_) (by rw [List.size_toArray, r₂.length]; exact hsz)
    exact q _ (S₂.setOwn (vs := us ++ [_]) ho hd (by rw [← List.push_toArray]; exact hl') hs' (r₂.append (.one rv)))
  · rw [hstar]; rfl
end

end Mine

end -- OyOwn

section -- OySrc
open PySem PySem.W PySem.Calls PyProof.Rows
set_option Elab.async false
namespace Mine

/-- a, a + 1, .. -/
noncomputable def rng (a : Int) (n : Nat) : List Int := (List.range n).map fun i : Nat => a + (i : Int)
theorem rng_get {a : Int} {n i : Nat} (h : i < n) : (dInts (rng a n))[i]? = some (.int (a + i)) := by simp [rng, h]
theorem rng_length {a : Int} {n : Nat} : (dInts (rng a n)).length = n := by simp [rng]

section
variable {c : Cx} {x : Str} {np pos : Pos}
theorem src_of_range {s s₁ : Shared} {E : Value → Shared → Prop} {Q : Value → Shared → Prop} {a b : Int} {n : Nat} {r : Addr} {t u v : Tok} (k₁ : Ok c s₁.heap) (e₁ : Kp s s₁) (hr : IsRange s₁.heap r a b 1 t u v) (hsm : Builtin.Range.small a b 1 = true) (hn : Builtin.Range.rangeSize a b 1 = (n : Int))
    (q : ∀ I fp P St s₁ s', Kp s s₁ → Kp s₁ s' → Walks c.prog c.w c.A I fp [I] (dInts (rng a n)).length P St → St 0 s'.heap → (∀ b ∈ fp, b < s'.heap.objs.size) → (∀ b ∈ fp, b ∉ c.W) → s₁.heap.get? I = none → (∀ i h, St i h → ∃ o, h.get? I = some o) →
      (∀ i v, P i v → ∃ d, (dInts (rng a n))[i]? = some d ∧ Rd c.W s₁.heap v d) → Q (.ref I) s') :
    wpAny c.M c.A (pyIter (.ref r)) Q E s₁ := by
  refine wpAny_pyIter_range hr hsm ?_
  have W := (LCg.range_walks (prog := c.prog) (w := c.w) (I := s₁.heap.objs.size) k₁.hh a n).bound
  refine q s₁.heap.objs.size [s₁.heap.objs.size] _ _ s₁ _ e₁ (.grow _ _ _ (Ext.push _ _)) (by rw [rng_length]; exact W) ?_ (fun b hb => ?_) (fun b hb => ?_) (get_none_of_ge (Nat.le_refl _)) (fun i h st => ⟨_, st⟩) ?_
  · show IsRangeIter _ _ _ _ _
    rw [hn]; simpa using Heap.get?_push_size _ rfl
  · rw [List.mem_singleton.mp hb]
    show s₁.heap.objs.size < (s₁.heap.push _).objs.size
    rw [Heap.size_push]; exact Nat.lt_succ_self _
  · rw [List.mem_singleton.mp hb]; exact k₁.fresh
  · rintro i v ⟨hi, t, rfl⟩
    exact ⟨_, rng_get hi, .int _ _⟩
theorem Src.range1 {e : Expr} {b : Int} {n : Nat} (hf : Ev c (.Name x np) (.obj (.type "range"))) (he : Ev c e (.int b)) (hsm : Builtin.Range.small 0 b 1 = true) (hn : Builtin.Range.rangeSize 0 b 1 = (n : Int))
    (hs : starEach [e] c.env = [(false, eval e c.env)] := by rfl) : Src c (.Call (.Name x np) [e] [] pos) (dInts (rng 0 n)) := by
  intro s k E Q q
  refine wpAny_Call_NameR (hf.step k fun v s₁ e₁ k₁ r => ?_)
  obtain rfl := r.objI
  refine PyProof.Rows.callWith_type1 ((EvL.cons he .nil hs).step k₁ fun vs s₂ e₂ k₂ rs => ?_) hs rfl
  obtain ⟨_, rfl, r⟩ := rs.inv1
  obtain ⟨_, rfl⟩ := r.intI
  refine call_range_1 ?_
  exact src_of_range (k₂.ext (Ext.push _ _)) (e₁.trans (e₂.trans (.grow _ _ _ (Ext.push _ _)))) (Heap.get?_push_size _ rfl) hsm hn q
theorem Src.range2 {e e' : Expr} {a b : Int} {n : Nat} (hf : Ev c (.Name x np) (.obj (.type "range"))) (he : Ev c e (.int a)) (he' : Ev c e' (.int b)) (hsm : Builtin.Range.small a b 1 = true) (hn : Builtin.Range.rangeSize a b 1 = (n : Int))
    (hs : starEach [e, e'] c.env = [(false, eval e c.env), (false, eval e' c.env)] := by rfl) (hs' : starEach [e'] c.env = [(false, eval e' c.env)] := by rfl) : Src c (.Call (.Name x np) [e, e'] [] pos) (dInts (rng a n)) := by
  intro s k E Q q
  refine wpAny_Call_NameR (hf.step k fun v s₁ e₁ k₁ r => ?_)
  obtain rfl := r.objI
  refine PyProof.Rows.callWith_type1 ((EvL.cons he (.cons he' .nil hs') (by rw [hs, hs'])).step k₁ fun vs s₂ e₂ k₂ rs => ?_) (by rw [hs, hs']) (by rw [hs']; rfl)
  obtain ⟨_, _, rfl, r, r'⟩ := rs.inv2
  obtain ⟨_, _, rfl, rfl⟩ := r.ii r'
  refine call_range_2 ?_
  exact src_of_range (k₂.ext (Ext.push _ _)) (e₁.trans (e₂.trans (.grow _ _ _ (Ext.push _ _)))) (Heap.get?_push_size _ rfl) hsm hn q
end

section
variable {c : Cx} {s0 s : Shared} {rest : List Stmt} {Q : Flow → Shared → Prop} {E : Value → Shared → Prop}
/-- a comprehension stored into a local name, its list the frame's own -/
theorem St.assignCompOwn {elt iter : Expr} {x y : Str} {px py spos : Pos} {ifs : List Expr} {scope : Scope} {cl : List (Str × Addr)} {pos : Pos} {ρc : List (Str × D)} {its : List D} {res : List (Option D)}
    (S : Sta c s0 s) (ok : CompOk c scope cl x ρc) (hsrc : Src c iter its) (turn : All2 (Turn c scope cl x ρc ifs elt) its res) (hsz : its.length ≤ sizeLine) (hy : Storable c.env y)
    (q : ∀ a s', s.heap.get? a = none → Sta ((c.own1 [] a (res.filterMap id)).set y (.obj (.ref a))) s0 s' → Run ((c.own1 [] a (res.filterMap id)).set y (.obj (.ref a))) rest Q E s')
    (hsw : swapsWith (.ListComp elt [⟨.Name x px, iter, ifs, 0⟩] scope pos) (some (.Name y py)) spos.line c.env = pure true := by rfl) (hs : ∀ v, foldedSetIterable iter c.env v = pure v := by intro _; rfl) :
    Run c (.Assign [.Name y py] (.ListComp elt [⟨.Name x px, iter, ifs, 0⟩] scope pos) spos :: rest) Q E s := by
  refine wpAny_execs_cons ?_
  rw [exec_Assign_Name_used _ _ _ _ hsw]
  refine wpAny_bind (wpAny_standAt (wpAny_bind ?_))
  show wpAny _ c.A (do let _ ← comprehension (.ListComp elt [⟨.Name x px, iter, ifs, 0⟩] scope pos) scope c.env _ (newList []) false (eval iter c.env) (some (PySem.assign (.Name y py) c.env))) _ _ s
  refine wpAny_bind (wpAny_mono (comp_core (use := some (PySem.assign (.Name y py) c.env)) (Q := fun _ s' => wpAny c.M c.A (execs rest c.env) Q E s') S.ok hsrc ok.clos ok.kind ok.names ok.st ok.sl ok.cap ok.free turn hsz hs ?_)
    (fun _ s' hq => wpAny_pure (wpAny_pure hq)) fun _ _ e => e)
  intro D₀ C vs h tk e hD hC hne hns hl rs
  have hnC : ∃ o, h.get? C = some o := by obtain ⟨m, o, _, _, ho, _⟩ := hns; exact ⟨o, ho⟩
  have S₁ : Sta (c.own1 [C] D₀ (res.filterMap id)) s0 { s with heap := h, toks := tk } :=
    S.newOwn e hD (fun b hb => by rw [List.mem_singleton.mp hb]; exact hC) (fun b hb => by rw [List.mem_singleton.mp hb]; exact hnC) hl (rs.less fun a ha => by simp at ha ⊢; rcases ha with h | h | h <;> simp [h])
  have notV : C ∉ D₀ :: c.V := fun hm => by
    rcases List.mem_cons.mp hm with h | h
    · exact hne h
    · obtain ⟨o, ho⟩ := S.ok.wex _ (S.ok.vw _ h); rw [hC] at ho; cases ho
  have hsl := slot_mem S.ok.fr hy
  have hCs : C ≠ slotOf c.env y := fun z => notV (List.mem_cons_of_mem _ (z ▸ hsl))
  obtain ⟨m, hn⟩ := hns
  show wpAny c.M c.A (PySem.assign (.Name y py) c.env (.ref D₀)) _ _ _
  refine wpAny_assign_Name (Sta.store2 (c := c.own1 [C] D₀ (res.filterMap id)) S₁ hy (.obj _) fun s' S' hs' => ?_)
  refine ⟨m, hn.sameBut hs' hCs, fun h'' hs'' => q D₀ _ hD ?_⟩
  refine Sta.iterDone (c := (c.own1 [] D₀ (res.filterMap id)).set y (.obj (.ref D₀))) (wr := [C]) (W := D₀ :: c.W) S' (fun a ha => ?_) (fun b hb hm => ?_) (fun b hb => ?_) (fun b o hb z => hs''.extBut b o (by simpa using hb) z)
  · rcases List.mem_cons.mp ha with h | h
    · rw [h]; exact List.mem_cons_self
    · exact List.mem_cons_of_mem _ (S.ok.vw _ h)
  · rw [List.mem_singleton.mp hb] at hm
    rcases List.mem_cons.mp hm with h | h
    · exact hne h
    · obtain ⟨o, ho⟩ := S.ok.wex _ h; rw [hC] at ho; cases ho
  · rw [List.mem_singleton.mp hb]
    cases z : s0.heap.get? C with
    | none => rfl
    | some o =>
      have := S.keep C o (fun hv => notV (List.mem_cons_of_mem _ hv)) z
      rw [hC] at this; cases this
end

end Mine

end -- OySrc

section -- OySwap
open PySem PySem.W PySem.Calls PyProof.Rows
set_option Elab.async false
namespace Mine

section
variable {c : Cx} {s0 s : Shared} {rest : List Stmt} {Q : Flow → Shared → Prop} {E : Value → Shared → Prop}

/-- an item of an own list -/
theorem Ev.ownItem {x : Str} {xp pos : Pos} {i : Expr} {a : Addr} {ds : List D} {k : Int} {d : D} (hx : c.ρ.lookup x = some (.obj (.ref a))) (ho : (a, ds) ∈ c.own) (hi : Ev c i (.int k)) (h0 : 0 ≤ k) (hd : ds[k.toNat]? = some d) (hk : k < 2 ^ 63) (hp : Plain i)
    (hxd : (x == ("__debug__" : Str)) = false := by decide) (hxc : (x == ("__classdict__" : Str)) = false := by decide) : Ev c (.Subscript (.Name x xp) i pos) d :=
  (Ev.name hx hxd hxc).sbs hi fun va vb s k' ra rb E => by
    obtain rfl := ra.objI; obtain ⟨_, rfl⟩ := rb.intI
    obtain ⟨_, vs, l, r⟩ := k'.own _ ho
    obtain ⟨v, hv, rv⟩ := r.get hd
    have l : s.heap.PlainList a vs.toArray := l
    exact tail_any l.isList.typeIs slot_list_getitem.lookup (wpAny_getItem_list l.isList h0 hk (by simpa using hv) ⟨.refl _, rv⟩) (hp _ _)

theorem assign_sub {o i : Expr} {pos : Pos} {v : Value} {R : Unit → Shared → Prop} (h : wpAny c.M c.A (eval o c.env) (fun ov s₁ => wpAny c.M c.A (eval i c.env) (fun iv s₂ => wpAny c.M c.A (setItem ov iv v) R E s₂) E s₁) E s) :
    wpAny c.M c.A (PySem.assign (.Subscript o i pos) c.env v) R E s := by
  rw [arm_assign_Subscript]
  refine wpAny_bind (wpAny_holding (wpAny_mono h (fun ov s₁ h₁ => wpAny_bind (wpAny_holding (wpAny_mono h₁ (fun iv s₂ h₂ => wpAny_bind (wpAny_standAt (wpAny_bind (wpAny_holding (wpAny_mono h₂ (fun _ s₃ h₃ => wpAny_release h₃) fun _ _ e => e))))) fun _ _ e => e))) fun _ _ e => e))

theorem Sta.putOwn {x : Str} {xp pos : Pos} {i : Expr} {a : Addr} {ds : List D} {k : Int} {d : D} {v : Value} {post : List (Addr × List D)} {R : Unit → Shared → Prop} (S : Sta c s0 s) (hx : c.ρ.lookup x = some (.obj (.ref a))) (ho : c.own = (a, ds) :: post) (hdd : ∀ p ∈ post, p.1 ≠ a)
    (hi : Ev c i (.int k)) (h0 : 0 ≤ k) (hk : k < ds.length) (hk2 : k < 2 ^ 63) (r : Rd c.W s.heap v d) (q : ∀ s', Sta { c with own := (a, ds.set k.toNat d) :: post } s0 s' → ExtW c.V s.heap s'.heap → R () s')
    (hxd : (x == ("__debug__" : Str)) = false := by decide) (hxc : (x == ("__classdict__" : Str)) = false := by decide) : wpAny c.M c.A (PySem.assign (.Subscript (.Name x xp) i pos) c.env v) R E s := by
  refine assign_sub ((Ev.name (c := c) hx hxd hxc).step S.ok fun ov s₁ e₁ k₁ r₁ => hi.step k₁ fun iv s₂ e₂ k₂ r₂ => ?_)
  obtain rfl := r₁.objI; obtain ⟨_, rfl⟩ := r₂.intI
  have S₂ := (S.quiet e₁).quiet e₂
  obtain ⟨us, l₂, rs⟩ := S₂.ownAt (a := a) (ds := ds) (by rw [ho]; exact List.mem_cons_self)
  obtain ⟨n, hn⟩ := l₂
  refine ki_setAt hn h0 hk2 (by simp [rs.length]; exact hk) ?_
  have hs' := Heap.SameBut.update s₂.heap a (Obj.mapSeq (·.setIfInBounds k.toNat v))
  have l' : (s₂.heap.update a (Obj.mapSeq (·.setIfInBounds k.toNat v))).PlainList a (us.set k.toNat v).toArray := by
    refine ⟨n, ?_⟩
    rw [Heap.get?_update_self _ hn (by simp [Obj.mapSeq]; rfl)]
    simp [Obj.mapSeq]
  exact q _ (S₂.setOwn (vs := us.set k.toNat v) ho hdd l' hs' (Rds.set ((r.ext e₁.ext).ext e₂.ext) rs _)) (fun b o hb z => hs'.extBut b o (fun w => hb (by rw [w]; exact (S.ok.own (a, ds) (by rw [ho]; exact List.mem_cons_self)).1)) (e₂.ext b o (e₁.ext b o z)))
/-- xs[i], xs[j] = value, a pair -/
theorem St.swap {x : Str} {p1 p2 q1 q2 tp pos : Pos} {n : Nat} {i j value : Expr} {a : Addr} {ds : List D} {k l : Int} {d1 d2 : D} {post : List (Addr × List D)} (S : Sta c s0 s) (hv : Ev c value (.tuple [d1, d2])) (hx : c.ρ.lookup x = some (.obj (.ref a))) (ho : c.own = (a, ds) :: post) (hdd : ∀ p ∈ post, p.1 ≠ a)
    (hi : Ev c i (.int k)) (hj : Ev { c with own := (a, ds.set k.toNat d1) :: post } j (.int l)) (h0 : 0 ≤ k) (hk : k < ds.length) (hk2 : k < 2 ^ 63) (h0' : 0 ≤ l) (hl : l < ds.length) (hl2 : l < 2 ^ 63)
    (q : ∀ s', Sta { c with own := (a, (ds.set k.toNat d1).set l.toNat d2) :: post } s0 s' → Run { c with own := (a, (ds.set k.toNat d1).set l.toNat d2) :: post } rest Q E s')
    (hs : swapsWithSole [.Tuple [.Subscript (.Name x p1) i q1, .Subscript (.Name x p2) j q2] n tp] value pos.line c.env = pure false := by rfl)
    (hw : swappedStores [.Tuple [.Subscript (.Name x p1) i q1, .Subscript (.Name x p2) j q2] n tp] value c.env = pure none := by rfl)
    (hxd : (x == ("__debug__" : Str)) = false := by decide) (hxc : (x == ("__classdict__" : Str)) = false := by decide) :
    Run c (.Assign [.Tuple [.Subscript (.Name x p1) i q1, .Subscript (.Name x p2) j q2] n tp] value pos :: rest) Q E s := by
  refine wpAny_execs_cons (wpAny_Assign_stores (hv.step S.ok fun v s₁ e₁ k₁ r => ?_) hs hw)
  obtain ⟨_, _, rfl, ht, hl', rs⟩ := r.tupI
  obtain ⟨_, _, rfl, r1, r2⟩ := rs.inv2
  have S₁ := S.quiet e₁
  show wpAny c.M c.A (PySem.assign (.Tuple [.Subscript (.Name x p1) i q1, .Subscript (.Name x p2) j q2] n tp) c.env _) _ _ _
  refine wpAny_assign_Tuple k₁.hh hl' rfl rfl fun h' he => ?_
  have e2 : Kp s₁ { s₁ with heap := h' } := .grow _ _ _ fun b o z => he b o (Nat.ne_of_lt (Heap.lt_size z)) z
  have S₂ := S₁.quiet e2
  refine wpAny_assignInOrder_more ?_
  refine Sta.putOwn S₂ hx ho hdd hi h0 hk hk2 (r1.ext e2.ext) (fun s₃ S₃ x₃ => ?_) hxd hxc
  refine wpAny_assignInOrder_more ?_
  refine Sta.putOwn (c := { c with own := (a, ds.set k.toNat d1) :: post }) S₃ hx rfl hdd hj h0' (by rw [List.length_set]; exact hl) hl2 ((r2.ext e2.ext).mono fun b o hb z => x₃ b o (fun w => hb (S.ok.vw b w)) z) (fun s₄ S₄ _ => ?_) hxd hxc
  exact wpAny_assignInOrder_none (q s₄ S₄)
end

/-- own list back to plain datum -/
theorem Sta.freeze {c : Cx} {s0 s : Shared} {a : Addr} {ds : List D} {V W : List Addr} {x : Str} {own : List (Addr × List D)} {ρ : List (Str × D)} (S : Sta { c with W := a :: W, V := a :: V, own := (a, ds) :: own, ρ := ρ } s0 s) (hx : ρ.lookup x = some (.obj (.ref a)))
    (haV : a ∉ V) (haW : a ∉ W) (h0 : s0.heap.get? a = none) (hown : ∀ p ∈ own, p.1 ∈ V) (hfr : FrameOk c.env V s.heap) (hvw : ∀ b ∈ V, b ∈ W) : Sta { c with W := W, V := V, own := own, ρ := (x, .list ds) :: ρ } s0 s := by
  obtain ⟨_, vs, l, r⟩ := S.ok.own (a, ds) List.mem_cons_self
  have r' : Rds W s.heap vs ds := r.less fun b hb => List.mem_cons_of_mem _ hb
  refine ⟨⟨S.ok.gl, S.ok.base, hfr, hvw, S.ok.glob, S.ok.blt, S.ok.hh, fun b hb => S.ok.wex b (List.mem_cons_of_mem _ hb), fun b hb => S.ok.wnew b (List.mem_cons_of_mem _ hb), fun y d hy => ?_, fun p hp => ?_⟩, S.same, fun b o hb z => S.keep b o (fun hm => ?_) z⟩
  · by_cases hyx : y = x
    · subst hyx
      have q' : some (D.list ds) = some d := by rw [← hy]; exact lookup_cons_self.symm
      cases q'
      obtain ⟨v, b, rv⟩ := S.ok.vars y _ hx
      cases rv
      exact ⟨_, b, .list haW l r'⟩
    · have q' : ρ.lookup y = some d := by rw [← hy]; exact (lookup_cons_ne hyx).symm
      obtain ⟨v, b, rv⟩ := S.ok.vars y d q'
      exact ⟨v, b, rv.less fun b hb => List.mem_cons_of_mem _ hb⟩
  · obtain ⟨_, us, l', r''⟩ := S.ok.own p (List.mem_cons_of_mem _ hp)
    exact ⟨hown p hp, us, l', r''.less fun b hb => List.mem_cons_of_mem _ hb⟩
  · rcases List.mem_cons.mp hm with h | h
    · rw [h, h0] at z; cases z
    · exact hb h

end Mine

end -- OySwap

section -- OyBuilt
open PySem PySem.W PySem.Calls PyProof.Rows
set_option Elab.async false
namespace Mine

/-- the items that a slice picks -/
noncomputable def pickD (ds : List D) (lo hi st : Option Int) : List D :=
  (sliceRange (sliceBounds lo hi st ds.length).1 (sliceBounds lo hi st ds.length).2.1 (sliceBounds lo hi st ds.length).2.2).filterMap (ds[·]?)
theorem Rds.places {W : List Addr} {h : Heap} {vs : List Value} {ds : List D} (r : Rds W h vs ds) : ∀ js : List Nat, Rds W h (js.filterMap (vs[·]?)) (js.filterMap (ds[·]?))
  | [] => .nil
  | j :: js => by
    have ih := Rds.places r js
    cases hn : ds[j]? with
    | some n =>
      obtain ⟨v, hv, rv⟩ := r.get hn
      simp only [List.filterMap_cons, hn, hv]
      exact .cons rv ih
    | none =>
      have hv : vs[j]? = none := by
        rw [List.getElem?_eq_none_iff] at hn ⊢
        rw [r.length]; exact hn
      simp only [List.filterMap_cons, hn, hv]
      exact ih
theorem Rds.pick {W : List Addr} {h : Heap} {vs : List Value} {ds : List D} (r : Rds W h vs ds) (lo hi st : Option Int) : Rds W h (slicePick vs.toArray lo hi st).toList (pickD ds lo hi st) := by
  have e : (slicePick vs.toArray lo hi st).toList = (sliceRange (sliceBounds lo hi st ds.length).1 (sliceBounds lo hi st ds.length).2.1 (sliceBounds lo hi st ds.length).2.2).filterMap (vs[·]?) := by
    simp [slicePick, r.length]
  rw [e]
  exact r.places _

inductive Pt (c : Cx) : Option Expr → Option Int → Prop
  | none : Pt c none none
  | some {e : Expr} {k : Int} : Ev c e (.int k) → Pt c (some e) (some k)

section
variable {c : Cx}
theorem Pt.step {e : Option Expr} {k : Option Int} {s : Shared} {Q : Value → Shared → Prop} {E : Value → Shared → Prop} (h : Pt c e k) (ok : Ok c s.heap)
    (q : ∀ v s', Kp s s' → Ok c s'.heap → (∃ p : Option (Int × Tok), v = partValue p ∧ p.map (·.1) = k) → Q v s') : wpAny c.M c.A (evalPart e c.env) Q E s := by
  cases h with
  | none => exact wpAny_evalPart_none (q _ _ (.refl _) ok ⟨Option.none, rfl, rfl⟩)
  | some h => exact wpAny_evalPart_some (h.step ok fun v s' e k r => by obtain ⟨_, rfl⟩ := r.intI; exact q _ _ e k ⟨Option.some (_, _), rfl, rfl⟩)
theorem isPart_of {v : Value} {k : Option Int} (h : ∃ p : Option (Int × Tok), v = partValue p ∧ p.map (·.1) = k) : IsPart v k := by
  obtain ⟨p, rfl, rfl⟩ := h
  cases p with
  | none => exact .none
  | some p => exact .int _ _

theorem Ev.slice {value : Expr} {lower upper step : Option Expr} {pos p : Pos} {ds : List D} {lo hi st : Option Int} (hv : Ev c value (.list ds)) (hl : Pt c lower lo) (hu : Pt c upper hi) (hst : Pt c step st)
    (h0 : st ≠ some 0 := by decide) (hsz : ds.length ≤ sizeLine) (hs : ∀ o i, ∃ ops, subscripted (.Slice lower upper step p) false o i = operate ops (getItem o i) := by exact fun _ _ => ⟨_, rfl⟩) :
    Ev c (.Subscript value (.Slice lower upper step p) pos) (.list (pickD ds lo hi st)) := by
  intro s k E
  refine Subscript_ (hv.step k fun va s₁ e₁ k₁ r₁ => wpAny_Slice (hl.step k₁ fun vl s₂ e₂ k₂ p₂ => hu.step k₂ fun vu s₃ e₃ k₃ p₃ => hst.step k₃ fun vs s₄ e₄ k₄ p₄ => ?_))
  have r₄ : Rd c.W s₄.heap va (.list ds) := ((r₁.ext e₂.ext).ext e₃.ext).ext e₄.ext
  obtain ⟨a, us, rfl, ha, hl, rs⟩ := r₄.listI
  have hl1 := hl.at (h' := s₄.heap.push { cls := .type "slice", data := .fields #[vl, vu, vs] }) fun o e => Heap.get?_push_of_some _ e
  obtain ⟨ops, ho⟩ := hs (.ref a) (.ref s₄.heap.objs.size)
  refine tail_any (s := { s₄ with heap := s₄.heap.push { cls := .type "slice", data := .fields #[vl, vu, vs] } }) hl1.isList.typeIs slot_list_getitem.lookup
    (wpAny_getItem_list_slice hl1.isList (Heap.IsSliceOf.new ..) (isPart_of p₂) (isPart_of p₃) (isPart_of p₄) h0 ?_ (by simp [rs.length]; exact hsz)) ho
  have kq : Kp s₄ { s₄ with heap := s₄.heap.push { cls := .type "slice", data := .fields #[vl, vu, vs] } } := .grow _ _ _ (Ext.push _ _)
  refine ⟨e₁.trans (e₂.trans (e₃.trans (e₄.trans (kq.trans (.grow _ _ _ (Ext.push _ _)))))), ?_⟩
  have h := Rd.newList (n := 0) (k₄.ext kq.ext).fresh ((rs.ext kq.ext).pick lo hi st)
  rw [Array.toArray_toList] at h
  exact h
theorem Ev.sliceStr {value : Expr} {lower upper : Option Expr} {pos p : Pos} {x : Str} {lo hi : Option Int} (hv : Ev c value (.str x)) (hl : Pt c lower lo) (hu : Pt c upper hi) (hsz : x.length ≤ sizeLine)
    (hs : ∀ o i, ∃ ops, subscripted (.Slice lower upper Option.none p) false o i = operate ops (getItem o i) := by exact fun _ _ => ⟨_, rfl⟩) :
    Ev c (.Subscript value (.Slice lower upper Option.none p) pos) (.str (Txt.slice x lo hi)) := by
  intro s k E
  refine Subscript_ (hv.step k fun va s₁ e₁ k₁ r₁ => wpAny_Slice (hl.step k₁ fun vl s₂ e₂ k₂ p₂ => hu.step k₂ fun vu s₃ e₃ k₃ p₃ => ?_))
  obtain ⟨t, rfl⟩ := r₁.strI
  obtain ⟨pl, rfl, rfl⟩ := p₂
  obtain ⟨pu, rfl, rfl⟩ := p₃
  obtain ⟨ops, ho⟩ := hs (.str x t) (.ref s₃.heap.objs.size)
  refine wpAny_evalPart_none ?_
  refine tail_any (typeIs_str _ _ _) PySem.F.slot_str_getitem.lookup (wpAny_getItem_str_slice (l := pl) (u := pu) (st := Option.none) ⟨_, Heap.get?_push_size _ rfl, rfl, rfl⟩ rfl
    (post_val_or_str ⟨Nat.le_trans (Txt.slice_le x _ _) hsz, fun t' k => ?_⟩)) ho
  exact ⟨e₁.trans (e₂.trans (e₃.trans (.grow _ _ _ (Ext.push _ _)))), .str _ _⟩

theorem Cl.len {ds : List D} (h : ds.length < 2 ^ 60) : Cl c (.builtin "len") [.list ds] (.int ds.length) := fun vs s k r E => by
  obtain ⟨_, rfl, r1⟩ := r.inv1; obtain ⟨a, us, rfl, ha, hl, rs⟩ := r1.listI
  have e : us.toArray.size = ds.length := by simp [rs.length]
  refine PyProof.Rows.len_list hl.isList (by rw [e]; omega) ?_
  rw [e]
  exact ⟨.toks _ _, .int _ _⟩
theorem Cl.lenBytes {b : Array UInt8} (h : b.size ≤ 1000) : Cl c (.builtin "len") [.bytes b] (.int b.size) := fun vs s k r E => by
  obtain ⟨_, rfl, r1⟩ := r.inv1; obtain ⟨_, rfl⟩ := r1.bytesI; exact len_bytes (by omega) ⟨.toks _ _, .int _ _⟩
theorem Cl.sum {ns : List Int} : Cl c (.builtin "sum") [.list (dInts ns)] (.int ns.sum) := fun vs s k r E => by
  obtain ⟨_, rfl, r1⟩ := r.inv1; obtain ⟨a, us, rfl, ha, hl, rs⟩ := r1.listI
  have hi := rs.intsAre
  obtain ⟨xs, hx⟩ := hi.allInts.items
  have hl' := hl.isList
  have e1 : ns = xs.toList.map (·.1) := by
    rw [← nums_intItems, ← hx]
    exact (show numsOf us.toArray.toList = ns from hi.numsOf).symm
  rw [hx] at hl'
  refine sum_intListG k.hh hl' fun h' tk t' hk => ?_
  have e2 : preSum (numAt xs) xs.size = ns.sum := by
    rw [preSum_eq, List.take_of_length_le (by simp), e1]
  rw [e2]
  exact ⟨.grow _ _ _ hk, .int _ _⟩
theorem Cl.sorted {ns ms : List Int} (h : ns.length < 64) (hm : ∀ ks : List Int, ks.Perm ns → ks.Pairwise (· ≤ ·) → ks = ms) : Cl c (.builtin "sorted") [.list (dInts ns)] (.list (dInts ms)) := fun vs s k r E => by
  obtain ⟨_, rfl, r1⟩ := r.inv1; obtain ⟨a, us, rfl, ha, hl, rs⟩ := r1.listI
  have hI := rs.intsAre
  refine sorted_ints hl.isList hI (by rw [hI.length]; exact h) fun out ns' h1 h2 h3 => ?_
  have e := hm ns' h2 h3
  subst e
  obtain ⟨n, hn⟩ := sortedAll_at s.heap us out
  have ext : Ext s.heap (sortedAll s.heap us out) := fun b o z => sortedAll_old z
  refine ⟨.grow _ _ _ ext, .list (vs := out.toList) (fun hm => ?_) ⟨n, by simpa [seqObj] using hn⟩ (Rds.ofInts h1)⟩
  obtain ⟨o, ho⟩ := k.wex _ hm
  exact Nat.not_succ_le_self _ (Nat.le_of_lt (Heap.lt_size ho))
theorem Cl.chr {n : Nat} (h : n ≤ 255) : Cl c (.builtin "chr") [.int n] (.str ⟨#[n]⟩) := fun vs s k r E => by
  obtain ⟨_, rfl, r1⟩ := r.inv1; obtain ⟨_, rfl⟩ := r1.intI
  refine PySem.P.chr_of_int (i := (n : Int)) (by simp; omega) ?_
  rw [Int.toNat_natCast]
  exact ⟨.toks _ _, .str _ _⟩
theorem Cl.bytes {ns : List Int} (h : ∀ n ∈ ns, 0 ≤ n ∧ n < 256) (hz : ns.length ≤ sizeLine) : Cl c (.type "bytes") [.list (dInts ns)] (.bytes (byteArr ns)) := fun vs s k r E => by
  obtain ⟨_, rfl, r1⟩ := r.inv1; obtain ⟨a, us, rfl, ha, hl, rs⟩ := r1.listI
  have hi := rs.intsAre
  exact call_bytes_ints hl.isList hi h (by rw [hi.length]; exact hz) k.hh fun h' t tk hk => ⟨.grow _ _ _ hk, .bytes _ _⟩
theorem Bn.addBytes {a b : Array UInt8} (h : a.size + b.size ≤ 16777216) : Bn c .Add (.bytes a) (.bytes b) (.bytes (a ++ b)) := fun va vb s k ra rb E => by
  obtain ⟨_, _, rfl, rfl⟩ := ra.bb rb; exact PySem.W.KBy.add_bytes h fun t' tk => ⟨.toks _ _, .bytes _ _⟩
theorem Cl.isBytes {b : Array UInt8} : Cl c (.builtin "isinstance") [.bytes b, .obj (.type "bytes")] (.bool true) := fun vs s k r E => by
  obtain ⟨_, _, rfl, r1, r2⟩ := r.inv2; obtain ⟨_, rfl⟩ := r1.bytesI; obtain rfl := r2.objI
  exact kia_one (K := []) kitx_bytes (fun _ _ e => nomatch e) trivial rfl (by intro e; cases e) fun tk => ⟨.toks _ _, .bool _⟩
theorem Src.bytes {e : Expr} {b : Array UInt8} (h : Ev c e (.bytes b)) : Src c e (dInts (KBw.bInts b)) := by
  intro s k E Q q
  refine h.step k fun v s₁ e₁ k₁ r => ?_
  obtain ⟨t, rfl⟩ := r.bytesI
  refine KBw.pyIter_bytes ?_
  have W := KBw.walks (prog := c.prog) (w := c.w) k.hh s₁.heap.objs.size b t
  rw [show b.size = (dInts (KBw.bInts b)).length by simp [KBw.ints_length]] at W
  refine q _ _ _ _ s₁ _ e₁ (.grow _ _ _ (Ext.push _ _)) W ⟨_, Heap.get?_push_size _ rfl, rfl, rfl⟩ (fun b hb => ?_) (fun b hb => ?_) (get_none_of_ge (Nat.le_refl _)) (fun i h st => ?_) ?_
  · rw [List.mem_singleton.mp hb]
    show s₁.heap.objs.size < (s₁.heap.push _).objs.size
    rw [Heap.size_push]; exact Nat.lt_succ_self _
  · rw [List.mem_singleton.mp hb]; exact k₁.fresh
  · obtain ⟨o, ho, _⟩ := st; exact ⟨o, ho⟩
  · rintro i v ⟨u, t, hu, rfl⟩
    exact ⟨_, by rw [List.getElem?_map, KBw.ints_get hu]; rfl, .int _ _⟩

theorem Cl.type {d : D} {T : String} (hv : ∀ W (s : Shared) v, Rd W s.heap v d → s.TypeIs v T) (hn : (Value.type T == Value.type "builtin_function_or_method") = false := by decide) : Cl c (.type "type") [d] (.obj (.type T)) := fun vs s k r E => by
  obtain ⟨_, rfl, r1⟩ := r.inv1
  exact call_type_of (hv _ s _ r1) hn ⟨.refl _, .obj _⟩
theorem Cm.isType {T U : String} : Cm c .Is (.obj (.type T)) (.obj (.type U)) (Value.type T == Value.type U) := fun va vb s k ra rb E => by
  obtain rfl := ra.objI; obtain rfl := rb.objI; exact wpAny_is_plain rfl ⟨.refl _, .bool _⟩
theorem Cm.isNone {d : D} {b : Bool} (h : ∀ W h v, Rd W h v d → (v == .none) = b) : Cm c .Is d .none b := fun va vb s k ra rb E => by
  obtain rfl := rb.noneI; refine is_none_gen ?_; rw [h _ _ _ ra]; exact ⟨.refl _, .bool _⟩
theorem Cm.isNotNone {d : D} {b : Bool} (h : ∀ W h v, Rd W h v d → plainIs v .none = true ∧ (v == .none) = b) : Cm c .IsNot d .none (!b) := fun va vb s k ra rb E => by
  obtain rfl := rb.noneI; refine wpAny_isNot_plain (h _ _ _ ra).1 ?_; rw [(h _ _ _ ra).2]; exact ⟨.refl _, .bool _⟩

theorem Cm.eqInts {ns ms : List Int} (hu : c.A.units + 64 < cLine) : Cm c .Eq (.list (dInts ns)) (.list (dInts ms)) (decide (ns = ms)) := fun va vb s k ra rb E => by
  obtain ⟨_, _, rfl, _, hl, rs⟩ := ra.listI
  obtain ⟨_, _, rfl, _, hl', rs'⟩ := rb.listI
  exact ke_eq_ints hl.isList hl'.isList rs.intsAre rs'.intsAre hu ⟨.refl _, .bool _⟩
theorem Rds.carriedStrs {W : List Addr} {h : Heap} : ∀ {vs : List Value} {xs : List Str}, Rds W h vs (dStrs xs) → CarriedAll vs (xs.map PyData.str)
  | [], [], _ => .nil
  | [], _ :: _, x => by cases x
  | _ :: _, [], x => by cases x
  | v :: vs, n :: ns, x => by
    cases x with
    | cons r rs => cases r; exact .cons (.str _ _) rs.carriedStrs
theorem Rds.strsAre {W : List Addr} {h : Heap} : ∀ {vs : List Value} {xs : List Str}, Rds W h vs (dStrs xs) → StrsAre vs xs
  | [], [], _ => .nil
  | [], _ :: _, x => by cases x
  | _ :: _, [], x => by cases x
  | v :: vs, n :: ns, x => by
    cases x with
    | cons r rs => cases r; exact .cons _ _ rs.strsAre
theorem canLay_strs : ∀ {xs : List Str}, (∀ x ∈ xs, PyData.strOk x = true) → PyData.canLayAll0 (xs.map PyData.str) = true
  | [], _ => rfl
  | x :: r, h => by simp [PyData.canLayAll0, PyData.canLay0, canLay_strs (xs := r) fun y hy => h y (List.mem_cons_of_mem _ hy), h x List.mem_cons_self]
theorem depth_strs : ∀ {xs : List Str}, PyData.depthAll (xs.map PyData.str) = 0
  | [] => rfl
  | _ :: r => by simp [PyData.depthAll, PyData.depth, depth_strs (xs := r)]
theorem shaped_strs {xs : List Str} (h : ∀ x ∈ xs, PyData.strOk x = true) : SeqAt.shaped (.list (xs.map PyData.str)) = true := by
  simp [SeqAt.shaped, PyData.canLay0, PyData.depth, canLay_strs h, depth_strs]
theorem sameAll_strs : ∀ xs ys : List Str, PySem.Spec.sameAll (xs.map PyData.str) (ys.map PyData.str) = decide (xs = ys)
  | [], [] => by simp [PySem.Spec.sameAll]
  | [], _ :: _ => by simp [PySem.Spec.sameAll]
  | _ :: _, [] => by simp [PySem.Spec.sameAll]
  | a :: r, b :: t => by
    simp only [List.map_cons, PySem.Spec.sameAll, PySem.Spec.same, sameAll_strs r t]
    by_cases h : a = b <;> by_cases h' : r = t <;> simp [h, h']
theorem same_strs (xs ys : List Str) : PySem.Spec.same (.list (xs.map PyData.str)) (.list (ys.map PyData.str)) = decide (xs = ys) := by
  simp only [PySem.Spec.same]; exact sameAll_strs xs ys
theorem Cm.neStrs {xs ys : List Str} (hx : ∀ x ∈ xs, PyData.strOk x = true) (hy : ∀ x ∈ ys, PyData.strOk x = true) (hu : c.A.units + 64 < cLine) : Cm c .NotEq (.list (dStrs xs)) (.list (dStrs ys)) (!decide (xs = ys)) := fun va vb s k ra rb E => by
  obtain ⟨_, _, rfl, _, hl, rs⟩ := ra.listI
  obtain ⟨_, _, rfl, _, hl', rs'⟩ := rb.listI
  exact ne_dataH_same (reads_newData hl.isList rs.carriedStrs) (reads_newData hl'.isList rs'.carriedStrs) (shaped_strs hx) (shaped_strs hy) hu (SeqAt.noMix_of_shape (.list .str) rfl _ _ (list_map_has fun _ => rfl) (list_map_has fun _ => rfl))
    (by rw [same_strs]; exact ⟨.refl _, .bool _⟩)

/-- a method called on a value that the text names or writes -/
theorem Ev.meth {o e : Expr} {args : List Expr} {name : Str} {apos pos : Pos} {T id : String} {d r : D} {ds : List D} (pa : PlainAttrs T) (slot : Slot T name id) (hty : typeOf (.builtin id) = pure (.type "method_descriptor"))
    (ho : Ev c o d) (ht : ∀ W (s : Shared) v, Rd W s.heap v d → s.TypeIs v T ∧ ∀ a, v = .ref a → ∃ ob, s.heap.get? a = some ob ∧ ob.dict = Option.none) (ha : EvL c (e :: args) ds) (hc : Cl c (.builtin id) (d :: ds) r)
    (hbase : attributeBase o name c.env (eval o c.env) = eval o c.env := by first | exact base_name | exact base_const)
    (hfew : ((backTo pos (starEach (e :: args) c.env)).all (fun x => !x.1) && (backToKw pos (keywordEach [] c.env)).all (fun x => x.1.isSome) && decide ((e :: args).length + ([] : List Keyword).length + (if ([] : List Keyword).isEmpty then 0 else 1) < 30)) = true := by rfl)
    (hline : (apos.endLine == pos.line) = true := by rfl) (he : starEach (e :: args) c.env = (false, eval e c.env) :: starEach args c.env := by rfl) (hp : ((backTo pos (starEach args c.env)).any fun x => x.1) = false := by rfl) :
    Ev c (.Call (.Attribute o name apos) (e :: args) [] pos) r := by
  intro s k E
  refine callMeth pa slot hty (ho.step k fun ov s₁ e₁ k₁ r₁ => ⟨(ht _ s₁ _ r₁).1, (ht _ s₁ _ r₁).2, ha.step k₁ fun vs s₂ e₂ k₂ rs => ?_⟩) hbase hfew hline he hp
  exact wpAny_mono (hc (ov :: vs) s₂ k₂ (.cons (r₁.ext e₂.ext) rs) E) (fun v s' x => ⟨e₁.trans (e₂.trans x.1), x.2⟩) fun _ _ e => e
theorem Cl.join {x : Str} {ys : List Str} (hx : x.length ≤ 16) (hw : (ys.map (·.length)).sum + ys.length ≤ 1048576) : Cl c (.builtin "str.join") [.str x, .list (dStrs ys)] (.str (Txt.join x ys)) := fun vs s k r E => by
  obtain ⟨_, _, rfl, r1, r2⟩ := r.inv2; obtain ⟨_, rfl⟩ := r1.strI; obtain ⟨_, _, rfl, _, hl, rs⟩ := r2.listI
  exact join_listW hl.isList rs.strsAre hx hw fun t' tk => ⟨.toks _ _, .str _ _⟩
theorem Cl.index {ns : List Int} {k : Int} (hlay : PyData.layable0 (.list (ns.map .int)) = true) (hk : k ∈ ns) : Cl c (.builtin "list.index") [.list (dInts ns), .int k] (.int (ns.idxOf k : Nat)) := fun vs s kk r E => by
  obtain ⟨_, _, rfl, r1, r2⟩ := r.inv2; obtain ⟨_, rfl⟩ := r2.intI; obtain ⟨_, _, rfl, _, hl, rs⟩ := r1.listI
  exact index_list_ints hl.isList rs.intsAre hlay hk ⟨.toks _ _, .int _ _⟩
theorem tyStr {x : Str} : ∀ W (s : Shared) v, Rd W s.heap v (.str x) → s.TypeIs v "str" ∧ ∀ a, v = .ref a → ∃ ob, s.heap.get? a = some ob ∧ ob.dict = Option.none := by
  intro W s v r; cases r; exact ⟨typeIs_str _ _ _, fun a e => nomatch e⟩
theorem tyBytes {x : Array UInt8} : ∀ W (s : Shared) v, Rd W s.heap v (.bytes x) → s.TypeIs v "bytes" ∧ ∀ a, v = .ref a → ∃ ob, s.heap.get? a = some ob ∧ ob.dict = Option.none := by
  intro W s v r; cases r; exact ⟨typeIs_bytes _ _ _, fun a e => nomatch e⟩
theorem tyList {ds : List D} : ∀ W (s : Shared) v, Rd W s.heap v (.list ds) → s.TypeIs v "list" ∧ ∀ a, v = .ref a → ∃ ob, s.heap.get? a = some ob ∧ ob.dict = Option.none := by
  intro W s v r; cases r with | list _ hl rs => exact ⟨hl.isList.typeIs, fun a e => by cases e; obtain ⟨n, hn⟩ := hl; exact ⟨_, hn, rfl⟩⟩
end

end Mine

end -- OyBuilt

section -- OyComp4
open PySem PySem.W PySem.Calls PyProof.Rows
set_option Elab.async false
namespace Mine

/-- another frame of the same run -/
noncomputable def Cx.inn (c : Cx) (env : Env) (W V : List Addr) (own : List (Addr × List D)) (ρ : List (Str × D)) : Cx := { c with env := env, W := W, V := V, own := own, ρ := ρ }

theorem Prov.ofWalks {c : Cx} {env : Env} {W' V : List Addr} {own : List (Addr × List D)} {ρ : List (Str × D)} {x : Str} {px : Pos} {I : Addr} {fp : List Addr} {P : Nat → Value → Prop} {St : Nat → Heap → Prop} {h1 : Heap} {its : List D}
    (W : Walks c.prog c.w c.A I fp [I] its.length P St) (hoff : ∀ b ∈ fp, b ∉ W') (hI : h1.get? I = none) (hIo : ∀ i h, St i h → ∃ o, h.get? I = some o)
    (hP : ∀ i v, P i v → ∃ d, its[i]? = some d ∧ Rd c.W h1 v d) (hnew : ∀ b o, b ∉ c.W → h1.get? b = some o → b ∉ W') : Prov (c.inn env W' V own ρ) (.Name x px) I fp [I] h1 its St := by
  refine ⟨W.sub, hoff, fun b hb => (by rw [List.mem_singleton.mp hb]; exact hI), fun i h st b hb => (by rw [List.mem_singleton.mp hb]; exact hIo i h st), W.frame, ?_, ?_⟩
  · intro i d s Q E hd st hw hx hQ
    have hi : i < its.length := (List.getElem?_eq_some_iff.mp hd).1
    refine W.item i s _ _ hi st fun v h' tk hPv st' hk => ?_
    show wpAny _ _ (pure ()) _ _ _
    refine wpAny_pure (hQ v h' tk st' hk ?_)
    obtain ⟨d', hd', r⟩ := hP i v hPv
    rw [hd] at hd'; cases hd'
    refine r.move fun b o hb e => ?_
    have hbI : b ∉ [I] := fun z => by rw [List.mem_singleton.mp z, hI] at e; cases e
    have hb' : b ∉ [I] ++ W' := fun z => (List.mem_append.mp z).elim hbI (hnew b o hb e)
    exact ⟨hk b o hbI (hx b o hb' e), hb'⟩
  · exact fun s Q E st hQ => W.done s Q E st hQ

/-- one level of a comprehension's loop -/
theorem comp_sta0 {c : Cx} {elt : Expr} {gens : List Comprehension} {scope : Scope} {pos : Pos} {dp : Nat} {target : Expr} {acc : Value} {p : Pos} {emit : Sem Unit} {its : List D} {I : Addr} {fp wr : List Addr} {St : Nat → Heap → Prop} {s₁ s₂ : Shared} {R : Result → Shared → Prop} {h0 : Heap} (hw0 : ∀ b ∈ wr, h0.get? b = none) (hE : Ext h0 s₂.heap)
    (own : Nat → List (Addr × List D)) (ρ : Nat → List (Str × D)) (hvw : ∀ a ∈ c.V, a ∈ c.W) (T₂ : Sta (c.at (wr ++ c.W) (own 0) (ρ 0)) s₁ s₂) (P : Prov c target I fp wr s₁.heap its St) (hst : St 0 s₂.heap)
    (turn : ∀ i d W s1 s2 v, its[i]? = some d → (∀ a ∈ c.W, a ∈ W) → Sta (c.at W (own i) (ρ i)) s1 s2 → Ext h0 s2.heap → Rd W s2.heap v d → ∀ E, wpAny c.M c.A (PySem.assign target c.env v) (fun _ s3 => wpAny c.M c.A emit (fun _ s4 => Sta (c.at W (own (i + 1)) (ρ (i + 1))) s1 s4 ∧ Ext h0 s4.heap) E s3) E s2)
    (fin : ∀ s', Sta (c.at c.W (own its.length) (ρ its.length)) s₁ s' → Ext h0 s'.heap → R (.ok .next) s')
    (heq : compTurn (.ListComp elt gens scope pos) dp (.ref I) acc c.env = (standAt p >>= fun _ => pyNext (.ref I) >>= fun r => match r with
      | none => pure (.done .next)
      | some v => letOwnedTupleGo target (.ref I) v >>= fun _ => PySem.assign target c.env v >>= fun _ => emit >>= fun _ => again (.compLoop (.ListComp elt gens scope pos) dp (.ref I) acc c.env))) :
    codeAny (model c.prog c.w) c.A (.compLoop (.ListComp elt gens scope pos) dp (.ref I) acc c.env) R s₂ := by
  have hwr : ∀ b ∈ wr, b ∉ c.V := fun b hb z => P.off b (P.sub b hb) (hvw b z)
  refine codeAny_loop rfl
    (fun n s' => ∃ i, i ≤ its.length ∧ n = its.length + 1 - i ∧ St i s'.heap ∧ Sta (c.at (wr ++ c.W) (own i) (ρ i)) s₁ s' ∧ Ext h0 s'.heap) ?_ (its.length + 1) ⟨0, Nat.zero_le _, rfl, hst, T₂, hE⟩
  rintro n s' ⟨i, hi, rfl, st, T, hEi⟩
  have hmv : ∀ h' : Heap, (∀ b o, b ∉ wr → s'.heap.get? b = some o → h'.get? b = some o) → Ext h0 h' := fun h' hk b o e => hk b o (fun m => by rw [hw0 b m] at e; cases e) (hEi b o e)
  show wpAny _ c.A ((compTurn (.ListComp elt gens scope pos) dp (.ref I) acc c.env).onRaise (fun x => do noteFrame x c.env; theTreesLotGoes x)) _ _ s'
  refine wpAny_noted ?_
  rw [heq]
  refine wpAny_bind (wpAny_standAt (wpAny_bind ?_))
  by_cases hlt : i < its.length
  · obtain ⟨d, hd⟩ : ∃ d, its[i]? = some d := ⟨its[i], by simp [hlt]⟩
    have hx : ExtW (wr ++ c.W) s₁.heap s'.heap := fun b o hb e => T.keep b o (fun z => hb (List.mem_append_right _ (hvw b z))) e
    refine wpAny_mono (P.item i d s' (fun v s₃ => ∃ h' tk, s₃ = { s' with heap := h', toks := tk } ∧ St (i + 1) h' ∧ (∀ b o, b ∉ wr → s'.heap.get? b = some o → h'.get? b = some o) ∧ Rd (wr ++ c.W) h' v d) _ hd st (fun a ha => T.ok.wex a (List.mem_append_right _ ha)) hx fun v h' tk st' hk r => ⟨h', tk, rfl, st', hk, r⟩) (fun r s₃ hr => ?_) fun _ _ e => e
    cases r with
    | none => exact hr.elim
    | some v =>
      refine wpAny_bind (wpAny_mono hr (fun _ s₄ h₄ => ?_) fun _ _ e => e)
      obtain ⟨h', tk, rfl, st', hk, r⟩ := h₄
      have T' : Sta (c.at (wr ++ c.W) (own i) (ρ i)) s₁ { s' with heap := h', toks := tk } := T.iter (fun b hb => List.mem_append_left _ hb) hwr P.new hk (P.ex _ _ st')
      refine wpAny_bind (wpAny_mono (turn i d (wr ++ c.W) _ _ v hd (fun a ha => List.mem_append_right _ ha) (Sta.refl T'.ok) (hmv _ hk) r _) (fun _ s₅ h₅ => wpAny_bind (wpAny_mono h₅ (fun f s₆ h₆₀ => ?_) fun _ _ e => e)) fun _ _ e => e)
      obtain ⟨h₆, hE₆⟩ := h₆₀
      have stay : ExtW c.V h' s₆.heap → St (i + 1) s₆.heap := fun k => P.frame _ _ _ st' fun b hb o e => k b o (fun z => P.off b hb (hvw b z)) e
      exact wpAny_pure ⟨rfl, its.length + 1 - (i + 1), by omega, i + 1, hlt, rfl, stay h₆.keep, T'.trans h₆ rfl, hE₆⟩
  · have hin : i = its.length := by omega
    subst hin
    refine P.done s' _ _ st fun h' tk hk => ?_
    exact wpAny_pure (fin _ (Sta.iterDone (c := c.at c.W (own its.length) (ρ its.length)) T hvw (fun b hb z => P.off b (P.sub b hb) z) P.new hk) (hmv _ hk))
theorem comp_sta {c : Cx} {elt : Expr} {gens : List Comprehension} {scope : Scope} {pos : Pos} {dp : Nat} {target : Expr} {acc : Value} {p : Pos} {emit : Sem Unit} {its : List D} {I : Addr} {fp wr : List Addr} {St : Nat → Heap → Prop} {s0 s₁ s₂ : Shared} {R : Result → Shared → Prop} {h0 : Heap} (hw0 : ∀ b ∈ wr, h0.get? b = none) (hE : Ext h0 s₂.heap)
    (own : Nat → List (Addr × List D)) (ρ : Nat → List (Str × D)) (S₁ : Sta (c.at c.W (own 0) (ρ 0)) s0 s₁) (kp₂ : Kp s₁ s₂) (P : Prov c target I fp wr s₁.heap its St) (hst : St 0 s₂.heap)
    (turn : ∀ i d W s1 s2 v, its[i]? = some d → (∀ a ∈ c.W, a ∈ W) → Sta (c.at W (own i) (ρ i)) s1 s2 → Ext h0 s2.heap → Rd W s2.heap v d → ∀ E, wpAny c.M c.A (PySem.assign target c.env v) (fun _ s3 => wpAny c.M c.A emit (fun _ s4 => Sta (c.at W (own (i + 1)) (ρ (i + 1))) s1 s4 ∧ Ext h0 s4.heap) E s3) E s2)
    (fin : ∀ s', Sta (c.at c.W (own its.length) (ρ its.length)) s0 s' → Ext h0 s'.heap → R (.ok .next) s')
    (heq : compTurn (.ListComp elt gens scope pos) dp (.ref I) acc c.env = (standAt p >>= fun _ => pyNext (.ref I) >>= fun r => match r with
      | none => pure (.done .next)
      | some v => letOwnedTupleGo target (.ref I) v >>= fun _ => PySem.assign target c.env v >>= fun _ => emit >>= fun _ => again (.compLoop (.ListComp elt gens scope pos) dp (.ref I) acc c.env))) :
    codeAny (model c.prog c.w) c.A (.compLoop (.ListComp elt gens scope pos) dp (.ref I) acc c.env) R s₂ := by
  have S₂ := S₁.quiet kp₂
  have ok₂ : Ok (c.at (wr ++ c.W) (own 0) (ρ 0)) s₂.heap := S₂.ok.moreW s₁.heap kp₂.ext S₁.ok P.new (P.ex _ _ hst)
  refine comp_sta0 hw0 hE own ρ S₁.ok.vw ⟨ok₂, kp₂.same, .ofExt kp₂.ext⟩ P hst turn (fun s' T' hE' => fin _ ⟨T'.ok, ?_, S₁.keep.trans T'.keep⟩ hE') heq
  obtain ⟨h2, t2, e2⟩ := S₁.same
  obtain ⟨h3, t3, e3⟩ := T'.same
  exact ⟨h3, t3, by rw [e3, e2]⟩

/-- the start of the second clause -/
theorem compStart1 {prog : Program} {w : World} {A : Around} {R : Result → Shared → Prop} {s : Shared} {elt : Expr} {g1 g2 : Comprehension} {scope : Scope} {pos : Pos} {it acc : Value} {env : Env} (ha : g2.is_async = 0)
    (h0 : codeAny (model prog w) A (.compLoop (.ListComp elt [g1, g2] scope pos) 1 it acc env) R s)
    (h : wpAny (model prog w) A (pyIter it) (fun it' s' => codeAny (model prog w) A (.compLoop (.ListComp elt [g1, g2] scope pos) 1 it' acc env) R s')
      (notedBy (model prog w) A env fun x s' => R (.error x) s') s) :
    codeAny (model prog w) A (.compStart (.ListComp elt [g1, g2] scope pos) 1 it acc env) R s := by
  refine codeAny_of_tree ?_
  show wpAny _ _ ((compStart (.ListComp elt [g1, g2] scope pos) 1 it acc env).onRaise (fun x => do noteFrame x env; standAt theWindowsPlace)) _ _ s
  refine wpAny_notedAt ?_
  unfold compStart
  obtain ⟨t, i, f, a⟩ := g2
  cases ha
  show wpAny _ _ (ask >>= _) _ _ s
  refine wpAny_bind (wpAny_askSetting (wpAny_ite ?_))
  split
  · first
      | exact wpAny_bind (wpAny_pure (wpAny_pure (And.intro rfl h0)))
      | exact wpAny_pure (And.intro rfl h0)
  · first
      | exact wpAny_bind (wpAny_rule (wpAny_bind (wpAny_standAt (wpAny_bind (wpAny_mono h (fun it' s' h' => wpAny_pure (And.intro rfl h')) fun _ _ x => x)))))
      | (refine wpAny_bind (wpAny_rule ?_); show wpAny _ _ (standAt i.pos >>= _) _ _ s; exact wpAny_bind (wpAny_standAt (wpAny_bind (wpAny_mono h (fun it' s' h' => wpAny_pure (And.intro rfl h')) fun _ _ x => x))))

/-- what a comprehension yields -/
noncomputable def CompGives (c : Cx) (e : Expr) (scope : Scope) (iter : Expr) (ds : List D) : Prop := ∀ p use s Q E, Ok c s.heap →
  (∀ (D₀ C : Addr) (vs : List Value) h tk, Ext s.heap h → s.heap.get? D₀ = none → s.heap.get? C = none → C ≠ D₀ → (∃ m, h.Ns C m) → h.PlainList D₀ vs.toArray → Rds (D₀ :: C :: c.W) h vs ds →
    compPost c.M c.A E use Q (.ref D₀) C (.ok .next) { s with heap := h, toks := tk }) →
  wpAny c.M c.A (comprehension e scope c.env p (newList []) false (eval iter c.env) use) Q E s

end Mine

end -- OyComp4

section -- OyComp5
open PySem PySem.W PySem.Calls PyProof.Rows
set_option Elab.async false
namespace Mine

theorem compTurn_first' (elt i1 i2 : Expr) (x1 x2 : Str) (p1 p2 : Pos) (f2 : List Expr) (scope : Scope) (pos : Pos) (it acc : Value) (env : Env) :
    compTurn (.ListComp elt [⟨.Name x1 p1, i1, [], 0⟩, ⟨.Name x2 p2, i2, f2, 0⟩] scope pos) 0 it acc env = (standAt i1.pos >>= fun _ => pyNext it >>= fun r => match r with
      | none => pure (.done .next)
      | some v => letOwnedTupleGo (.Name x1 p1) it v >>= fun _ => PySem.assign (.Name x1 p1) env v >>= fun _ =>
          eval i2 env >>= fun x => standAt i2.pos >>= fun _ => foldedSetIterable i2 env x >>= fun x => holding [x] (pyIter x) >>= fun it2 =>
          runOwn (.compStart (.ListComp elt [⟨.Name x1 p1, i1, [], 0⟩, ⟨.Name x2 p2, i2, f2, 0⟩] scope pos) 1 it2 acc env) env >>= fun _ =>
          again (.compLoop (.ListComp elt [⟨.Name x1 p1, i1, [], 0⟩, ⟨.Name x2 p2, i2, f2, 0⟩] scope pos) 0 it acc env)) := by rfl
noncomputable def emit2 (elt i1 i2 : Expr) (x1 x2 : Str) (p1 p2 : Pos) (f2 : List Expr) (scope : Scope) (pos : Pos) (acc : Value) (env : Env) : Sem Unit :=
  eval i2 env >>= fun x => standAt i2.pos >>= fun _ => foldedSetIterable i2 env x >>= fun x => holding [x] (pyIter x) >>= fun it2 =>
          runOwn (.compStart (.ListComp elt [⟨.Name x1 p1, i1, [], 0⟩, ⟨.Name x2 p2, i2, f2, 0⟩] scope pos) 1 it2 acc env) env >>= fun _ => pure ()
theorem compTurn_first (elt i1 i2 : Expr) (x1 x2 : Str) (p1 p2 : Pos) (f2 : List Expr) (scope : Scope) (pos : Pos) (it acc : Value) (env : Env) :
    compTurn (.ListComp elt [⟨.Name x1 p1, i1, [], 0⟩, ⟨.Name x2 p2, i2, f2, 0⟩] scope pos) 0 it acc env = (standAt i1.pos >>= fun _ => pyNext it >>= fun r => match r with
      | none => pure (.done .next)
      | some v => letOwnedTupleGo (.Name x1 p1) it v >>= fun _ => PySem.assign (.Name x1 p1) env v >>= fun _ =>
          emit2 elt i1 i2 x1 x2 p1 p2 f2 scope pos acc env >>= fun _ =>
          again (.compLoop (.ListComp elt [⟨.Name x1 p1, i1, [], 0⟩, ⟨.Name x2 p2, i2, f2, 0⟩] scope pos) 0 it acc env)) := by
  rw [compTurn_first']
  unfold emit2
  simp only [bind_assoc, pure_bind]
theorem compTurn_second (elt i1 i2 : Expr) (x1 x2 : Str) (p1 p2 : Pos) (f1 : List Expr) (scope : Scope) (pos : Pos) (it acc : Value) (env : Env) :
    compTurn (.ListComp elt [⟨.Name x1 p1, i1, f1, 0⟩, ⟨.Name x2 p2, i2, [], 0⟩] scope pos) 1 it acc env = (standAt i2.pos >>= fun _ => pyNext it >>= fun r => match r with
      | none => pure (.done .next)
      | some v => letOwnedTupleGo (.Name x2 p2) it v >>= fun _ => PySem.assign (.Name x2 p2) env v >>= fun _ =>
        (eval elt env >>= fun x => call (.builtin "list.append") [acc, x] >>= fun _ => pure ()) >>= fun _ =>
          again (.compLoop (.ListComp elt [⟨.Name x1 p1, i1, f1, 0⟩, ⟨.Name x2 p2, i2, [], 0⟩] scope pos) 1 it acc env)) := by rfl

noncomputable def inCx (c : Cx) (scope : Scope) (cl : List (Str × Addr)) (C : Addr) (W V : List Addr) (own : List (Addr × List D)) (ρ : List (Str × D)) : Cx :=
  c.inn (compEnvC scope (cellsFrom (C + 1) scope.names cl) C c.env) W V own ρ

theorem take_flat {α : Type} {l : List (List α)} {i : Nat} {x : List α} (h : l[i]? = some x) : (l.take (i + 1)).flatten = (l.take i).flatten ++ x := by
  rw [List.take_add_one, h, List.flatten_append]; simp
theorem flat_take_le {α : Type} (l : List (List α)) (i : Nat) : (l.take i).flatten.length ≤ l.flatten.length := by
  conv => rhs; rw [← List.take_append_drop i l, List.flatten_append, List.length_append]
  exact Nat.le_add_right _ _

theorem comp2 {c : Cx} {elt i1 i2 : Expr} {x1 x2 : Str} {p1 p2 : Pos} {scope : Scope} {cl : List (Str × Addr)} {pos : Pos} {ρc : List (Str × D)} {its : List D} {ress : List (List D)}
    (hsrc : Src c i1 its) (hcl : closureFor scope c.env = pure cl) (hkind : scope.kind = .function)
    (hnames : ∀ y ∈ scope.names, y.2 = .local → scope.names.lookup y.1 = some .local)
    (hx1 : ∀ C, Storable (compEnvC scope (cellsFrom (C + 1) scope.names cl) C c.env) x1) (hx2 : ∀ C, Storable (compEnvC scope (cellsFrom (C + 1) scope.names cl) C c.env) x2)
    (hl1 : ∀ C, slotOf (compEnvC scope (cellsFrom (C + 1) scope.names cl) C c.env) x1 = C) (hl2 : ∀ C, slotOf (compEnvC scope (cellsFrom (C + 1) scope.names cl) C c.env) x2 = C)
    (cap : Cap c scope cl ρc) (hsub : ∀ d1, Sub ρc ((x1, d1) :: ρc)) (hsub2 : ∀ d1 d2, Sub ((x1, d1) :: ρc) ((x2, d2) :: (x1, d1) :: ρc))
    (turn : All2 (fun d rs => ∃ its2, (∀ C W V own, Src (inCx c scope cl C W V own ((x1, d) :: ρc)) i2 its2) ∧ All2 (fun d2 r => ∀ C W V own, Ev (inCx c scope cl C W V own ((x2, d2) :: (x1, d) :: ρc)) elt r) its2 rs) its ress)
    (hsz : ress.flatten.length ≤ sizeLine) (hs : ∀ v, foldedSetIterable i1 c.env v = pure v) (hs2 : ∀ env v, foldedSetIterable i2 env v = pure v) :
    CompGives c (.ListComp elt [⟨.Name x1 p1, i1, [], 0⟩, ⟨.Name x2 p2, i2, [], 0⟩] scope pos) scope i1 ress.flatten := by
  intro p use s Q E k post
  refine wpAny_comprehension_free rfl hs hcl hkind hnames (hsrc s k E _ ?_)
  intro I fp P St s₁ s₂ kp₁ kp₂ W hst hlt hfpW hI hIo hP
  obtain ⟨h₂, tk₂, rfl, e₁₂⟩ := kp₂
  refine wpAny_newObj_type (newCompEnv ?_)
  dsimp only
  generalize hH : (h₂.push { cls := .type "list", dict := none, data := .seq ([] : List Value).toArray }) = H
  have hC : H.objs.size = h₂.objs.size + 1 := by rw [← hH, Heap.size_push]
  have eH : Ext h₂ H := hH ▸ Ext.push _ _
  have k₂ : Ok c h₂ := (k.ext kp₁.ext).ext e₁₂
  have kH : Ok c H := k₂.ext eH
  obtain ⟨frC', hcells⟩ := compFrame (scope := scope) (kH.fr.more kH.vw) hcl hkind default h₂.objs.size H.objs.size
  have eN : Ext H (pushCells (H.push { cls := .type "dict", data := .dict #[] }) scope.names) := fun b o e => pushCells_keeps _ _ b o (Heap.get?_push_of_some _ e)
  generalize hN : pushCells (H.push { cls := .type "dict", data := .dict #[] }) scope.names = N at frC' hcells eN ⊢
  have eAll : Ext h₂ N := fun b o e => eN b o (eH b o e)
  have hD : N.PlainList h₂.objs.size #[] := ⟨_, eN _ _ (by rw [← hH]; exact Heap.get?_push_size _ rfl)⟩
  have hIf : I ∈ fp := W.sub I (List.mem_singleton.mpr rfl)
  have hC1 : h₂.objs.size < H.objs.size := by rw [hC]; exact Nat.lt_succ_self _
  obtain ⟨V', hV'⟩ : ∃ V', V' = h₂.objs.size :: H.objs.size :: ((cellsFrom (H.objs.size + 1) scope.names cl).map (·.2) ++ c.W) := ⟨_, rfl⟩
  have frC : FrameOk (compEnvC scope (cellsFrom (H.objs.size + 1) scope.names cl) H.objs.size c.env) V' N := frC'.more fun a ha => by
    rw [hV']
    simp only [List.mem_cons] at ha ⊢
    rcases ha with h | h | h | h
    · exact .inl h
    · exact .inr (.inl h)
    · exact .inr (.inl h)
    · exact .inr (.inr h)
  have notV : ∀ b, b < h₂.objs.size → b ∉ c.W → b ∉ V' := fun b l hb hm => by
    rw [hV'] at hm
    simp only [List.mem_cons, List.mem_append, List.mem_map] at hm
    rcases hm with h1 | h1 | ⟨q, hq, h1⟩ | h1
    · exact Nat.ne_of_lt l h1
    · exact Nat.ne_of_lt (Nat.lt_trans l hC1) h1
    · rcases hcells q hq with ⟨h2, _⟩ | ⟨h2, _⟩
      · exact hb (h1 ▸ h2)
      · exact Nat.ne_of_lt (Nat.lt_trans (Nat.lt_trans l hC1) h2) h1.symm
    · exact hb h1
  have newA : ∀ a, h₂.objs.size ≤ a → c.H.get? a = none := fun a ha => none_of_ext k₂.base (get_none_of_ge ha)
  have newS : ∀ a, h₂.objs.size ≤ a → s.heap.get? a = none := fun a ha => none_of_ext (fun b o e => e₁₂ b o (kp₁.ext b o e)) (get_none_of_ge ha)
  have subW : ∀ a ∈ c.W, a ∈ V' := fun a ha => by rw [hV']; simp [ha]
  have DV : h₂.objs.size ∈ V' := by rw [hV']; simp
  have notIV : ∀ b, b < h₂.objs.size → b ≠ I → b ∉ c.W → b ∉ [I] ++ V' := fun b l n hb hm => (List.mem_append.mp hm).elim (fun h => n (List.mem_singleton.mp h)) (notV b l hb)
  have okN : Ok (inCx c scope cl H.objs.size ([I] ++ V') V' [(h₂.objs.size, [])] ρc) N := by
    refine ⟨k.gl, fun b o q => eAll b o (k₂.base b o q), frC, fun _ m => List.mem_append_right _ m, k.glob, k.blt, k.hh, fun a ha => ?_, fun a ha => ?_, fun y d hy => ?_, fun p hp => ?_⟩
    · rcases List.mem_append.mp (show a ∈ [I] ++ V' from ha) with ha | ha
      · rw [List.mem_singleton.mp ha]; obtain ⟨o, ho⟩ := hIo _ _ hst; exact ⟨o, eAll _ o ho⟩
      rw [hV'] at ha
      simp only [List.mem_cons, List.mem_append, List.mem_map] at ha
      rcases ha with h1 | h1 | ⟨q, hq, h1⟩ | h1
      · subst h1; obtain ⟨n, ho⟩ := hD; exact ⟨_, ho⟩
      · subst h1; obtain ⟨m, o, _, _, ho, _⟩ := frC.ns; exact ⟨o, ho⟩
      · rcases hcells q hq with ⟨_, v, o, ho, _⟩ | ⟨_, o, ho, _⟩
        · exact ⟨o, by rw [← h1]; exact eN _ o ho⟩
        · exact ⟨o, by rw [← h1]; exact ho⟩
      · obtain ⟨o, ho⟩ := k₂.wex a h1; exact ⟨o, eAll a o ho⟩
    · rcases List.mem_append.mp (show a ∈ [I] ++ V' from ha) with ha | ha
      · rw [List.mem_singleton.mp ha]; exact none_of_ext (k.ext kp₁.ext).base hI
      rw [hV'] at ha
      simp only [List.mem_cons, List.mem_append, List.mem_map] at ha
      rcases ha with h1 | h1 | ⟨q, hq, h1⟩ | h1
      · subst h1; exact newA _ (Nat.le_refl _)
      · subst h1; exact newA _ (Nat.le_of_lt hC1)
      · rcases hcells q hq with ⟨h2, _⟩ | ⟨h2, _⟩
        · exact k.wnew a (h1 ▸ h2)
        · exact newA _ (h1 ▸ Nat.le_of_lt (Nat.lt_trans hC1 h2))
      · exact k.wnew a h1
    · obtain ⟨q1, q2, q3, q4⟩ := cap.at y d hy
      obtain ⟨v, bv, rv⟩ := (k.ext kp₁.ext).vars y d q1
      refine ⟨v, ?_, rv.move fun b o hb e => ⟨eAll b o (e₁₂ b o e), notIV b (Heap.lt_size (e₁₂ b o e)) (fun q => by subst q; rw [hI] at e; cases e) hb⟩⟩
      rcases bv with ⟨z, _⟩ | ⟨_, a, ha, hi⟩
      · rcases q2 with q2 | q2 <;> · rw [q2] at z; cases z
      · refine .inr ⟨q3 _, a, ?_, hi.keeps fun b o e => eAll b o (e₁₂ b o e)⟩
        show (cellsFrom (H.objs.size + 1) scope.names cl).lookup y = some a
        rw [q4]; exact ha
    · rw [List.mem_singleton.mp hp]
      exact ⟨DV, [], hD, .nil⟩
  have T₂ : Sta (inCx c scope cl H.objs.size ([I] ++ V') V' [(h₂.objs.size, [])] ρc) s₁ { s₁ with heap := N, toks := tk₂ } := ⟨okN, ⟨N, tk₂, rfl⟩, .ofExt fun b o e => eAll b o (e₁₂ b o e)⟩
  have prov : Prov (inCx c scope cl H.objs.size V' V' [(h₂.objs.size, [])] ρc) (.Name x1 p1) I fp [I] s₁.heap its St :=
    Prov.ofWalks W (fun b hb => notV b (hlt b hb) (hfpW b hb)) hI hIo hP fun b o hb e => notV b (Heap.lt_size (e₁₂ b o e)) hb
  have loop : codeAny (model c.prog c.w) c.A (.compLoop (.ListComp elt [⟨.Name x1 p1, i1, [], 0⟩, ⟨.Name x2 p2, i2, [], 0⟩] scope pos) 0 (.ref I) (.ref h₂.objs.size) (compEnvC scope (cellsFrom (H.objs.size + 1) scope.names cl) H.objs.size c.env))
      (compPost c.M c.A E use Q (.ref h₂.objs.size) H.objs.size) { s₁ with heap := N, toks := tk₂ } := by
    refine comp_sta0 (h0 := s.heap) (fun b hb => by rw [List.mem_singleton.mp hb]; exact none_of_ext kp₁.ext hI) (fun b o e => eAll b o (e₁₂ b o (kp₁.ext b o e))) (c := inCx c scope cl H.objs.size V' V' [(h₂.objs.size, [])] ρc) (fun i => [(h₂.objs.size, (ress.take i).flatten)]) (fun _ => ρc) (fun _ h => h) T₂ prov (W.frame _ _ _ hst fun b _ o e => eAll b o e) ?_ ?_ (compTurn_first ..)
    · intro i d W1 s3 s4 v hd hW1 S hE4 rv E1
      obtain ⟨rs, hrs, its2, hsrc2, hall⟩ := turn.get hd
      refine wpAny_assign_Name (Sta.store2 (c := inCx c scope cl H.objs.size W1 V' [(h₂.objs.size, (ress.take i).flatten)] ρc) S (hx1 _) rv fun s5 S5 hs5 => ?_)
      have hE5 : Ext s.heap s5.heap := fun b o e => hs5.extBut b o (fun z => by rw [show slotOf (inCx c scope cl H.objs.size W1 V' [(h₂.objs.size, (ress.take i).flatten)] ρc).env x1 = H.objs.size from hl1 _] at z; rw [z, newS _ (Nat.le_of_lt hC1)] at e; cases e) (hE4 b o e)
      unfold emit2
      refine wpAny_bind (wpAny_mono (hsrc2 H.objs.size W1 V' [(h₂.objs.size, (ress.take i).flatten)] s5 S5.ok E1 (fun it2 s6 => wpAny c.M c.A (runOwn (.compStart (.ListComp elt [⟨.Name x1 p1, i1, [], 0⟩, ⟨.Name x2 p2, i2, [], 0⟩] scope pos) 1 it2 (.ref h₂.objs.size) (compEnvC scope (cellsFrom (H.objs.size + 1) scope.names cl) H.objs.size c.env)) (compEnvC scope (cellsFrom (H.objs.size + 1) scope.names cl) H.objs.size c.env) >>= fun _ => pure ()) (fun _ s7 => Sta ((inCx c scope cl H.objs.size V' V' [(h₂.objs.size, [])] ρc).at W1 [(h₂.objs.size, (ress.take (i + 1)).flatten)] ρc) s3 s7 ∧ Ext s.heap s7.heap) E1 s6) ?_) (fun x s6 h6 => wpAny_bind (wpAny_standAt (wpAny_bind (wpAny_of_eq (hs2 _ x) (wpAny_bind (wpAny_holding (wpAny_mono h6 (fun it2 s7 h7 => h7) fun _ _ e => e))))))) fun _ _ e => e)
      intro I2 fp2 P2 St2 s6 s7 kp6 kp7 W2 hst2 hlt2 hfp2 hI2 hIo2 hP2
      refine wpAny_bind (wpAny_runOwn ?_)
      have prov2 : Prov (inCx c scope cl H.objs.size W1 V' [(h₂.objs.size, (ress.take i).flatten)] ((x1, d) :: ρc)) (.Name x2 p2) I2 fp2 [I2] s6.heap its2 St2 :=
        Prov.ofWalks (c := inCx c scope cl H.objs.size W1 V' [(h₂.objs.size, (ress.take i).flatten)] ((x1, d) :: ρc)) W2 hfp2 hI2 hIo2 hP2 fun b o hb e => hb
      have loop2 : codeAny (model c.prog c.w) c.A (.compLoop (.ListComp elt [⟨.Name x1 p1, i1, [], 0⟩, ⟨.Name x2 p2, i2, [], 0⟩] scope pos) 1 (.ref I2) (.ref h₂.objs.size) (compEnvC scope (cellsFrom (H.objs.size + 1) scope.names cl) H.objs.size c.env))
          (fun r s' => match r with | .ok f => wpAny c.M c.A (pure () : Sem Unit) (fun _ s7 => Sta ((inCx c scope cl H.objs.size V' V' [(h₂.objs.size, [])] ρc).at W1 [(h₂.objs.size, (ress.take (i + 1)).flatten)] ρc) s3 s7 ∧ Ext s.heap s7.heap) E1 s' | .error e => cameBackBy c.M c.A (compEnvC scope (cellsFrom (H.objs.size + 1) scope.names cl) H.objs.size c.env) E1 e s') s7 := by
        have hE7 : Ext s.heap s7.heap := fun b o e => kp7.ext b o (kp6.ext b o (hE5 b o e))
        refine comp_sta (h0 := s.heap) (fun b hb => by rw [List.mem_singleton.mp hb]; exact none_of_ext (fun b o e => kp6.ext b o (hE5 b o e)) hI2) hE7 (c := inCx c scope cl H.objs.size W1 V' [(h₂.objs.size, (ress.take i).flatten)] ((x1, d) :: ρc)) (fun j => [(h₂.objs.size, (ress.take i).flatten ++ rs.take j)]) (fun _ => (x1, d) :: ρc) (s0 := s3) (s₁ := s6) ?_ kp7 prov2 hst2 ?_ ?_ (compTurn_second ..)
        · have S6 := S5.quiet kp6
          show Sta (inCx c scope cl H.objs.size W1 V' [(h₂.objs.size, (ress.take i).flatten ++ rs.take 0)] ((x1, d) :: ρc)) s3 s6
          rw [List.take_zero, List.append_nil]
          exact S6
        · intro j d2 W3 s8 s9 v2 hd2 hW3 S9 hE9 rv2 E2
          obtain ⟨r2, hr2, hev⟩ := hall.get hd2
          refine wpAny_assign_Name (Sta.store2 (c := inCx c scope cl H.objs.size W3 V' [(h₂.objs.size, (ress.take i).flatten ++ rs.take j)] ((x1, d) :: ρc)) S9 (hx2 _) rv2 fun s10 S10 hs10 => ?_)
          have hE10 : Ext s.heap s10.heap := fun b o e => hs10.extBut b o (fun z => by rw [show slotOf (inCx c scope cl H.objs.size W3 V' [(h₂.objs.size, (ress.take i).flatten ++ rs.take j)] ((x1, d) :: ρc)).env x2 = H.objs.size from hl2 _] at z; rw [z, newS _ (Nat.le_of_lt hC1)] at e; cases e) (hE9 b o e)
          refine wpAny_bind ((hev H.objs.size W3 V' [(h₂.objs.size, (ress.take i).flatten ++ rs.take j)]).step S10.ok fun v3 s11 e11 k11 r11 => ?_)
          have S11 := S10.quiet e11
          obtain ⟨us, l11, ru⟩ := S11.ownAt (a := h₂.objs.size) (ds := (ress.take i).flatten ++ rs.take j) List.mem_cons_self
          refine wpAny_bind (wpAny_list_append_plain l11 (fun h' hl' hs' => wpAny_pure ?_) ?_)
          · have S12 := S11.setOwn (vs := us ++ [v3]) rfl (fun _ h => nomatch h) (by rw [← List.push_toArray]; exact hl') hs' (ru.append (.one r11)) (tk := s11.toks)
            rw [List.append_assoc, show rs.take j ++ [r2] = rs.take (j + 1) by rw [List.take_add_one, hr2]; rfl] at S12
            exact ⟨S12.weak (hsub2 d d2), fun b o e => hs'.extBut b o (fun z => by rw [z, newS _ (Nat.le_refl _)] at e; cases e) (e11.ext b o (hE10 b o e))⟩
          · rw [List.size_toArray, ru.length]
            refine Nat.le_trans ?_ hsz
            have h1 := take_flat hrs
            have h2 := flat_take_le ress (i + 1)
            rw [h1] at h2
            refine Nat.le_trans ?_ h2
            rw [List.length_append, List.length_append]
            exact Nat.add_le_add_left (List.length_take_le' _ _) _
        · intro s8 S8 hE8
          refine wpAny_pure ⟨?_, hE8⟩
          rw [hall.length, List.take_length, ← take_flat hrs] at S8
          exact S8.weak (hsub d)
      exact compStart1 rfl loop2 (W2.self 0 _ _ _ hst2 loop2)
    · intro s3 S3 hE3
      rw [turn.length, List.take_length] at S3
      obtain ⟨vs, l, rs⟩ := S3.ownAt (a := h₂.objs.size) (ds := ress.flatten) List.mem_cons_self
      obtain ⟨h3, t3, e3⟩ := S3.same
      obtain ⟨g₁, t₁, rfl, x₁⟩ := kp₁
      subst e3
      refine post h₂.objs.size H.objs.size vs h3 t3 hE3 (newS _ (Nat.le_refl _)) (newS _ (Nat.le_of_lt hC1)) (Nat.ne_of_gt hC1) S3.ok.fr.ns l (rs.less fun a ha => ?_)
      show a ∈ V'
      rw [hV']
      simp only [List.mem_cons, List.mem_append] at ha ⊢
      rcases ha with h1 | h1 | h1
      · exact .inl h1
      · exact .inr (.inl h1)
      · exact .inr (.inr (.inr h1))
  exact codeAny_compStart_list loop (W.self 0 _ _ _ (W.frame _ _ _ hst fun b _ o e => eAll b o e) loop)

end Mine

end -- OyComp5

section -- OyComp6
open PySem PySem.W PySem.Calls PyProof.Rows
set_option Elab.async false
namespace Mine

section
variable {c : Cx} {s0 s : Shared} {rest : List Stmt} {Q : Flow → Shared → Prop} {E : Value → Shared → Prop}
/-- a comprehension stored into a local name at once -/
theorem St.assignCompG {elt i1 i2 : Expr} {x1 x2 : Str} {p1 p2 : Pos} {y : Str} {py spos : Pos} {scope : Scope} {pos : Pos} {ds : List D}
    (S : Sta c s0 s) (core : CompGives c (.ListComp elt [⟨.Name x1 p1, i1, [], 0⟩, ⟨.Name x2 p2, i2, [], 0⟩] scope pos) scope i1 ds) (hy : Storable c.env y)
    (q : ∀ s', Sta (c.set y (.list ds)) s0 s' → Run (c.set y (.list ds)) rest Q E s')
    (hsw : swapsWith (.ListComp elt [⟨.Name x1 p1, i1, [], 0⟩, ⟨.Name x2 p2, i2, [], 0⟩] scope pos) (some (.Name y py)) spos.line c.env = pure true := by rfl) :
    Run c (.Assign [.Name y py] (.ListComp elt [⟨.Name x1 p1, i1, [], 0⟩, ⟨.Name x2 p2, i2, [], 0⟩] scope pos) spos :: rest) Q E s := by
  refine wpAny_execs_cons ?_
  rw [exec_Assign_Name_used _ _ _ _ hsw]
  refine wpAny_bind (wpAny_standAt (wpAny_bind ?_))
  show wpAny _ c.A (do let _ ← comprehension (.ListComp elt [⟨.Name x1 p1, i1, [], 0⟩, ⟨.Name x2 p2, i2, [], 0⟩] scope pos) scope c.env _ (newList []) false (eval i1 c.env) (some (PySem.assign (.Name y py) c.env))) _ _ s
  refine wpAny_bind (wpAny_mono (core _ (some (PySem.assign (.Name y py) c.env)) s (fun _ s' => wpAny c.M c.A (execs rest c.env) Q E s') E S.ok ?_)
    (fun _ s' hq => wpAny_pure (wpAny_pure hq)) fun _ _ e => e)
  intro D₀ C vs h tk e hD hC hne ⟨m, hn⟩ hl rs
  have S₁ : Sta c s0 { s with heap := h, toks := tk } := S.quiet (.grow _ _ _ e)
  have hDW : D₀ ∉ c.W := fun hm => by obtain ⟨o, ho⟩ := S.ok.wex _ hm; rw [hD] at ho; cases ho
  refine wpAny_assign_Name (store_any S₁.ok.fr hy fun h' tk' hex hsl hnl hs fr' bx by' => ?_)
  have hsl := slot_mem S.ok.fr hy
  have hCs : C ≠ slotOf c.env y := fun z => by obtain ⟨o, ho⟩ := S.ok.wex _ (S.ok.vw _ hsl); rw [← z, hC] at ho; cases ho
  refine ⟨m, hn.sameBut hs hCs, fun h'' hs'' => q _ ?_⟩
  have notC : ∀ b o, s.heap.get? b = some o → b ≠ C := fun b o z w => by subst w; rw [hC] at z; cases z
  have extV : ExtW c.V s.heap h'' := fun b o hb z => hs''.extBut b o (notC b o z) (hs.extBut b o (fun w => hb (w ▸ hsl)) (e b o z))
  have ext : ExtW c.W s.heap h'' := fun b o hb z => extV b o (fun w => hb (S.ok.vw b w)) z
  have hCW : ∀ a ∈ c.W, a ≠ C := fun a ha => by obtain ⟨o, ho⟩ := S.ok.wex a ha; exact notC a o ho
  have cellC : ∀ y a, c.env.cells.lookup y = some a → a ≠ C := fun y a z => hCW a (S.ok.vw _ (S.ok.fr.cell y a z).1)
  have r : Rd c.W h'' (.ref D₀) (.list ds) := by
    refine .list hDW (hl.at fun o z => hs''.extBut _ o (Ne.symm hne) (hs.extBut _ o (fun w => hnl _ (w ▸ hl)) z)) ?_
    refine rs.move fun b o hb z => ?_
    simp only [List.mem_cons, not_or] at hb
    exact ⟨hs''.extBut b o hb.2.1 (hs.extBut b o (fun w => hb.2.2 (w ▸ S.ok.vw _ hsl)) z), hb.2.2⟩
  have e2 : ∀ b o, b ≠ C → h'.get? b = some o → h''.get? b = some o := fun b o hb z => hs''.extBut b o hb z
  obtain ⟨h1, t1, e1⟩ := S.same
  refine ⟨⟨S.ok.gl, fun b o z => ?_, fr'.but e2 (hCW _ (S.ok.vw _ S.ok.fr.lw)) cellC, S.ok.vw, S.ok.glob, S.ok.blt, S.ok.hh, fun a ha => ?_, S.ok.wnew, fun z dz hz => ?_, fun p hp => ?_⟩, ⟨h'', tk', by rw [e1]⟩, S.keep.trans extV⟩
  · have z' : c.H.get? b = some o := z
    exact ext b o (fun hm => by rw [S.ok.wnew b hm] at z'; cases z') (S.ok.base b o z')
  · by_cases z : a = slotOf c.env y
    · rw [z]; obtain ⟨o, ho⟩ := hex; exact ⟨o, e2 _ o (Ne.symm hCs) ho⟩
    · obtain ⟨o, ho⟩ := S₁.ok.wex a ha; exact ⟨o, e2 a o (hCW a ha) (hs.extBut a o z ho)⟩
  · by_cases w : z = y
    · subst w
      have q' : some (D.list (ds)) = some dz := by rw [← hz]; exact lookup_cons_self.symm
      cases q'
      exact ⟨_, bx.but e2 (hCW _ (S.ok.vw _ S.ok.fr.lw)) cellC, r⟩
    · have q' : c.ρ.lookup z = some dz := by rw [← hz]; exact (lookup_cons_ne w).symm
      obtain ⟨u, bu, ru⟩ := S.ok.vars z dz q'
      exact ⟨u, (by' z u w (bu.ext e)).but e2 (hCW _ (S.ok.vw _ S.ok.fr.lw)) cellC, ru.mono ext⟩
  · obtain ⟨a1, ws, l, rr⟩ := S.ok.own p hp
    have l1 : h.PlainList p.1 ws.toArray := l.at fun o z => e _ o z
    exact ⟨a1, ws, l1.at fun o z => e2 _ o (hCW _ (S.ok.vw _ a1)) (hs.extBut _ o (fun w => hnl _ (w ▸ l1)) z), rr.mono ext⟩
end

end Mine

end -- OyComp6

section -- OyF1
open PySem PySem.W PySem.Calls PyProof.Rows
set_option Elab.async false
set_option maxRecDepth 100000
namespace Mine

/-- the contexts of this program -/
structure Pr (c : Cx) : Prop where
  K : c.K = oy_hd.heap_39 c.w.params

theorem Pr.of {c c' : Cx} (P : Pr c) (hk : c'.K = c.K := by kernel_rfl) (hw : c'.w = c.w := by kernel_rfl) : Pr c' := ⟨by rw [hk, hw]; exact P.K⟩

noncomputable def cmpS (a b : Str) : Int := b2i (decide (b.cps.toList < a.cps.toList)) - b2i (decide (a.cps.toList < b.cps.toList))

set_option maxHeartbeats 4000000 in
theorem strcoll_spec {c : Cx} (P : Pr c) (hroom : c.A.depth < recursionLimit) (a b : Str) : Cl c (.ref 28) [.str a, .str b] (.int (cmpS a b)) := by
  refine Cl.fn (names := [Str.ofString "a", Str.ofString "b"]) ((congrArg (List.lookup 28) P.K).trans rfl) rfl (by rw [P.K]; kernel_rfl) rfl rfl rfl rfl rfl ?_ (by decide) ?_ rfl rfl rfl hroom ?_
  · intro vs hvs
    obtain ⟨v1, v2, rfl⟩ := two_of hvs
    rfl
  · intro n x hx
    exact .inl (by revert x; decide)
  intro L W V s s1 hV S E
  refine St.retFn (c := fnCx c _ 28 L W V _) hV (fun _ h => h) S ?_
  exact Ev.bn (Ev.cm (Ev.name rfl) (Ev.name rfl) Cm.gtStr) (Ev.cm (Ev.name rfl) (Ev.name rfl) Cm.ltStr) Bn.subBool

end Mine

end -- OyF1

section -- OyRun
open PySem PySem.W PySem.Calls PyProof.Rows
set_option Elab.async false
set_option maxRecDepth 100000
namespace Mine

theorem FrameOk.shrink {env : Env} {V V' : List Addr} {h h' : Heap} (f : FrameOk env V h) (g : FrameOk env V' h') : FrameOk env V h' :=
  ⟨g.kind, g.ns, f.lw, fun x a q => ⟨(f.cell x a q).1, (g.cell x a q).2⟩, g.apart⟩

section
variable {c : Cx}
theorem Cl.isIntInt {n : Int} : Cl c (.builtin "isinstance") [.int n, .obj (.type "int")] (.bool true) := fun vs s k r E => by
  obtain ⟨_, _, rfl, r1, r2⟩ := r.inv2; obtain ⟨_, rfl⟩ := r1.intI; obtain rfl := r2.objI; exact IsiPair.int_int ⟨.refl _, .bool _⟩
theorem Cl.isIntBool {n : Int} : Cl c (.builtin "isinstance") [.int n, .obj (.type "bool")] (.bool false) := fun vs s k r E => by
  obtain ⟨_, _, rfl, r1, r2⟩ := r.inv2; obtain ⟨_, rfl⟩ := r1.intI; obtain rfl := r2.objI; exact IsiPair.int_bool ⟨.toks _ _, .bool _⟩
end

/-- the text on wire k that bears sign n -/
noncomputable def wtxt (k n : Nat) : Str := (⟨#[61]⟩ ++ ⟨#[n]⟩ : Str) ++ Txt.mul ⟨#[61]⟩ (k : Int)
/-- one comparer -/
noncomputable def stepT (ws : List Str) (w : Int) : List Str :=
  if cmpS (ws.getD w.toNat default) (ws.getD (w.toNat + 1) default) = 1 ∧ cmpS (ws.getD (w.toNat + 1) default) (ws.getD w.toNat default) = -1 then (ws.set w.toNat (ws.getD (w.toNat + 1) default)).set (w.toNat + 1) (ws.getD w.toNat default) else ws
noncomputable def runT (ws : List Str) (net : List Int) : List Str := net.foldl stepT ws
theorem stepT_length (ws : List Str) (w : Int) : (stepT ws w).length = ws.length := by unfold stepT; split <;> simp
theorem runT_length (net : List Int) : ∀ ws : List Str, (runT ws net).length = ws.length := by
  induction net with
  | nil => intro ws; rfl
  | cons w r ih => intro ws; show (runT (stepT ws w) r).length = _; rw [ih, stepT_length]
noncomputable def ws0 (n0 n1 n2 n3 : Nat) : List Str := [wtxt 0 n0, wtxt 1 n1, wtxt 2 n2, wtxt 3 n3]
theorem getD_mem {ws : List Str} {i : Nat} (h : i < ws.length) : ws.getD i default ∈ ws := by
  rw [List.getD_eq_getElem?_getD, List.getElem?_eq_getElem h]; exact List.getElem_mem _
theorem getD_some {ws : List Str} {i : Nat} (h : i < ws.length) : ws[i]? = some (ws.getD i default) := by
  rw [List.getD_eq_getElem?_getD, List.getElem?_eq_getElem h]; rfl
theorem mem_stepT {ws : List Str} {w : Int} (h0 : w.toNat + 1 < ws.length) : ∀ t ∈ stepT ws w, t ∈ ws := by
  intro t ht
  unfold stepT at ht
  split at ht
  · rcases List.mem_or_eq_of_mem_set ht with h | h
    · rcases List.mem_or_eq_of_mem_set h with h | h
      · exact h
      · rw [h]; exact getD_mem (by omega)
    · rw [h]; exact getD_mem (by omega)
  · exact ht
theorem mem_runT : ∀ (net : List Int) (ws : List Str), (∀ w ∈ net, w.toNat + 1 < ws.length) → ∀ t ∈ runT ws net, t ∈ ws
  | [], ws, _, t, ht => ht
  | w :: r, ws, h, t, ht => mem_stepT (h w List.mem_cons_self) t (mem_runT r (stepT ws w) (fun u hu => by rw [stepT_length]; exact h u (List.mem_cons_of_mem _ hu)) t ht)
noncomputable def signOf (t : Str) : Str := ⟨#[t.cps.getD 1 0]⟩

theorem plain_name {x : Str} {p : Pos} : Plain (.Name x p) := fun _ _ => rfl
theorem plain_const {k : Const} {n : Nat} {p : Pos} : Plain (.Constant k n p) := fun _ _ => rfl
theorem plain_bin {a b : Expr} {o : Operator} {p : Pos} : Plain (.BinOp a o b p) := fun _ _ => rfl

/-- what a run may be handed: four signs -/
inductive Signs : D → Nat → Nat → Nat → Nat → Prop
  | text {n0 n1 n2 n3 : Nat} : Signs (.str ⟨#[n0, n1, n2, n3]⟩) n0 n1 n2 n3
  | list {n0 n1 n2 n3 : Nat} : Signs (.list [.str ⟨#[n0]⟩, .str ⟨#[n1]⟩, .str ⟨#[n2]⟩, .str ⟨#[n3]⟩]) n0 n1 n2 n3
theorem Signs.it {c : Cx} {value slice : Expr} {d : D} {n0 n1 n2 n3 : Nat} (h : Signs d n0 n1 n2 n3) (hp : Plain slice) : It c value slice d (.int 0) (.str ⟨#[n0]⟩) ∧ It c value slice d (.int 1) (.str ⟨#[n1]⟩) ∧ It c value slice d (.int 2) (.str ⟨#[n2]⟩) ∧ It c value slice d (.int 3) (.str ⟨#[n3]⟩) := by
  cases h with
  | text => exact ⟨.str (by decide) rfl (by decide) hp, .str (by decide) rfl (by decide) hp, .str (by decide) rfl (by decide) hp, .str (by decide) rfl (by decide) hp⟩
  | list => exact ⟨.list (by decide) rfl (by decide) hp, .list (by decide) rfl (by decide) hp, .list (by decide) rfl (by decide) hp, .list (by decide) rfl (by decide) hp⟩

theorem mulOk_eq (k : Nat) (h : k < 4) : MulOk ⟨#[61]⟩ (k : Int) := by
  have := lt4 h
  rcases this with rfl | rfl | rfl | rfl <;> exact ⟨by decide, by decide, by decide⟩

theorem len_a (n : Nat) : (Str.ofString "=").length + (⟨#[n]⟩ : Str).length ≤ sizeLine := by
  have : (⟨#[n]⟩ : Str).length = 1 := rfl
  rw [this]; decide
theorem len_b (n : Nat) (k : Int) (h : (Txt.mul (Str.ofString "=") k).length ≤ 3) : (Str.ofString "=" ++ ⟨#[n]⟩ : Str).length + (Txt.mul (Str.ofString "=") k).length ≤ sizeLine := by
  have e : (⟨#[n]⟩ : Str).length = 1 := rfl
  have e2 : (Str.ofString "=").length = 1 := rfl
  have e3 : sizeLine = 16777216 := rfl
  rw [Str.length_append, e, e2, e3]; omega

theorem wtxt_sign (k n : Nat) : (wtxt k n).cps[1]? = some n := by
  have : (wtxt k n).cps = (#[61] ++ #[n]) ++ (Txt.mul ⟨#[61]⟩ (k : Int)).cps := rfl
  rw [this]
  rw [Array.getElem?_append_left (by simp)]
  rfl
theorem sign_at {n0 n1 n2 n3 : Nat} {t : Str} (h : t ∈ ws0 n0 n1 n2 n3) : t.cps[1]? = some (t.cps.getD 1 0) := by
  have hs : ∃ n, t.cps[1]? = some n := by
    simp only [ws0, List.mem_cons, List.not_mem_nil, or_false] at h
    rcases h with rfl | rfl | rfl | rfl <;> exact ⟨_, wtxt_sign _ _⟩
  obtain ⟨n, hn⟩ := hs
  have hlt := (Array.getElem?_eq_some_iff.mp hn).1
  rw [hn, Array.getD_eq_getD_getElem?, hn]; rfl

set_option maxHeartbeats 4000000 in
theorem law_run_spec {c : Cx} (P : Pr c) (hroom : c.A.depth + 1 < recursionLimit) {sg : D} {n0 n1 n2 n3 : Nat} (hsg : Signs sg n0 n1 n2 n3) (net : List Int) (hnet : ∀ w ∈ net, 0 ≤ w ∧ w ≤ 2) :
    Cl c (.ref 110) [sg, .list (dInts net)] (.list (dStrs ((runT (ws0 n0 n1 n2 n3) net).map signOf))) := by
  refine Cl.fn (names := [Str.ofString "signs", Str.ofString "net"]) ((congrArg (List.lookup 110) P.K).trans rfl) rfl (by rw [P.K]; kernel_rfl) rfl rfl rfl rfl rfl ?_ (by decide) ?_ rfl rfl rfl (Nat.lt_of_succ_lt hroom) ?_
  · intro vs hvs
    obtain ⟨v1, v2, rfl⟩ := two_of hvs
    rfl
  · intro n x hx
    have hx' : x = Str.ofString "signs" ∨ x = Str.ofString "net" := by simpa using hx
    rcases hx' with rfl | rfl
    · exact .inr ⟨rfl, rfl⟩
    · exact .inl rfl
  intro L W V s s1 hV S E
  refine St.assignCompOwn (c := fnCx c _ 110 L W V _) (ρc := [(Str.ofString "signs", sg)]) (its := [.int 0, .int 1, .int 2, .int 3]) (res := [some (.str (wtxt 0 n0)), some (.str (wtxt 1 n1)), some (.str (wtxt 2 n2)), some (.str (wtxt 3 n3))]) S ⟨rfl, rfl, by decide, fun C => .inl rfl, fun C => .inl rfl, ⟨⟨rfl, .inl rfl, fun C => .inl rfl, fun C => rfl⟩, trivial⟩, rfl⟩ (Src.range1 (n := 4) (Ev.builtin rfl (by show nsIn c.K _ _ = _; rw [P.K]; kernel_rfl) rfl) Ev.int (by decide) (by decide)) ?_ (by decide) (.inl rfl) ?_
  · refine .cons (fun C W' => ⟨Ts.nil, fun r hr => ?_⟩) (.cons (fun C W' => ⟨Ts.nil, fun r hr => ?_⟩) (.cons (fun C W' => ⟨Ts.nil, fun r hr => ?_⟩) (.cons (fun C W' => ⟨Ts.nil, fun r hr => ?_⟩) .nil)))
    · cases hr; exact Ev.bn (Ev.bn Ev.str (Ev.sbs (Ev.name rfl) (Ev.name rfl) (hsg.it plain_name).1) (Bn.addStr (len_a _))) (Ev.bn Ev.str (Ev.name rfl) (Bn.mulStr (mulOk_eq 0 (by decide)))) (Bn.addStr (len_b _ _ (by decide)))
    · cases hr; exact Ev.bn (Ev.bn Ev.str (Ev.sbs (Ev.name rfl) (Ev.name rfl) (hsg.it plain_name).2.1) (Bn.addStr (len_a _))) (Ev.bn Ev.str (Ev.name rfl) (Bn.mulStr (mulOk_eq 1 (by decide)))) (Bn.addStr (len_b _ _ (by decide)))
    · cases hr; exact Ev.bn (Ev.bn Ev.str (Ev.sbs (Ev.name rfl) (Ev.name rfl) (hsg.it plain_name).2.2.1) (Bn.addStr (len_a _))) (Ev.bn Ev.str (Ev.name rfl) (Bn.mulStr (mulOk_eq 2 (by decide)))) (Bn.addStr (len_b _ _ (by decide)))
    · cases hr; exact Ev.bn (Ev.bn Ev.str (Ev.sbs (Ev.name rfl) (Ev.name rfl) (hsg.it plain_name).2.2.2) (Bn.addStr (len_a _))) (Ev.bn Ev.str (Ev.name rfl) (Bn.mulStr (mulOk_eq 3 (by decide)))) (Bn.addStr (len_b _ _ (by decide)))
  · intro a s2 ha S2
    have hlen : ∀ i, (runT (ws0 n0 n1 n2 n3) (net.take i)).length = 4 := fun i => runT_length _ _
    refine St.for (fun i => [(a, dStrs (runT (ws0 n0 n1 n2 n3) (net.take i)))])
      (fun _ => [(Str.ofString "wires", .obj (.ref a)), (Str.ofString "signs", sg), (Str.ofString "net", .list (dInts net))]) S2 (Src.list (Ev.name rfl)) (.inl rfl) ?_ ?_
    · intro i d W1 s3 s4 hd T E1
      obtain ⟨w, hw, rfl⟩ : ∃ w, net[i]? = some w ∧ d = .int w := by
        rw [List.getElem?_map] at hd
        cases hq : net[i]? with
        | none => rw [hq] at hd; cases hd
        | some w => rw [hq] at hd; cases hd; exact ⟨w, rfl, rfl⟩
      obtain ⟨h0, h2⟩ := hnet w (List.mem_of_getElem? hw)
      have hl4 := hlen i
      generalize hws : runT (ws0 n0 n1 n2 n3) (net.take i) = ws at T hl4
      have hstep : runT (ws0 n0 n1 n2 n3) (net.take (i + 1)) = stepT ws w := by
        rw [List.take_add_one, hw, ← hws]; simp [runT, List.foldl_append]
      rw [hstep]
      have hi1 : w.toNat < ws.length := by omega
      have hi2 : (w + 1).toNat < ws.length := by omega
      have hn1 : (w + 1).toNat = w.toNat + 1 := by omega
      have it1 : (dStrs ws)[w.toNat]? = some (.str (ws.getD w.toNat default)) := by rw [List.getElem?_map, getD_some hi1]; rfl
      have it2 : (dStrs ws)[(w + 1).toNat]? = some (.str (ws.getD (w.toNat + 1) default)) := by rw [List.getElem?_map, hn1, getD_some (by omega)]; rfl
      refine St.assign T (Ev.callFn (Ev.glob rfl (by show nsIn c.K _ _ = _; rw [P.K]; kernel_rfl) fun _ _ => .obj _) ((congrArg (List.lookup 28) P.K).trans rfl) rfl (.cons (Ev.ownItem rfl List.mem_cons_self (Ev.name rfl) h0 it1 (by omega) plain_name) (.cons (Ev.ownItem rfl List.mem_cons_self (Ev.add (Ev.name rfl) Ev.int) (by omega) it2 (by omega) plain_bin) .nil)) (strcoll_spec P.of (by exact hroom) _ _)) (.inl rfl) ?_
      intro s5 T5
      have noB : nsIn c.K mainGlobals (Str.ofString "isinstance") = some none := by rw [P.K]; kernel_rfl
      have noI : nsIn c.K mainGlobals (Str.ofString "int") = some none := by rw [P.K]; kernel_rfl
      have noO : nsIn c.K mainGlobals (Str.ofString "bool") = some none := by rw [P.K]; kernel_rfl
      refine St.if T5 (Tv.and (Ta.cons (Tv.cm (Ev.name rfl) Ev.int Cm.eqInt) fun _ => Ta.cons (Tv.ofEv (Ev.callB (Ev.builtin rfl noB rfl) (.cons (Ev.name rfl) (.cons (Ev.builtin rfl noI rfl) .nil)) Cl.isIntInt)) fun _ => Ta.cons (Tv.not (Tv.ofEv (Ev.callB (Ev.builtin rfl noB rfl) (.cons (Ev.name rfl) (.cons (Ev.builtin rfl noO rfl) .nil)) Cl.isIntBool))) fun _ => Ta.nil)) ?_ ?_
      · intro hb s6 T6
        refine St.if T6 (Tv.cm (Ev.callFn (Ev.glob rfl (by show nsIn c.K _ _ = _; rw [P.K]; kernel_rfl) fun _ _ => .obj _) ((congrArg (List.lookup 28) P.K).trans rfl) rfl (.cons (Ev.ownItem rfl List.mem_cons_self (Ev.add (Ev.name rfl) Ev.int) (by omega) it2 (by omega) plain_bin) (.cons (Ev.ownItem rfl List.mem_cons_self (Ev.name rfl) h0 it1 (by omega) plain_name) .nil)) (strcoll_spec P.of (by exact hroom) _ _)) (Ev.neg Ev.int) Cm.eqInt) ?_ ?_
        · intro hb2 s7 T7
          refine St.swap T7 (Ev.tuple (.cons (Ev.ownItem rfl List.mem_cons_self (Ev.add (Ev.name rfl) Ev.int) (by omega) it2 (by omega) plain_bin) (.cons (Ev.ownItem rfl List.mem_cons_self (Ev.name rfl) h0 it1 (by omega) plain_name) .nil))) rfl rfl (fun _ h => nomatch h) (Ev.name rfl) (Ev.add (Ev.name rfl) Ev.int) h0 (by simp; omega) (by omega) (by omega) (by simp; omega) (by omega) ?_
          intro s8 T8
          refine St.nil (St.nil (St.nil ⟨rfl, ?_⟩))
          have e : stepT ws w = (ws.set w.toNat (ws.getD (w.toNat + 1) default)).set (w.toNat + 1) (ws.getD w.toNat default) := if_pos ⟨by simpa using hb, by simpa using hb2⟩
          rw [e]
          have e2 : dStrs ((ws.set w.toNat (ws.getD (w.toNat + 1) default)).set (w.toNat + 1) (ws.getD w.toNat default)) = ((dStrs ws).set w.toNat (.str (ws.getD (w.toNat + 1) default))).set (w + 1).toNat (.str (ws.getD w.toNat default)) := by
            rw [hn1]; simp [dStrs, List.map_set]
          rw [e2]
          exact T8.weak (.cons rfl (.cons rfl (.cons rfl .nil)))
        · intro hb2 s7 T7
          refine St.nil (St.nil (St.nil ⟨rfl, ?_⟩))
          have e : stepT ws w = ws := if_neg fun h => by rw [h.2] at hb2; exact absurd hb2 (by decide)
          rw [e]
          exact T7.weak (.cons rfl (.cons rfl (.cons rfl .nil)))
      · intro hb s6 T6
        refine St.nil (St.nil ⟨rfl, ?_⟩)
        have e : stepT ws w = ws := if_neg fun h => by rw [h.1] at hb; exact absurd hb (by decide)
        rw [e]
        exact T6.weak (.cons rfl (.cons rfl (.cons rfl .nil)))
    · intro s3 S3
      have hn : (dInts net).length = net.length := by simp
      rw [hn, List.take_length] at S3
      have haW : a ∉ W := fun hm => by obtain ⟨o, ho⟩ := S.ok.wex a hm; rw [ha] at ho; cases ho
      have haV : a ∉ V := fun hm => haW (S.ok.vw a hm)
      have h0 : s.heap.get? a = none := by
        cases z : s.heap.get? a with
        | none => rfl
        | some o => have := S.keep a o haV z; rw [ha] at this; cases this
      have S4 := Sta.freeze (c := fnCx c _ 110 L W V _) (W := W) (V := V) (own := []) (x := Str.ofString "wires") S3 rfl haV haW h0 (fun _ h => nomatch h) (S.ok.fr.shrink S3.ok.fr) S.ok.vw
      have hmem : ∀ t ∈ runT (ws0 n0 n1 n2 n3) net, t ∈ ws0 n0 n1 n2 n3 := mem_runT net _ fun w hw => by have := hnet w hw; show w.toNat + 1 < 4; omega
      have hl4 : (runT (ws0 n0 n1 n2 n3) net).length = 4 := runT_length _ _
      have hfin : dStrs ((runT (ws0 n0 n1 n2 n3) net).map signOf) = ((runT (ws0 n0 n1 n2 n3) net).map fun t => some (D.str (signOf t))).filterMap id := by
        simp [dStrs, List.filterMap_map]
      rw [hfin]
      refine Run.of (St.retFn hV (fun _ h => h) S4 (Ev.comp (ρc := []) ⟨rfl, rfl, by decide, fun C => .inl rfl, fun C => .inl rfl, trivial, rfl⟩ (Src.list (Ev.name rfl)) (All2.map fun t ht C W' => ⟨Ts.nil, fun r hr => ?_⟩) (by simp [hl4]; decide)))
      cases hr
      exact Ev.sbs (Ev.name rfl) Ev.int (It.str (by decide) (sign_at (hmem t ht)) (by decide) plain_const)

end Mine

end -- OyRun

section -- OyF2
open PySem PySem.W PySem.Calls PyProof.Rows
set_option Elab.async false
set_option maxRecDepth 100000
namespace Mine

theorem Pr.no {c c' : Cx} {x : Str} (P : Pr c) (h : nsIn (oy_hd.heap_39 c.w.params) mainGlobals x = some Option.none) (hk : c'.K = c.K := by kernel_rfl) : nsIn c'.K mainGlobals x = some Option.none := by rw [hk, P.K]; exact h
theorem Pr.ye {c c' : Cx} {x : Str} {v : Value} (P : Pr c) (h : nsIn (oy_hd.heap_39 c.w.params) mainGlobals x = some (some v)) (hk : c'.K = c.K := by kernel_rfl) : nsIn c'.K mainGlobals x = some (some v) := by rw [hk, P.K]; exact h
theorem Pr.at {c c' : Cx} {f : Addr} {o : Obj} (P : Pr c) (h : (oy_hd.heap_39 c.w.params).lookup f = some o) (hk : c'.K = c.K := by kernel_rfl) : c'.K.lookup f = some o := by rw [hk, P.K]; exact h

theorem Sta.fin {c : Cx} {s0 s' : Shared} {v : Value} {d : D} {W : List Addr} (hV : ∀ a ∈ c.V, s0.heap.get? a = Option.none) (hW : ∀ a ∈ W, a ∈ c.W) (S' : Sta c s0 s') (r : Rd c.W s'.heap v d) :
    ∃ v', Flow.ret v = .ret v' ∧ Kp s0 s' ∧ Rd W s'.heap v' d := ⟨v, rfl, by
    obtain ⟨h, t, e⟩ := S'.same
    refine ⟨h, t, e, fun b o z => ?_⟩
    have := S'.keep b o (fun hm => by rw [hV b hm] at z; cases z) z
    rw [e] at this; exact this, r.less hW⟩

set_option maxHeartbeats 4000000 in
theorem ifmt_spec {c : Cx} (P : Pr c) (hroom : c.A.depth < recursionLimit) (m : Int) : Cl c (.ref 65) [.int m] (.int (Builtin.bitAnd m 61440)) := by
  refine Cl.fn (names := [Str.ofString "mode"]) (P.at rfl) rfl (by rw [P.K]; kernel_rfl) rfl rfl rfl rfl rfl ?_ (by decide) ?_ rfl rfl rfl hroom ?_
  · intro vs hvs
    obtain ⟨v1, rfl⟩ := one_of hvs
    rfl
  · intro n x hx
    exact .inl (by revert x; decide)
  intro L W V s s1 hV S E
  exact St.retFn (c := fnCx c _ 65 L W V _) hV (fun _ h => h) S (Ev.bn (Ev.name rfl) Ev.int Bn.and)

set_option maxHeartbeats 4000000 in
theorem buffer_spec {c : Cx} (P : Pr c) (hroom : c.A.depth < recursionLimit) (b : Array UInt8) : Cl c (.ref 35) [.bytes b] (.bytes b) := by
  refine Cl.fn (names := [Str.ofString "data"]) (P.at rfl) rfl (by rw [P.K]; kernel_rfl) rfl rfl rfl rfl rfl ?_ (by decide) ?_ rfl rfl rfl hroom ?_
  · intro vs hvs
    obtain ⟨v1, rfl⟩ := one_of hvs
    rfl
  · intro n x hx
    exact .inl (by revert x; decide)
  intro L W V s s1 hV S E
  refine St.assign (c := fnCx c _ 35 L W V _) S (Ev.callT (Ev.builtin rfl (P.no (by kernel_rfl)) rfl) (.cons (Ev.name rfl) .nil) (Cl.type (T := "bytes") (fun W s v r => (tyBytes W s v r).1))) (.inl rfl) ?_
  intro s2 S2
  refine St.if S2 (Tv.cm (Ev.name rfl) (Ev.builtin rfl (P.no (by kernel_rfl)) rfl) Cm.isType) ?_ (fun h => by cases h)
  intro _ s3 S3
  exact St.ret S3 (Ev.name rfl) fun v s' S' r => S'.fin hV (fun _ h => h) r

set_option maxHeartbeats 4000000 in
theorem truth_spec {c : Cx} (P : Pr c) (hroom : c.A.depth < recursionLimit) (b : Bool) : Cl c (.ref 42) [.bool b] (.bool b) := by
  refine Cl.fn (names := [Str.ofString "x"]) (P.at rfl) rfl (by rw [P.K]; kernel_rfl) rfl rfl rfl rfl rfl ?_ (by decide) ?_ rfl rfl rfl hroom ?_
  · intro vs hvs
    obtain ⟨v1, rfl⟩ := one_of hvs
    rfl
  · intro n x hx
    exact .inl (by revert x; decide)
  intro L W V s s1 hV S E
  refine St.assign (c := fnCx c _ 42 L W V _) S (Ev.callT (Ev.builtin rfl (P.no (by kernel_rfl)) rfl) (.cons (Ev.name rfl) .nil) (Cl.type (T := "bool") (fun W s v r => by cases r; exact PySem.typeIs_bool _ _))) (.inl rfl) ?_
  intro s2 S2
  refine St.if (v := true) S2 (Tv.or (To.cons (b := false) (b' := true) (Tv.cm (Ev.name rfl) Ev.none (Cm.isNone (fun W h v r => by cases r; rfl))) fun _ => To.cons (b := true) (b' := true) (Tv.cm (Ev.name rfl) (Ev.builtin rfl (P.no (by kernel_rfl)) rfl) Cm.isType) fun h => by cases h)) ?_ (fun h => by cases h)
  intro _ s3 S3
  refine St.ret S3 (d := .bool b) (Ev.ite (Tv.ofEv (Ev.name rfl)) (fun h => ?_) (fun h => ?_)) fun v s' S' r => S'.fin hV (fun _ h => h) r
  · rw [h]; exact Ev.bool
  · rw [h]; exact Ev.bool

end Mine

end -- OyF2

section -- OyEnum
open PySem PySem.W PySem.Calls PyProof.Rows
set_option Elab.async false
set_option maxRecDepth 100000
namespace Mine
open AutoSeq1 (wpAny_loadPart')

section
variable {prog : Program} {w : World} {A : Around} {E : Value → Shared → Prop} {s : Shared}
theorem nextOf_tup {it t : Addr} {i : Nat} {items : Array Value} {x : Value} {Q : Value → Shared → Prop} (hit : s.heap.IsTupleIter it t i) (ht : s.heap.IsTuple t items) (hx : items[i]? = some x)
    (hQ : ∀ h', h'.IsTupleIter it t (i + 1) → Heap.SameBut it s.heap h' → Q x { s with heap := h' }) : wpAny (model prog w) A (Builtin.SmallTypes.nextOf (.ref it)) Q E s := by
  obtain ⟨o, ho, hc, hd⟩ := id hit
  obtain ⟨ol, hol, _, nl, hdl⟩ := ht
  unfold Builtin.SmallTypes.nextOf
  refine wpAny_bind (wpAny_callSpecial?_slot (name := Str.ofString "__next__") hit.typeIs F.slot_tuple_iterator_next
    (wpAny_call_entry F.slot_tuple_iterator_next hit.typeIs F.entry_tuple_iterator_next ?_ (F.args_tuple_iterator_next_1 _)))
  show wpAny _ _ (field (.ref it) 0 >>= _) _ _ s
  refine wpAny_bind (wpAny_field ho hd (x := .ref t) rfl ?_)
  show wpAny _ _ (if (Value.ref t == Value.none) = true then _ else _) _ _ s
  rw [if_neg (show ¬ ((Value.ref t == Value.none) = true) from Bool.false_ne_true)]
  show wpAny _ _ (field (.ref it) 1 >>= _) _ _ s
  refine wpAny_bind (wpAny_field ho hd (x := .int i 0) rfl ?_)
  show wpAny _ _ (seqItems? (.ref t) >>= _) _ _ s
  refine wpAny_bind (wpAny_seqItems hol hdl ?_)
  simp only [Int.toNat_natCast, hx]
  refine wpAny_bind (wpAny_setField ho hd (by simp) (wpAny_pure ⟨x, rfl, wpAny_pure (hQ _ ⟨_, Heap.get?_update_self _ ho (Obj.isFreed_of_fields (Obj.data_mapFields hd _)), (Obj.cls_mapFields ..).trans hc, ?_⟩ (Heap.SameBut.update ..))⟩))
  rw [Obj.data_mapFields hd]; simp [rawInt]
theorem nextOf_tup_end {it t : Addr} {i : Nat} {items : Array Value} {Q : Value → Shared → Prop} (hh : A.handled = none) (hit : s.heap.IsTupleIter it t i) (ht : s.heap.IsTuple t items) (hx : items[i]? = none)
    (hE : ∀ h' e, Heap.ExtBut it s.heap h' → (∃ o, h'.get? e = some o ∧ o.cls = .type "StopIteration") → E (.ref e) { s with heap := h' }) : wpAny (model prog w) A (Builtin.SmallTypes.nextOf (.ref it)) Q E s := by
  obtain ⟨o, ho, hc, hd⟩ := id hit
  obtain ⟨ol, hol, _, nl, hdl⟩ := ht
  unfold Builtin.SmallTypes.nextOf
  refine wpAny_bind (wpAny_callSpecial?_slot (name := Str.ofString "__next__") hit.typeIs F.slot_tuple_iterator_next
    (wpAny_call_entry F.slot_tuple_iterator_next hit.typeIs F.entry_tuple_iterator_next ?_ (F.args_tuple_iterator_next_1 _)))
  show wpAny _ _ (field (.ref it) 0 >>= _) _ _ s
  refine wpAny_bind (wpAny_field ho hd (x := .ref t) rfl ?_)
  show wpAny _ _ (if (Value.ref t == Value.none) = true then _ else _) _ _ s
  rw [if_neg (show ¬ ((Value.ref t == Value.none) = true) from Bool.false_ne_true)]
  show wpAny _ _ (field (.ref it) 1 >>= _) _ _ s
  refine wpAny_bind (wpAny_field ho hd (x := .int i 0) rfl ?_)
  show wpAny _ _ (seqItems? (.ref t) >>= _) _ _ s
  refine wpAny_bind (wpAny_seqItems hol hdl ?_)
  simp only [Int.toNat_natCast, hx]
  refine wpAny_bind (wpAny_rule (wpAny_bind (wpAny_setField ho hd (by simp) ?_)))
  show wpAny _ _ (newExc (.type "StopIteration") [] >>= _) _ _ _
  refine wpAny_bind ?_
  simp only [newExc, newTuple]
  refine wpAny_bind (wpAny_newObj_type ?_ (by size_fits))
  refine wpAny_bind (m := firstArgMember _ _) (wpAny_of_eq (a := Value.none) (by first | rfl | (simp only [firstArgMember]; rfl)) ?_)
  refine wpAny_newObj_type ?_ (by size_fits)
  simp only [raiseNew]
  refine wpAny_bind (wpAny_handled ?_)
  first | rw [show A.in1.handled = none from hh] | rw [hh]
  refine wpAny_bind (wpAny_pure (wpAny_throw ?_))
  exact hE _ _ (((Heap.SameBut.update ..).extBut.push _).push _) ⟨_, Heap.get?_push_size _ rfl, rfl⟩
end

theorem drawsTup {prog : Program} {w : World} {A : Around} (hh : A.handled = none) (it t : Addr) (hne : t ≠ it) (items : Array Value) :
    Draws prog w A it [it, t] items.size (fun i v => items[i]? = some v) (fun i h => h.IsTupleIter it t i ∧ h.IsTuple t items) where
  live := fun _ _ st => let ⟨o, ho, _⟩ := st.1; ⟨o, ho⟩
  frame := fun _ _ _ st hk => ⟨st.1.at fun o e => hk it (by simp) o e, let ⟨o, ho, r⟩ := st.2; ⟨o, hk t (by simp) o ho, r⟩⟩
  item := fun i s Q E hi st hQ => nextOf_tup st.1 st.2 (x := items[i]) (by simp [hi]) fun h' hit' hs' => hQ _ h' s.toks (by simp [hi]) ⟨hit', st.2.extBut hs'.extBut hne⟩ hs'
  done := fun s Q E st hE => nextOf_tup_end hh st.1 st.2 (by simp) hE

theorem meets_enumT (l : Addr) (items : Array Value) (n : Nat) (dct : Option Addr) (sl : Array (Option Value)) :
    Meets (Builtin.«enumerate.__new__» ⟨[.type "enumerate", .ref l], []⟩) (fun _ R s => s.heap.get? l = some { cls := .type "tuple", dict := dct, data := .seq items n, slots := sl } ∧
      R (.ok (.ret (.ref (s.heap.push { cls := .type "tuple_iterator", data := .fields #[.ref l, .int 0 0] }).objs.size)))
        { s with heap := (s.heap.push { cls := .type "tuple_iterator", data := .fields #[.ref l, .int 0 0] }).push { cls := .type "enumerate", data := .fields #[.none, .bool false, .ref s.heap.objs.size, rawInt 0, .none, .none] } }) :=
  .of_wp fun prog w A R s h => by
    obtain ⟨hp, g, d, tk, os⟩ := s; obtain ⟨hl, h⟩ := h
    have hsub := sub_enumerate
    have hL : Heap.IsTuple (Shared.heap ⟨hp, g, d, tk, os⟩) l items := ⟨_, hl, rfl, n, rfl⟩
    wp_walk using wpAny_loadPart' hl
    refine wpAny_stack_any fun st => wpAny_pure ?_
    split
    · rename_i c _ _ _ _ _
      cases (c == Value.type "enumerate")
      · wp_walk using wpAny_loadPart' hl, wpAny_pyIter_tuple hL
        exact ⟨_, rfl, h⟩
      · wp_walk using wpAny_loadPart' hl, wpAny_pyIter_tuple hL
        exact ⟨_, rfl, h⟩
    · wp_walk using wpAny_loadPart' hl, wpAny_pyIter_tuple hL
      exact ⟨_, rfl, h⟩

theorem call_enumT {prog : Program} {w : World} {A : Around} {E : Value → Shared → Prop} {s : Shared} {l : Addr} {items : Array Value} {Q : Value → Shared → Prop} (hL : s.heap.IsTuple l items)
    (h : ∀ h', IsEnum h' (s.heap.objs.size + 1) s.heap.objs.size 0 .none → h'.IsTupleIter s.heap.objs.size l 0 → h'.objs.size = s.heap.objs.size + 2 → Ext s.heap h' → Q (.ref (s.heap.objs.size + 1)) { s with heap := h' }) :
    wpAny (model prog w) A (call (.type "enumerate") [.ref l]) Q E s := by
  obtain ⟨⟨c, dct, dt, sl⟩, hl, hc, n, hd⟩ := hL
  replace hc : c = .type "tuple" := hc
  replace hd : dt = .seq items n := hd
  subst hc hd
  refine callType_new F.called_enumerate (by decide) (F.typeCall_enumerate_1 _) (F.newCall_enumerate_1 _) (fun obj => F.args_object_init_2 obj _) F.entry_enumerate_new
    (meets_enumT l items n dct sl) ⟨hl, ?_⟩
  have hz : (s.heap.push { cls := .type "tuple_iterator", data := .fields #[.ref l, .int 0 0] }).objs.size = s.heap.objs.size + 1 := Heap.size_push ..
  show _ ∧ _
  rw [hz]
  have he : IsEnum ((s.heap.push { cls := .type "tuple_iterator", data := .fields #[.ref l, .int 0 0] }).push
      { cls := .type "enumerate", data := .fields #[.none, .bool false, .ref s.heap.objs.size, rawInt 0, .none, .none] }) (s.heap.objs.size + 1) s.heap.objs.size 0 .none := by
    have := Heap.get?_push_size (s.heap.push { cls := .type "tuple_iterator", data := .fields #[.ref l, .int 0 0] })
      (o := { cls := .type "enumerate", data := .fields #[.none, .bool false, .ref s.heap.objs.size, rawInt 0, .none, .none] }) rfl
    rw [hz] at this; exact this
  refine ⟨⟨_, he, rfl⟩, h _ he ⟨_, Heap.get?_push_of_some _ (Heap.get?_push_size _ rfl), rfl, rfl⟩ (by rw [Heap.size_push, hz]) fun b o y => Heap.get?_push_of_some _ (Heap.get?_push_of_some _ y)⟩

/-- a tuple of pairs under any target -/
theorem SrcF.tuple {c : Cx} {e target : Expr} {ds : List D} (h : Ev c e (.tuple ds)) : SrcF c e target ds := by
  intro s k E Q q
  refine h.step k fun v s₁ e₁ k₁ r => ?_
  obtain ⟨a, vs, rfl, ha, hl, rs⟩ := r.tupI
  refine wpAny_pyIter_tuple hl ?_
  have hlt : a < s₁.heap.objs.size := by obtain ⟨o, ho, _⟩ := hl; exact Heap.lt_size ho
  have W := Walks.tuple (prog := c.prog) (w := c.w) k.hh s₁.heap.objs.size a (Nat.ne_of_lt hlt) vs.toArray
  have hn : vs.toArray.size = ds.length := by simp [rs.length]
  rw [hn] at W
  have hI : s₁.heap.get? s₁.heap.objs.size = none := get_none_of_ge (Nat.le_refl _)
  refine q s₁.heap.objs.size _ [s₁.heap.objs.size] _ s₁ _ e₁ (.grow _ _ _ (Ext.push _ _)) ⟨W.sub, fun b hb => ?_, fun b hb => (by rw [List.mem_singleton.mp hb]; exact hI), fun i h st b hb => (by rw [List.mem_singleton.mp hb]; obtain ⟨o, ho, _⟩ := st.1; exact ⟨o, ho⟩), W.frame, ?_, fun s Q E st hQ => W.done s Q E st hQ⟩
    ⟨⟨_, Heap.get?_push_size _ rfl, rfl, rfl⟩, hl.push _⟩
  · rcases List.mem_cons.mp hb with rfl | hb
    · exact k₁.fresh
    · rw [List.mem_singleton.mp hb]; exact ha
  · intro i d s Q E hd st hw hx hQ
    have hi : i < ds.length := (List.getElem?_eq_some_iff.mp hd).1
    refine W.item i s _ _ hi st fun v h' tk hPv st' hk => ?_
    refine letGo_tupleiter (E := E) st'.1 (hQ v h' tk st' hk ?_)
    obtain ⟨d', hd', r⟩ := rs.get' (i := i) (v := v) (by simpa using hPv)
    rw [hd] at hd'; cases hd'
    refine r.move fun b o hb e => ?_
    have hbI : b ∉ [s₁.heap.objs.size] := fun z => by rw [List.mem_singleton.mp z, hI] at e; cases e
    have hb' : b ∉ [s₁.heap.objs.size] ++ c.W := fun z => (List.mem_append.mp z).elim hbI hb
    exact ⟨hk b o hbI (hx b o hb' e), hb'⟩

/-- pairs of place and item -/
noncomputable def enumD (ds : List D) : List D := ds.zipIdx.map fun p => .tuple [.int (p.2 : Nat), p.1]
theorem enumD_length (ds : List D) : (enumD ds).length = ds.length := by simp [enumD]
theorem enumD_get {ds : List D} {i : Nat} {d : D} (h : ds[i]? = some d) : (enumD ds)[i]? = some (.tuple [.int (i : Nat), d]) := by simp [enumD, h]

theorem SrcF.enumT {c : Cx} {x : Str} {np pos : Pos} {e : Expr} {elts : List Expr} {k0 : Nat} {tp : Pos} {ds : List D} (hf : Ev c (.Name x np) (.obj (.type "enumerate"))) (h : Ev c e (.tuple ds))
    (hs : starEach [e] c.env = [(false, eval e c.env)] := by rfl) : SrcF c (.Call (.Name x np) [e] [] pos) (.Tuple elts k0 tp) (enumD ds) := by
  intro s k E Q q
  refine wpAny_Call_NameR (hf.step k fun v s₁ e₁ k₁ r => ?_)
  obtain rfl := r.objI
  refine PyProof.Rows.callWith_type1 ((EvL.cons h .nil hs).step k₁ fun vs s₂ e₂ k₂ rs => ?_) hs rfl
  obtain ⟨_, rfl, r⟩ := rs.inv1
  obtain ⟨l, vs, rfl, ha, hl, rs⟩ := r.tupI
  refine call_enumT hl fun h' he hit hsz hk => ?_
  refine wpAny_pyIter_enum he ?_
  have hlt : l < s₂.heap.objs.size := by obtain ⟨o, ho, _⟩ := hl; exact Heap.lt_size ho
  have D := drawsTup (prog := c.prog) (w := c.w) (A := c.A.in1) k.hh s₂.heap.objs.size l (Nat.ne_of_lt hlt) vs.toArray
  have W := WalksT.enumerateD D (s₂.heap.objs.size + 1) (Nat.succ_ne_self _) (fun hm => by
    rcases List.mem_cons.mp hm with e | hm
    · exact Nat.succ_ne_self _ e
    · exact Nat.ne_of_gt (Nat.lt_succ_of_lt hlt) (List.mem_singleton.mp hm)) (by simp)
  have hn : vs.toArray.size = (enumD ds).length := by rw [enumD_length]; simp [rs.length]
  rw [hn] at W
  have hI : s₂.heap.get? s₂.heap.objs.size = none := get_none_of_ge (Nat.le_refl _)
  have hI1 : s₂.heap.get? (s₂.heap.objs.size + 1) = none := get_none_of_ge (Nat.le_succ _)
  have kq : Kp s₂ { s₂ with heap := h' } := .grow _ _ _ hk
  have nW : ∀ b, s₂.heap.get? b = none → b ∉ c.W := fun b hb hm => by obtain ⟨o, ho⟩ := k₂.wex b hm; rw [hb] at ho; cases ho
  refine q (s₂.heap.objs.size + 1) _ [s₂.heap.objs.size + 1, s₂.heap.objs.size] _ s₂ _ (e₁.trans e₂) kq ⟨W.sub, fun b hb => ?_, fun b hb => ?_, fun i h st b hb => ?_, W.frame, ?_, fun s Q E st hQ => W.done s Q E st hQ⟩ ⟨⟨_, he⟩, hit, let ⟨o, ho, r⟩ := hl; ⟨o, hk _ o ho, r⟩⟩
  · rcases List.mem_cons.mp hb with rfl | hb
    · exact nW _ hI1
    · rcases List.mem_cons.mp hb with rfl | hb
      · exact nW _ hI
      · rw [List.mem_singleton.mp hb]; exact ha
  · rcases List.mem_cons.mp hb with rfl | hb
    · exact hI1
    · rw [List.mem_singleton.mp hb]; exact hI
  · rcases List.mem_cons.mp hb with rfl | hb
    · obtain ⟨⟨old, he⟩, _⟩ := st; exact ⟨_, he⟩
    · rw [List.mem_singleton.mp hb]; obtain ⟨_, ⟨o, ho, _⟩, _⟩ := st; exact ⟨o, ho⟩
  · intro i d s Q E hd st hw hx hQ
    have hi : i < (enumD ds).length := (List.getElem?_eq_some_iff.mp hd).1
    refine W.item i s _ _ hi st fun T vals h1 tk hPv hT hTt hm hk1 => ?_
    refine W.go elts k0 tp i T { s with heap := h1, toks := tk } _ E hm fun h2 st2 hk2 => ?_
    obtain ⟨t, x, hx', rfl⟩ := hPv
    obtain ⟨d', hd', r⟩ := rs.get' (i := i) (v := x) (by simpa using hx')
    have hde := enumD_get hd'
    rw [hd] at hde; cases hde
    have hTs : s.heap.get? T = none := get_none_of_ge hT
    have hTW : T ∉ [s₂.heap.objs.size + 1, s₂.heap.objs.size] ++ c.W := fun z => by
      rcases List.mem_append.mp z with z | z
      · exact W.apart i T h1 hm z
      · obtain ⟨o, ho⟩ := hw T z; rw [hTs] at ho; cases ho
    refine hQ (.ref T) h2 tk st2 (fun b o hb e => hk2 b o hb (hk1 b o hb e)) (.tuple (vs := [.int i t, x]) hTW ?_ (.cons (.int _ _) (.one ?_)))
    · obtain ⟨o, ho, r⟩ := hTt; exact ⟨o, hk2 T o (W.apart i T h1 hm) ho, r⟩
    · refine r.move fun b o hb e => ?_
      have hbI : b ∉ [s₂.heap.objs.size + 1, s₂.heap.objs.size] := fun z => by
        rcases List.mem_cons.mp z with rfl | z
        · rw [hI1] at e; cases e
        · rw [List.mem_singleton.mp z, hI] at e; cases e
      have hb' : b ∉ [s₂.heap.objs.size + 1, s₂.heap.objs.size] ++ c.W := fun z => (List.mem_append.mp z).elim hbI hb
      exact ⟨hk2 b o hbI (hk1 b o hbI (hx b o hb' e)), hb'⟩

/-- a pair unpacked onto two names -/
theorem Sta.unpack2 {c : Cx} {s0 s : Shared} {x y : Str} {px py tp : Pos} {n : Nat} {v : Value} {d1 d2 : D} {Q : Unit → Shared → Prop} {E : Value → Shared → Prop} (S : Sta c s0 s) (hx : Storable c.env x) (hy : Storable c.env y) (r : Rd c.W s.heap v (.tuple [d1, d2]))
    (q : ∀ s', Sta ((c.set x d1).set y d2) s0 s' → Q () s') : wpAny c.M c.A (PySem.assign (.Tuple [.Name x px, .Name y py] n tp) c.env v) Q E s := by
  obtain ⟨_, _, rfl, ht, hl', rs⟩ := r.tupI
  obtain ⟨_, _, rfl, r1, r2⟩ := rs.inv2
  refine wpAny_assign_Tuple S.ok.hh hl' rfl rfl fun h' he => ?_
  have e2 : Kp s { s with heap := h' } := .grow _ _ _ fun b o z => he b o (Nat.ne_of_lt (Heap.lt_size z)) z
  have S₂ := S.quiet e2
  refine wpAny_assignInOrder_more (wpAny_assign_Name (S₂.store2 hx (r1.ext e2.ext) fun s₃ S₃ hs => ?_))
  refine wpAny_assignInOrder_more (wpAny_assign_Name (S₃.store (c := c.set x d1) hy ((r2.ext e2.ext).mono fun b o hb z => ?_) fun s₄ S₄ => ?_))
  · exact hs.extBut b o (fun w => hb (by rw [w]; exact S.ok.vw _ (slot_mem S.ok.fr hx))) z
  · exact wpAny_assignInOrder_none (q s₄ S₄)

end Mine

end -- OyEnum

section -- OyMode
open PySem PySem.W PySem.Calls PyProof.Rows
set_option Elab.async false
set_option maxRecDepth 100000
namespace Mine

noncomputable def badOwn : List (Addr × List D) := [(0, [.none]), (0, [])]
theorem Sta.bad {c : Cx} {s0 s : Shared} (S : Sta c s0 s) (h : c.own = badOwn) : False := by
  obtain ⟨_, vs, ⟨n, l⟩, r⟩ := S.ok.own (0, [.none]) (by rw [h]; simp [badOwn])
  obtain ⟨_, ws, ⟨m, l'⟩, r'⟩ := S.ok.own (0, []) (by rw [h]; simp [badOwn])
  have e := l.symm.trans l'
  have e2 : vs = ws := by simp at e; exact e.1
  have h1 : vs.length = 1 := r.length
  have h2 : ws.length = 0 := r'.length
  rw [e2] at h1; omega

open Classical in
/-- a for that knows what held at each turn -/
theorem St.forQ {c : Cx} {s0 s : Shared} {rest : List Stmt} {Q : Flow → Shared → Prop} {E : Value → Shared → Prop} {target iter : Expr} {body orelse : List Stmt} {pos : Pos} {its : List D} (G : Nat → Prop) (own : Nat → List (Addr × List D)) (ρ : Nat → List (Str × D)) (ownE : List (Addr × List D)) (ρE : List (Str × D))
    (g0 : G 0) (S : Sta (c.at c.W (own 0) (ρ 0)) s0 s) (hsrc : SrcF (c.at c.W (own 0) (ρ 0)) iter target its)
    (turn : ∀ i d W s1 s2 v, G i → its[i]? = some d → Sta (c.at W (own i) (ρ i)) s1 s2 → Rd W s2.heap v d → ∀ E, wpAny c.M c.A (PySem.assign target c.env v) (fun _ s3 => wpAny c.M c.A (execs body c.env) (fun f s4 => match f with
      | .next | .cont => G (i + 1) ∧ Sta (c.at W (own (i + 1)) (ρ (i + 1))) s1 s4
      | .brk => Sta (c.at W ownE ρE) s1 s4
      | .ret _ => False) E s3) E s2)
    (els : ∀ W s1 s2, G its.length → Sta (c.at W (own its.length) (ρ its.length)) s1 s2 → ∀ E, Run (c.at W (own its.length) (ρ its.length)) orelse (fun f s4 => f = .next ∧ Sta (c.at W ownE ρE) s1 s4) E s2)
    (q : ∀ s', Sta (c.at c.W ownE ρE) s0 s' → Run (c.at c.W ownE ρE) rest Q E s')
    (hs : ∀ x, foldedSetIterable iter c.env x = pure x := by intro _; rfl) :
    Run c (.For target iter body orelse pos :: rest) Q E s := by
  refine St.forG (fun i => if G i then own i else badOwn) ρ ownE ρE (by simpa only [if_pos g0] using S) (by simpa only [if_pos g0] using hsrc) ?_ ?_ q hs
  · intro i d W s1 s2 v hd T r E
    by_cases g : G i
    · simp only [if_pos g] at T
      refine wpAny_mono (turn i d W s1 s2 v g hd T r E) (fun _ s3 h3 => wpAny_mono h3 (fun f s4 h4 => ?_) fun _ _ e => e) fun _ _ e => e
      cases f with
      | next => simp only [if_pos h4.1]; exact h4.2
      | cont => simp only [if_pos h4.1]; exact h4.2
      | brk => exact h4
      | ret v => exact h4
    · exact (T.bad (if_neg g)).elim
  · intro W s1 s2 T E
    by_cases g : G its.length
    · simp only [if_pos g] at T
      exact Run.of (els W s1 s2 g T E)
    · exact (T.bad (if_neg g)).elim

noncomputable def fmTab : List (List (Int × Nat)) := [[(40960,108),(49152,115),(32768,45),(24576,98),(16384,100),(8192,99),(4096,112)],[(256,114)],[(128,119)],[(2112,115),(2048,83),(64,120)],[(32,114)],[(16,119)],[(1032,115),(1024,83),(8,120)],[(4,114)],[(2,119)],[(513,116),(512,84),(1,120)]]
noncomputable def dPair (p : Int × Nat) : D := .tuple [.int p.1, .str ⟨#[p.2]⟩]
noncomputable def dTab (t : List (Int × Nat)) : D := .tuple (t.map dPair)
noncomputable def fmHit (i : Nat) (m : Int) (p : Int × Nat) : Bool := if i = 0 then Builtin.bitAnd m 61440 == p.1 else Builtin.bitAnd m p.1 == p.1
noncomputable def fmSign (i : Nat) (m : Int) (t : List (Int × Nat)) : Nat := match t.find? (fmHit i m) with
  | some p => p.2
  | none => if i = 0 then 63 else 45
noncomputable def fmList (m : Int) : List Str := fmTab.zipIdx.map fun p => ⟨#[fmSign p.2 m p.1]⟩

theorem find_first {α : Type} {f : α → Bool} {p : α} : ∀ {t : List α} {j : Nat}, t[j]? = some p → (∀ q ∈ t.take j, f q = false) → f p = true → t.find? f = some p
  | [], j, e, _, _ => by simp at e
  | a :: t, 0, e, _, h => by simp at e; subst e; simp [h]
  | a :: t, j + 1, e, hn, h => by
    have ha : f a = false := hn a (by simp)
    rw [List.find?_cons, ha]
    exact find_first (t := t) (j := j) (by simpa using e) (fun q hq => hn q (by simp [hq])) h
theorem find_none {α : Type} {f : α → Bool} {t : List α} (h : ∀ q ∈ t, f q = false) : t.find? f = none := by
  rw [List.find?_eq_none]; intro q hq; rw [h q hq]; decide

theorem St.brk {c : Cx} {s : Shared} {rest : List Stmt} {Q : Flow → Shared → Prop} {E : Value → Shared → Prop} {pos : Pos} (h : Q .brk s) : Run c (.Break pos :: rest) Q E s := wpAny_execs_cons (wpAny_Break h)

theorem tab_rd {c : Cx} (P : Pr c) {h : Heap} (k : Ok c h) : Rd c.W h (.ref 98) (.tuple (fmTab.map dTab)) := by
  have T : ∀ {a : Addr} {o : Obj} {vs : List Value} {n : Nat} {ds : List D}, (oy_hd.heap_39 c.w.params).lookup a = some o → o.cls = .type "tuple" → o.data = .seq vs.toArray n → Rds c.W h vs ds → Rd c.W h (.ref a) (.tuple ds) := by
    intro a o vs n ds hl hc hd rs
    have hK : c.K.lookup a = some o := P.at hl
    exact .tuple (fun hm => by have := k.wnew a hm; rw [k.gl.K a o hK] at this; cases this) ⟨o, k.glh.K a o hK, hc, n, hd⟩ rs
  refine T rfl rfl rfl ?_
  repeat' first
    | exact Rds.nil
    | exact Rd.int _ _
    | exact Rd.str _ _
    | refine Rds.cons ?_ ?_
    | refine T rfl rfl rfl ?_

theorem tab_eq {c : Cx} (P : Pr c) {np : Pos} (hk : c.env.kindOf (Str.ofString "_filemode_table") = some .globalImplicit) : Ev c (.Name (Str.ofString "_filemode_table") np) (.tuple (fmTab.map dTab)) :=
  Ev.glob hk (P.ye (by kernel_rfl)) fun _ k => tab_rd P k

theorem fmList_get {m : Int} {i : Nat} {t : List (Int × Nat)} (h : fmTab[i]? = some t) : (fmList m)[i]? = some ⟨#[fmSign i m t]⟩ := by
  simp [fmList, h]

theorem Sta.unp {c : Cx} {M : Model} {A : Around} {env : Env} {s0 s : Shared} {x y : Str} {px py tp : Pos} {n : Nat} {v : Value} {d1 d2 : D} {Q : Unit → Shared → Prop} {E : Value → Shared → Prop} (S : Sta c s0 s) (hx : Storable c.env x) (hy : Storable c.env y) (r : Rd c.W s.heap v (.tuple [d1, d2]))
    (q : ∀ s', Sta ((c.set x d1).set y d2) s0 s' → Q () s') (hM : M = c.M := by rfl) (hA : A = c.A := by rfl) (he : env = c.env := by rfl) : wpAny M A (PySem.assign (.Tuple [.Name x px, .Name y py] n tp) env v) Q E s := by
  subst hM hA he; exact S.unpack2 hx hy r q
theorem Sta.run {c : Cx} {s0 s : Shared} {b : List Stmt} {Q : Flow → Shared → Prop} {E : Value → Shared → Prop} (_ : Sta c s0 s) (h : Run c b Q E s) : wpAny c.M c.A (execs b c.env) Q E s := h
theorem fmSign_hit {i : Nat} {m : Int} {t : List (Int × Nat)} {j : Nat} {p : Int × Nat} (hp : t[j]? = some p) (hG : ∀ q ∈ t.take j, fmHit i m q = false) (h : fmHit i m p = true) : fmSign i m t = p.2 := by
  unfold fmSign; rw [find_first hp hG h]
theorem fmSign_no {i : Nat} {m : Int} {t : List (Int × Nat)} (hG : ∀ q ∈ t, fmHit i m q = false) : fmSign i m t = if i = 0 then 63 else 45 := by
  unfold fmSign; rw [find_none hG]
theorem fmG_next {i : Nat} {m : Int} {t : List (Int × Nat)} {j : Nat} {p : Int × Nat} (hp : t[j]? = some p) (hG : ∀ q ∈ t.take j, fmHit i m q = false) (h : fmHit i m p = false) : ∀ q ∈ t.take (j + 1), fmHit i m q = false := by
  intro q hq
  rw [List.take_add_one, hp] at hq
  rcases List.mem_append.mp hq with hq | hq
  · exact hG q hq
  · simp at hq; rw [hq]; exact h
theorem fmHit0 {i : Nat} {m : Int} {p : Int × Nat} (h : i = 0) : fmHit i m p = (Builtin.bitAnd m 61440 == p.1) := if_pos h
theorem fmHit1 {i : Nat} {m : Int} {p : Int × Nat} (h : ¬ i = 0) : fmHit i m p = (Builtin.bitAnd m p.1 == p.1) := if_neg h
theorem fm_len (m : Int) (i : Nat) : (dStrs ((fmList m).take i)).length ≤ sizeLine := by
  have h : (fmList m).length = 10 := by simp [fmList]; rfl
  have e3 : sizeLine = 16777216 := rfl
  simp [h, e3]; omega
theorem eqI0 {i : Nat} : ((i : Int) == 0) = true ↔ i = 0 := by simp

set_option maxHeartbeats 4000000 in
theorem filemode_spec {c : Cx} (P : Pr c) (hroom : c.A.depth + 1 < recursionLimit) (m : Int) : Cl c (.ref 105) [.int m] (.str (Txt.join (Str.ofString "") (fmList m))) := by
  refine Cl.fn (names := [Str.ofString "mode"]) (P.at rfl) rfl (by rw [P.K]; kernel_rfl) rfl rfl rfl rfl rfl ?_ (by decide) ?_ rfl rfl rfl (Nat.lt_of_succ_lt hroom) ?_
  · intro vs hvs
    obtain ⟨v1, rfl⟩ := one_of hvs
    rfl
  · intro n x hx
    exact .inl (by revert x; decide)
  intro L W V s s1 hV S E
  refine St.assignOwn (c := fnCx c _ 105 L W V _) S Fv.nil (.inl rfl) ?_
  intro a s2 ha S2
  have hlen : (enumD (fmTab.map dTab)).length = 10 := by rw [enumD_length]; rfl
  refine St.forG (fun i => [(a, dStrs ((fmList m).take i))]) (fun _ => [(Str.ofString "perm", .obj (.ref a)), (Str.ofString "mode", .int m)]) [(a, dStrs (fmList m))] [(Str.ofString "perm", .obj (.ref a)), (Str.ofString "mode", .int m)] S2
    (SrcF.enumT (Ev.builtin rfl (P.no (by kernel_rfl)) (by kernel_rfl)) (tab_eq P.of rfl)) ?_ ?_ ?_
  · intro i d W1 s3 s4 v hd T r E1
    obtain ⟨t, ht, rfl⟩ : ∃ t, fmTab[i]? = some t ∧ d = .tuple [.int (i : Nat), dTab t] := by
      have h1 : ∃ d1, (fmTab.map dTab)[i]? = some d1 := by
        have hi := (List.getElem?_eq_some_iff.mp hd).1
        rw [enumD_length] at hi; exact ⟨_, List.getElem?_eq_getElem hi⟩
      obtain ⟨d1, h1⟩ := h1
      have h2 := enumD_get h1
      rw [hd] at h2; cases h2
      rw [List.getElem?_map] at h1
      cases hq : fmTab[i]? with
      | none => rw [hq] at h1; cases h1
      | some t => rw [hq] at h1; cases h1; exact ⟨t, rfl, rfl⟩
    refine Sta.unp T (.inl rfl) (.inl rfl) r fun s5 T5 => T5.run ?_
    have hsg : dStrs ((fmList m).take (i+1)) = dStrs ((fmList m).take i) ++ [.str ⟨#[fmSign i m t]⟩] := by
      rw [List.take_add_one, fmList_get ht]; simp
    refine St.forQ (fun j => ∀ p ∈ t.take j, fmHit i m p = false) (fun _ => [(a, dStrs ((fmList m).take i))]) (fun _ => [(Str.ofString "table", dTab t), (Str.ofString "index", .int (i : Nat)), (Str.ofString "perm", .obj (.ref a)), (Str.ofString "mode", .int m)])
      [(a, dStrs ((fmList m).take (i+1)))] [(Str.ofString "perm", .obj (.ref a)), (Str.ofString "mode", .int m)] (by simp) T5 (SrcF.tuple (ds := t.map dPair) (Ev.name rfl)) ?_ ?_ ?_
    · intro j d2 W2 s6 s7 v2 hG hd2 T7 r2 E2
      obtain ⟨p, hp, rfl⟩ : ∃ p, t[j]? = some p ∧ d2 = dPair p := by
        rw [List.getElem?_map] at hd2
        cases hq : t[j]? with
        | none => rw [hq] at hd2; cases hd2
        | some p => rw [hq] at hd2; cases hd2; exact ⟨p, rfl, rfl⟩
      refine Sta.unp (d1 := .int p.1) (d2 := .str ⟨#[p.2]⟩) T7 (.inl rfl) (.inl rfl) r2 fun s8 T8 => T8.run ?_
      refine St.if T8 (Tv.cm (Ev.name rfl) Ev.int Cm.eqInt) ?_ ?_
      · intro h0 s9 T9
        have h0 := eqI0.mp h0
        refine St.if T9 (Tv.cm (Ev.callFn (Ev.glob rfl (P.ye (by kernel_rfl)) fun _ _ => .obj _) (P.at rfl) rfl (.cons (Ev.name rfl) .nil) (ifmt_spec P.of (by exact Nat.lt_of_succ_le hroom) m)) (Ev.name rfl) Cm.eqInt) ?_ ?_
        · intro h1 s10 T10
          refine St.append T10 rfl rfl (fun _ h => nomatch h) (Ev.name rfl) (fm_len m i) ?_
          intro s11 T11
          refine St.brk ?_
          rw [hsg, fmSign_hit hp hG ((fmHit0 h0).trans h1)]
          exact T11.weak (.cons rfl (.cons rfl .nil))
        · intro h1 s10 T10
          refine St.nil (St.nil (St.nil ⟨fmG_next hp hG ((fmHit0 h0).trans h1), ?_⟩))
          exact T10.weak (.cons rfl (.cons rfl (.cons rfl (.cons rfl .nil))))
      · intro h0 s9 T9
        have h0 : ¬ i = 0 := fun h => by rw [eqI0.mpr h] at h0; cases h0
        refine St.if T9 (Tv.cm (Ev.bn (Ev.name rfl) (Ev.name rfl) Bn.and) (Ev.name rfl) Cm.eqInt) ?_ ?_
        · intro h1 s10 T10
          refine St.append T10 rfl rfl (fun _ h => nomatch h) (Ev.name rfl) (fm_len m i) ?_
          intro s11 T11
          refine St.brk ?_
          rw [hsg, fmSign_hit hp hG ((fmHit1 h0).trans h1)]
          exact T11.weak (.cons rfl (.cons rfl .nil))
        · intro h1 s10 T10
          refine St.nil (St.nil (St.nil ⟨fmG_next hp hG ((fmHit1 h0).trans h1), ?_⟩))
          exact T10.weak (.cons rfl (.cons rfl (.cons rfl (.cons rfl .nil))))
    · intro W2 s6 s7 hG T7 E2
      rw [List.length_map, List.take_length] at hG
      refine St.if T7 (Tv.cm (Ev.name rfl) Ev.int Cm.eqInt) ?_ ?_
      · intro h0 s9 T9
        have h0 := eqI0.mp h0
        refine St.append T9 rfl rfl (fun _ h => nomatch h) Ev.str (fm_len m i) ?_
        intro s11 T11
        refine St.nil (St.nil ⟨rfl, ?_⟩)
        rw [hsg, fmSign_no hG, if_pos h0]
        exact T11.weak (.cons rfl (.cons rfl .nil))
      · intro h0 s9 T9
        have h0 : ¬ i = 0 := fun h => by rw [eqI0.mpr h] at h0; cases h0
        refine St.append T9 rfl rfl (fun _ h => nomatch h) Ev.str (fm_len m i) ?_
        intro s11 T11
        refine St.nil (St.nil ⟨rfl, ?_⟩)
        rw [hsg, fmSign_no hG, if_neg h0]
        exact T11.weak (.cons rfl (.cons rfl .nil))
    · intro s6 T6
      exact St.nil T6
  · intro W1 s3 s4 T E1
    rw [hlen] at T
    exact St.nil ⟨rfl, T⟩
  · intro s3 S3
    have haW : a ∉ W := fun hm => by obtain ⟨o, ho⟩ := S.ok.wex a hm; rw [ha] at ho; cases ho
    have haV : a ∉ V := fun hm => haW (S.ok.vw a hm)
    have h0 : s.heap.get? a = none := by
      cases z : s.heap.get? a with
      | none => rfl
      | some o => have := S.keep a o haV z; rw [ha] at this; cases this
    have S4 := Sta.freeze (c := fnCx c _ 105 L W V _) (W := W) (V := V) (own := []) (x := Str.ofString "perm") S3 rfl haV haW h0 (fun _ h => nomatch h) (S.ok.fr.shrink S3.ok.fr) S.ok.vw
    refine Run.of (St.retFn hV (fun _ h => h) S4 (Ev.meth F.plainAttrs_str F.slot_str_join F.type_str_join Ev.str tyStr (.cons (Ev.name rfl) .nil) (Cl.join (by decide) ?_)))
    have h : fmList m = fmTab.zipIdx.map fun p => ⟨#[fmSign p.2 m p.1]⟩ := rfl
    have h2 : ((fmList m).map (·.length)).sum = 10 := by rw [h, List.map_map]; rfl
    have h3 : (fmList m).length = 10 := by simp [fmList]; rfl
    rw [h2, h3]; decide

end Mine

end -- OyMode

section -- OyBytes
open PySem PySem.W PySem.Calls PyProof.Rows
set_option Elab.async false
set_option maxRecDepth 100000
namespace Mine

noncomputable def mkT (frm to : Array UInt8) : Array UInt8 := (frm.toList.zip to.toList).foldl (fun t (f, x) => t.setIfInBounds f.toNat x) ((Array.range 256).map (·.toUInt8))
noncomputable def trB (t b : Array UInt8) : Array UInt8 := b.map fun c => t.getD c.toNat c
theorem foldl_setIfInBounds_size : ∀ (l : List (UInt8 × UInt8)) (t : Array UInt8), (l.foldl (fun t (f, x) => t.setIfInBounds f.toNat x) t).size = t.size
  | [], _ => rfl
  | (_, _) :: r, t => by rw [List.foldl_cons, foldl_setIfInBounds_size r]; simp
theorem mkT_size (frm to : Array UInt8) : (mkT frm to).size = 256 := by unfold mkT; rw [foldl_setIfInBounds_size]; simp

theorem plain_mkt : plainId "bytes.maketrans" = true := by decide +kernel
theorem entry_mkt : entryFor table "bytes.maketrans" = some Builtin.«bytes.maketrans» := entryFor_of_tree (by kernel_rfl)
theorem check_mkt (a b : Value) : checkBuiltinCall "bytes.maketrans" ⟨[a, b], []⟩ = pure () := by kernel_rfl
theorem meets_mkt {a b : Array UInt8} {t u : Tok} (h : a.size = b.size) : Meets (Builtin.«bytes.maketrans» ⟨[.bytes a t, .bytes b u], []⟩) (fun _ R s => R (.ok (.ret (.bytes (mkT a b) s.toks))) { s with toks := s.toks + 1 }) := by
  refine .of_wp fun prog w A R s hS => ?_
  show wpAny _ _ (Builtin.Bytes.bytesLike _ (.bytes a t) >>= fun r => _) _ _ s
  refine wpAny_bind (wpAny_of_eq KBd.like_eq ?_)
  show wpAny _ _ (Builtin.Bytes.bytesLike _ (.bytes b u) >>= fun r => _) _ _ s
  refine wpAny_bind (wpAny_of_eq KBd.like_eq ?_)
  have e : (a.size != b.size) = false := by simp [h]
  simp only [e, Bool.false_eq_true, if_false]
  show wpAny _ _ (mkBytes (mkT a b) >>= fun v => ret v) _ _ s
  refine wpAny_bind (wpAny_mkBytes ?_ (by rw [mkT_size]; decide))
  exact wpAny_pure ⟨_, rfl, hS⟩

theorem slot_trl : Slot "bytes" "translate" "bytes.translate" :=
  .of (owner := "bytes") (n := "translate") (by rw [typeLookup_type, builtinLookup_eq_fast]; kernel_rfl) (by decide +kernel) (by decide +kernel) (by decide +kernel)
    (by first | exact .inl (by decide +kernel) | exact .inr (by decide +kernel)) (by rw [isSubtype_type]; kernel_rfl)
theorem type_trl : typeOf (.builtin "bytes.translate") = pure (.type "method_descriptor") := by show builtinType _ = _; rw [builtinType_eq_fast]; kernel_rfl
theorem entry_trl : entryFor table "bytes.translate" = some Builtin.«bytes.translate» := entryFor_of_tree (by kernel_rfl)
theorem args_trl (a b : Value) : argsOk "bytes.translate" ⟨[a, b], []⟩ := by
  unfold argsOk; rw [signature?_of (id := "bytes.translate") (n := ['e', 't', 'a', 'l', 's', 'n', 'a', 'r', 't']) (o := ['s', 'e', 't', 'y', 'b']) (by kernel_rfl) FB.owner_bytes]; kernel_rfl
theorem meets_trl {b tb : Array UInt8} {t u : Tok} (h : tb.size = 256) (hb : b.size ≤ sizeLine) : Meets (Builtin.«bytes.translate» ⟨[.bytes b t, .bytes tb u], []⟩) (fun _ R s => ∀ t' k, R (.ok (.ret (.bytes (trB tb b) t'))) { s with toks := k }) := by
  refine .of_wp fun prog w A R s hS => ?_
  show wpAny _ _ (Builtin.Bytes.bytesLike _ (.bytes tb u) >>= fun t => _) _ _ s
  refine wpAny_bind (wpAny_of_eq KBd.like_eq ?_)
  have e : (tb.size != 256) = false := by simp [h]
  dsimp only
  rw [e]
  show wpAny _ _ ((pure (some tb) : Sem (Option (Array UInt8))) >>= fun table => _) _ _ s
  refine wpAny_bind (wpAny_pure ?_)
  refine wpAny_bind (wpAny_pure (wpAny_bind (wpAny_of_eq (a := b) rfl ?_)))
  dsimp only
  have e3 : (b.filter fun c => !(#[] : Array UInt8).contains c) = b := by simp
  rw [e3]
  show wpAny _ _ (if ((trB tb b == b) = true) then _ else _) _ _ s
  by_cases q : (trB tb b == b) = true
  · rw [if_pos q]
    have q' : trB tb b = b := by simpa using q
    rw [q'] at hS
    refine wpAny_bind (wpAny_rule (wpAny_bind (wpAny_of_eq (a := .bytes b t) rfl ?_)))
    exact wpAny_pure ⟨_, rfl, hS _ _⟩
  · rw [if_neg q]
    show wpAny _ _ (mkBytes (trB tb b) >>= fun v => ret v) _ _ s
    refine wpAny_bind (wpAny_mkBytes ?_ (by unfold trB; simpa using hb))
    exact wpAny_pure ⟨_, rfl, hS _ _⟩

section
variable {c : Cx}
theorem Cl.maketrans {a b : Array UInt8} (h : a.size = b.size) : Cl c (.builtin "bytes.maketrans") [.bytes a, .bytes b] (.bytes (mkT a b)) := fun vs s k r E => by
  obtain ⟨_, _, rfl, r1, r2⟩ := r.inv2; obtain ⟨_, _, rfl, rfl⟩ := r1.bb r2
  exact wpAny_call (codeAny_call_builtin plain_mkt entry_mkt (wpAny_of_eq (check_mkt _ _) (meets_mkt h c.prog c.w c.A (wants _ _) s ⟨.toks _ _, .bytes _ _⟩)))
theorem Cl.translate {tb b : Array UInt8} (h : tb.size = 256) (hb : b.size ≤ sizeLine) : Cl c (.builtin "bytes.translate") [.bytes b, .bytes tb] (.bytes (trB tb b)) := fun vs s k r E => by
  obtain ⟨_, _, rfl, r1, r2⟩ := r.inv2; obtain ⟨_, _, rfl, rfl⟩ := r1.bb r2
  exact call_meets slot_trl (typeIs_bytes _ _ _) entry_trl (args_trl _ _) (meets_trl h hb) fun t' k => ⟨.toks _ _, .bytes _ _⟩

theorem cls_mkt : findCls [] (.type "bytes") (.type "type") (Str.ofString "maketrans") = some (.val (.builtin "bytes.maketrans")) := by kernel_rfl
/-- a static method of a built-in type -/
theorem Ev.static {x : Str} {np apos pos : Pos} {T id : String} {name : Str} {e : Expr} {args : List Expr} {ds : List D} {d : D} {pl : Sem Bool} (hf : Ev c (.Name x np) (.obj (.type T))) (ht : typeOf (.type T) = pure (.type "type")) (hs : Manifest.isStub T = false)
    (hcls : findCls [] (.type T) (.type "type") name = some (.val (.builtin id))) (hh : handedIn (.builtin id) = true) (ha : EvL c (e :: args) ds) (hc : Cl c (.builtin id) ds d)
    (hform : eval (.Call (.Attribute (.Name x np) name apos) (e :: args) [] pos) c.env = (do
      let ov ← eval (.Name x np) c.env
      standAt apos.atName
      let (f, first) ← holding [ov] (getMethod ov name pl)
      callWith pos f first (backTo pos (starEach (e :: args) c.env)) (backToKw pos (keywordEach [] c.env))) := by rfl)
    (he : starEach (e :: args) c.env = (false, eval e c.env) :: starEach args c.env := by rfl)
    (hp : ((backTo pos (starEach args c.env)).any fun x => x.1) = false := by rfl) : Ev c (.Call (.Attribute (.Name x np) name apos) (e :: args) [] pos) d := by
  intro s k E
  refine methodCall_KW (pl := pl) (hf.step k fun v s₁ e₁ k₁ r => ?_) hform
  obtain rfl := r.objI
  have F : Fr ({} : Heap) mainGlobals s₁.heap c.mg := ⟨k₁.glh.g, fun b o e => by simp [Heap.get?] at e, Nat.zero_le _⟩
  refine method_type (K := []) F (fun _ _ e => by cases e) ht hs hcls hh ?_
  have kp : Kp s₁ { s₁ with toks := s₁.toks + 1 } := .toks _ _
  refine PyProof.Rows.callWith_builtin1 (ha.step (k₁.ext kp.ext) fun vs s₂ e₂ k₂ rs => ?_) he hp
  exact wpAny_mono (hc vs s₂ k₂ rs E) (fun v s' x => ⟨e₁.trans (kp.trans (e₂.trans x.1)), x.2⟩) fun _ _ e => e
end

end Mine

end -- OyBytes

section -- OyLaw
open PySem PySem.W PyProof.Rows
set_option Elab.async false
namespace Mine

/-! the net upon numbers -/
noncomputable def stepN (ws : List Nat) (w : Int) : List Nat :=
  (ws.set w.toNat (min (ws.getD w.toNat 0) (ws.getD (w.toNat + 1) 0))).set (w.toNat + 1) (max (ws.getD w.toNat 0) (ws.getD (w.toNat + 1) 0))
noncomputable def runN (ws : List Nat) (net : List Int) : List Nat := net.foldl stepN ws
noncomputable def NetOk (net : List Int) : Prop := ∀ w ∈ net, 0 ≤ w ∧ w ≤ 2
theorem NetOk.cases {w : Int} (h : 0 ≤ w ∧ w ≤ 2) : w = 0 ∨ w = 1 ∨ w = 2 := by omega

noncomputable def tx (p : Nat × Nat) : Str := wtxt p.2 p.1
theorem tx_list (p : Nat × Nat) : (tx p).cps.toList = 61 :: p.1 :: (Txt.mul ⟨#[61]⟩ (p.2 : Int)).cps.toList := by
  have : (tx p).cps = (#[61] ++ #[p.1]) ++ (Txt.mul ⟨#[61]⟩ (p.2 : Int)).cps := rfl
  rw [this]; simp
theorem tx_lt {p q : Nat × Nat} (h : (tx p).cps.toList < (tx q).cps.toList) : p.1 ≤ q.1 := by
  rw [tx_list, tx_list] at h
  rw [List.cons_lt_cons_iff, List.cons_lt_cons_iff] at h
  omega
theorem tx_not_lt {p q : Nat × Nat} (h : ¬ (tx p).cps.toList < (tx q).cps.toList) : q.1 ≤ p.1 := by
  rw [tx_list, tx_list] at h
  rw [List.cons_lt_cons_iff, List.cons_lt_cons_iff] at h
  omega
theorem cmp_iff (a b : Str) : (cmpS a b = 1 ∧ cmpS b a = -1) ↔ b.cps.toList < a.cps.toList := by
  unfold cmpS
  by_cases h : b.cps.toList < a.cps.toList
  · have h2 : ¬ a.cps.toList < b.cps.toList := List.lt_asymm h
    simp [h, h2, b2i]
  · by_cases h2 : a.cps.toList < b.cps.toList <;> simp [h, h2, b2i]

theorem step_tx {w : Int} (h : 0 ≤ w ∧ w ≤ 2) (p0 p1 p2 p3 : Nat × Nat) : ∃ q0 q1 q2 q3 : Nat × Nat, stepT [tx p0, tx p1, tx p2, tx p3] w = [tx q0, tx q1, tx q2, tx q3] ∧ stepN [p0.1, p1.1, p2.1, p3.1] w = [q0.1, q1.1, q2.1, q3.1] := by
  rcases NetOk.cases h with rfl | rfl | rfl
  · by_cases g : (tx p1).cps.toList < (tx p0).cps.toList
    · exact ⟨p1, p0, p2, p3, if_pos ((cmp_iff _ _).mpr g), by have := tx_lt g; simp [stepN]; omega⟩
    · exact ⟨p0, p1, p2, p3, if_neg fun x => g ((cmp_iff _ _).mp x), by have := tx_not_lt g; simp [stepN]; omega⟩
  · by_cases g : (tx p2).cps.toList < (tx p1).cps.toList
    · exact ⟨p0, p2, p1, p3, if_pos ((cmp_iff _ _).mpr g), by have := tx_lt g; simp [stepN]; omega⟩
    · exact ⟨p0, p1, p2, p3, if_neg fun x => g ((cmp_iff _ _).mp x), by have := tx_not_lt g; simp [stepN]; omega⟩
  · by_cases g : (tx p3).cps.toList < (tx p2).cps.toList
    · exact ⟨p0, p1, p3, p2, if_pos ((cmp_iff _ _).mpr g), by have := tx_lt g; simp [stepN]; omega⟩
    · exact ⟨p0, p1, p2, p3, if_neg fun x => g ((cmp_iff _ _).mp x), by have := tx_not_lt g; simp [stepN]; omega⟩
theorem run_tx : ∀ (net : List Int), NetOk net → ∀ p0 p1 p2 p3 : Nat × Nat, ∃ q0 q1 q2 q3 : Nat × Nat, runT [tx p0, tx p1, tx p2, tx p3] net = [tx q0, tx q1, tx q2, tx q3] ∧ runN [p0.1, p1.1, p2.1, p3.1] net = [q0.1, q1.1, q2.1, q3.1]
  | [], _, p0, p1, p2, p3 => ⟨p0, p1, p2, p3, rfl, rfl⟩
  | w :: r, h, p0, p1, p2, p3 => by
    obtain ⟨q0, q1, q2, q3, e1, e2⟩ := step_tx (h w List.mem_cons_self) p0 p1 p2 p3
    obtain ⟨t0, t1, t2, t3, e3, e4⟩ := run_tx r (fun v hv => h v (List.mem_cons_of_mem _ hv)) q0 q1 q2 q3
    refine ⟨t0, t1, t2, t3, ?_, ?_⟩
    · show runT (stepT _ w) r = _; rw [e1, e3]
    · show runN (stepN _ w) r = _; rw [e2, e4]
theorem sign_tx (p : Nat × Nat) : signOf (tx p) = ⟨#[p.1]⟩ := by
  unfold signOf
  have := wtxt_sign p.2 p.1
  rw [Array.getD_eq_getD_getElem?]
  show (⟨#[((wtxt p.2 p.1).cps[1]?).getD 0]⟩ : Str) = _
  rw [this]; rfl
noncomputable def chrs (ns : List Nat) : List Str := ns.map fun n => ⟨#[n]⟩
theorem run_signs {net : List Int} (h : NetOk net) (n0 n1 n2 n3 : Nat) : (runT (ws0 n0 n1 n2 n3) net).map signOf = chrs (runN [n0, n1, n2, n3] net) := by
  obtain ⟨q0, q1, q2, q3, e1, e2⟩ := run_tx net h (n0, 0) (n1, 1) (n2, 2) (n3, 3)
  have e1 : runT (ws0 n0 n1 n2 n3) net = _ := e1
  have e2 : runN [n0, n1, n2, n3] net = _ := e2
  rw [e1, e2]
  simp [sign_tx, chrs]

/-! 0-1 principle -/
theorem step_form {w : Int} (h : 0 ≤ w ∧ w ≤ 2) (a b c d : Nat) : stepN [a, b, c, d] w = if w = 0 then [min a b, max a b, c, d] else if w = 1 then [a, min b c, max b c, d] else [a, b, min c d, max c d] := by
  rcases NetOk.cases h with rfl | rfl | rfl <;> rfl
noncomputable def Mono (f : Nat → Nat) : Prop := ∀ a b, a ≤ b → f a ≤ f b
theorem Mono.min {f : Nat → Nat} (h : Mono f) (a b : Nat) : f (min a b) = min (f a) (f b) := by
  rcases Nat.le_total a b with g | g
  · rw [Nat.min_eq_left g, Nat.min_eq_left (h _ _ g)]
  · rw [Nat.min_eq_right g, Nat.min_eq_right (h _ _ g)]
theorem Mono.max {f : Nat → Nat} (h : Mono f) (a b : Nat) : f (max a b) = max (f a) (f b) := by
  rcases Nat.le_total a b with g | g
  · rw [Nat.max_eq_right g, Nat.max_eq_right (h _ _ g)]
  · rw [Nat.max_eq_left g, Nat.max_eq_left (h _ _ g)]
theorem step_map {f : Nat → Nat} (m : Mono f) {w : Int} (h : 0 ≤ w ∧ w ≤ 2) (a b c d : Nat) : stepN [f a, f b, f c, f d] w = (stepN [a, b, c, d] w).map f := by
  rw [step_form h, step_form h]
  split
  · simp [m.min, m.max]
  · split <;> simp [m.min, m.max]
theorem step_four {w : Int} (h : 0 ≤ w ∧ w ≤ 2) (a b c d : Nat) : ∃ a' b' c' d', stepN [a, b, c, d] w = [a', b', c', d'] := by
  rw [step_form h]
  split
  · exact ⟨_, _, _, _, rfl⟩
  · split <;> exact ⟨_, _, _, _, rfl⟩
theorem run_map {f : Nat → Nat} (m : Mono f) : ∀ (net : List Int), NetOk net → ∀ a b c d : Nat, runN [f a, f b, f c, f d] net = (runN [a, b, c, d] net).map f
  | [], _, _, _, _, _ => rfl
  | w :: r, h, a, b, c, d => by
    have hw := h w List.mem_cons_self
    obtain ⟨a', b', c', d', e⟩ := step_four hw a b c d
    show runN (stepN _ w) r = (runN (stepN _ w) r).map f
    rw [step_map m hw, e]
    exact run_map m r (fun v hv => h v (List.mem_cons_of_mem _ hv)) a' b' c' d'
theorem run_four : ∀ (net : List Int), NetOk net → ∀ a b c d : Nat, ∃ a' b' c' d', runN [a, b, c, d] net = [a', b', c', d']
  | [], _, a, b, c, d => ⟨a, b, c, d, rfl⟩
  | w :: r, h, a, b, c, d => by
    obtain ⟨a', b', c', d', e⟩ := step_four (h w List.mem_cons_self) a b c d
    show ∃ _ _ _ _, runN (stepN _ w) r = _
    rw [e]
    exact run_four r (fun v hv => h v (List.mem_cons_of_mem _ hv)) a' b' c' d'
theorem min_or (a b : Nat) : (min a b = a ∧ max a b = b) ∨ (min a b = b ∧ max a b = a) := by
  rcases Nat.le_total a b with h | h
  · exact .inl ⟨Nat.min_eq_left h, Nat.max_eq_right h⟩
  · exact .inr ⟨Nat.min_eq_right h, Nat.max_eq_left h⟩
theorem mem_step {w : Int} (h : 0 ≤ w ∧ w ≤ 2) (a b c d : Nat) : ∀ x ∈ stepN [a, b, c, d] w, x ∈ [a, b, c, d] := by
  have sw : ∀ {x y : Nat} {l r : List Nat}, ∀ z ∈ l ++ [y, x] ++ r, z ∈ l ++ [x, y] ++ r := by
    intro x y l r z hz
    simp only [List.mem_append, List.mem_cons, List.not_mem_nil, or_false] at hz ⊢
    rcases hz with (h | h | h) | h
    · exact .inl (.inl h)
    · exact .inl (.inr (.inr h))
    · exact .inl (.inr (.inl h))
    · exact .inr h
  rw [step_form h]
  rcases NetOk.cases h with rfl | rfl | rfl
  · rw [if_pos rfl]
    rcases min_or a b with ⟨e, f⟩ | ⟨e, f⟩ <;> rw [e, f]
    · exact fun x hx => hx
    · exact sw (l := []) (r := [c, d])
  · rw [if_neg (by decide), if_pos rfl]
    rcases min_or b c with ⟨e, f⟩ | ⟨e, f⟩ <;> rw [e, f]
    · exact fun x hx => hx
    · exact sw (l := [a]) (r := [d])
  · rw [if_neg (by decide), if_neg (by decide)]
    rcases min_or c d with ⟨e, f⟩ | ⟨e, f⟩ <;> rw [e, f]
    · exact fun x hx => hx
    · exact sw (l := [a, b]) (r := [])
theorem mem_run : ∀ (net : List Int), NetOk net → ∀ a b c d : Nat, ∀ x ∈ runN [a, b, c, d] net, x ∈ [a, b, c, d]
  | [], _, _, _, _, _, _, hx => hx
  | w :: r, h, a, b, c, d, x, hx => by
    have hw := h w List.mem_cons_self
    obtain ⟨a', b', c', d', e⟩ := step_four hw a b c d
    have hx : x ∈ runN (stepN [a, b, c, d] w) r := hx
    have q := mem_step hw a b c d
    rw [e] at hx q
    exact q x (mem_run r (fun v hv => h v (List.mem_cons_of_mem _ hv)) a' b' c' d' x hx)

/-! de Bruijn -/
noncomputable def insN (f : Nat) (os : List (List Nat)) : List (List Nat) := os.flatMap fun o => (List.range (o.length + 1)).map fun k => o.take k ++ [f] ++ o.drop k
noncomputable def perms (a b c d : Nat) : List (List Nat) := insN d (insN c (insN b (insN a [[]])))
noncomputable def P24 : List (List Nat) := [[3, 2, 1, 0], [2, 3, 1, 0], [2, 1, 3, 0], [2, 1, 0, 3], [3, 1, 2, 0], [1, 3, 2, 0], [1, 2, 3, 0], [1, 2, 0, 3], [3, 1, 0, 2], [1, 3, 0, 2], [1, 0, 3, 2], [1, 0, 2, 3], [3, 2, 0, 1], [2, 3, 0, 1], [2, 0, 3, 1], [2, 0, 1, 3], [3, 0, 2, 1], [0, 3, 2, 1], [0, 2, 3, 1], [0, 2, 1, 3], [3, 0, 1, 2], [0, 3, 1, 2], [0, 1, 3, 2], [0, 1, 2, 3]]
/-- how many of the first i are j at least -/
noncomputable def cnt (x : List Nat) (i j : Nat) : Nat := ((x.take i).filter (fun v => j ≤ v)).length
noncomputable def under (x y : List Nat) : Bool := (List.range 4).all fun i => (List.range 4).all fun j => cnt x i j ≤ cnt y i j
noncomputable def okP (x : List Nat) : Bool := match x with
  | [a, b, c, d] => Nat.blt a 4 && Nat.blt b 4 && Nat.blt c 4 && Nat.blt d 4 && !Nat.beq a b && !Nat.beq a c && !Nat.beq a d && !Nat.beq b c && !Nat.beq b d && !Nat.beq c d
  | _ => false
theorem okP_mem {x : List Nat} (h : okP x = true) : x ∈ P24 := by
  have all4 : ∀ a ∈ [0, 1, 2, 3], ∀ b ∈ [0, 1, 2, 3], ∀ c ∈ [0, 1, 2, 3], ∀ d ∈ [0, 1, 2, 3], okP [a, b, c, d] = true → [a, b, c, d] ∈ P24 := by decide +kernel
  have in4 : ∀ n : Nat, n < 4 → n ∈ [0, 1, 2, 3] := by
    intro n hn
    have := lt4 hn
    rcases this with rfl | rfl | rfl | rfl <;> simp
  match x, h with
  | [a, b, c, d], h =>
    have h' := h
    simp only [okP, Bool.and_eq_true, Nat.blt_eq] at h'
    obtain ⟨⟨⟨⟨⟨⟨⟨⟨⟨ha, hb⟩, hc⟩, hd⟩, _⟩, _⟩, _⟩, _⟩, _⟩, _⟩ := h'
    exact all4 a (in4 a ha) b (in4 b hb) c (in4 c hc) d (in4 d hd) h
theorem step_ok : (P24.all fun x => [(0 : Int), 1, 2].all fun w => okP (stepN x w)) = true := by decide +kernel
theorem under_ok : (P24.all fun x => P24.all fun y => !(under x y) || [(0 : Int), 1, 2].all fun w => under (stepN x w) (stepN y w)) = true := by decide +kernel
theorem under_step : ∀ x ∈ P24, ∀ y ∈ P24, under x y = true → ∀ w ∈ [(0 : Int), 1, 2], under (stepN x w) (stepN y w) = true ∧ stepN x w ∈ P24 ∧ stepN y w ∈ P24 := by
  intro x hx y hy h w hw
  have h1 := List.all_eq_true.mp step_ok
  have h2 := List.all_eq_true.mp (List.all_eq_true.mp under_ok x hx) y hy
  rw [h, Bool.not_true, Bool.false_or] at h2
  exact ⟨List.all_eq_true.mp h2 w hw, okP_mem (List.all_eq_true.mp (h1 x hx) w hw), okP_mem (List.all_eq_true.mp (h1 y hy) w hw)⟩
theorem under_top : ∀ x ∈ P24, under x [3, 2, 1, 0] = true := by decide +kernel
theorem under_low : ∀ x ∈ P24, under x [0, 1, 2, 3] = true → x = [0, 1, 2, 3] := by decide +kernel
theorem run_under : ∀ (net : List Int), NetOk net → ∀ x y, x ∈ P24 → y ∈ P24 → under x y = true → under (runN x net) (runN y net) = true ∧ runN x net ∈ P24 ∧ runN y net ∈ P24
  | [], _, _, _, hx, hy, h => ⟨h, hx, hy⟩
  | w :: r, hn, x, y, hx, hy, h => by
    have hw := NetOk.cases (hn w List.mem_cons_self)
    obtain ⟨h1, h2, h3⟩ := under_step x hx y hy h w (by rcases hw with rfl | rfl | rfl <;> simp)
    exact run_under r (fun v hv => hn v (List.mem_cons_of_mem _ hv)) _ _ h2 h3 h1
theorem bruijn {net : List Int} (hn : NetOk net) (h : runN [3, 2, 1, 0] net = [0, 1, 2, 3]) : ∀ x ∈ P24, runN x net = [0, 1, 2, 3] := by
  intro x hx
  obtain ⟨h1, h2, _⟩ := run_under net hn x [3, 2, 1, 0] hx (by decide +kernel) (under_top x hx)
  rw [h] at h1
  exact under_low _ h2 h1
theorem run_P24 {net : List Int} (hn : NetOk net) {x : List Nat} (hx : x ∈ P24) : runN x net ∈ P24 := (run_under net hn x [3, 2, 1, 0] hx (by decide +kernel) (under_top x hx)).2.1
noncomputable def isTop (x : List Nat) : Bool := match x with
  | [a, b, c, d] => Nat.beq a 3 && Nat.beq b 2 && Nat.beq c 1 && Nat.beq d 0
  | _ => false
theorem isTop_eq {x : List Nat} (h : isTop x = true) : x = [3, 2, 1, 0] := by
  match x, h with
  | [a, b, c, d], h =>
    simp only [isTop, Bool.and_eq_true, Nat.beq_eq] at h
    obtain ⟨⟨⟨rfl, rfl⟩, rfl⟩, rfl⟩ := h
    rfl
theorem perms_ok : (P24.all fun t => match t with
  | [a, b, c, d] => (perms a b c d).any isTop && (perms a b c d).all okP
  | _ => false) = true := by decide +kernel
theorem perms_P24 : ∀ t ∈ P24, ∀ a b c d, t = [a, b, c, d] → [3, 2, 1, 0] ∈ perms a b c d ∧ ∀ r ∈ perms a b c d, r ∈ P24 := by
  intro t ht a b c d e
  subst e
  have h := List.all_eq_true.mp perms_ok _ ht
  dsimp only at h
  rw [Bool.and_eq_true] at h
  obtain ⟨h1, h2⟩ := h
  obtain ⟨x, hx, hx2⟩ := List.any_eq_true.mp h1
  rw [isTop_eq hx2] at hx
  exact ⟨hx, fun r hr => okP_mem (List.all_eq_true.mp h2 r hr)⟩
end Mine

end -- OyLaw

section -- OyF3
open PySem PySem.W PySem.Calls PyProof.Rows
set_option Elab.async false
set_option maxRecDepth 100000
namespace Mine

/-! _law_worst -/
noncomputable def wstep (ws : List Int) (w : Int) : List Int := match ws with
  | [a, b, c, d] => if w = 0 then [min a b, max a b, c, d] else if w = 1 then [a, min b c, max b c, d] else [a, b, min c d, max c d]
  | ws => ws
noncomputable def wrun (net : List Int) : List Int := net.foldl wstep [3, 2, 1, 0]
theorem wstep_four {a b c d : Int} (w : Int) : ∃ a' b' c' d', wstep [a, b, c, d] w = [a', b', c', d'] := by
  unfold wstep
  dsimp only
  split
  · exact ⟨_, _, _, _, rfl⟩
  · split <;> exact ⟨_, _, _, _, rfl⟩
theorem wrun_four : ∀ (net : List Int) (a b c d : Int), ∃ a' b' c' d', net.foldl wstep [a, b, c, d] = [a', b', c', d']
  | [], a, b, c, d => ⟨a, b, c, d, rfl⟩
  | w :: r, a, b, c, d => by
    obtain ⟨a', b', c', d', e⟩ := wstep_four (a := a) (b := b) (c := c) (d := d) w
    rw [List.foldl_cons, e]
    exact wrun_four r a' b' c' d'
theorem sort2 (a b : Int) : ∀ ks : List Int, ks.Perm [a, b] → ks.Pairwise (· ≤ ·) → ks = [min a b, max a b] := by
  intro ks hp hs
  have hl := hp.length_eq
  match ks, hl with
  | [x, y], _ =>
    have hxy : x ≤ y := by simpa using hs
    have hx : x ∈ [a, b] := hp.mem_iff.mp (by simp)
    have hb : b ∈ [x, y] := hp.mem_iff.mpr (by simp)
    have ha : a ∈ [x, y] := hp.mem_iff.mpr (by simp)
    have hy : y ∈ [a, b] := hp.mem_iff.mp (by simp)
    simp only [List.mem_cons, List.not_mem_nil, or_false] at hx hy hb ha
    simp only [List.cons.injEq, and_true]
    omega

theorem Cl.sorted2 {c : Cx} {a b : Int} : Cl c (.builtin "sorted") [.list (dInts [a, b])] (.list (dInts [min a b, max a b])) := Cl.sorted (Nat.le_of_ble_eq_true rfl) (sort2 a b)

theorem range_pick {α : Type} (ds : List α) (a : Nat) : ∀ n : Nat, ((List.range n).map (a + ·)).filterMap (ds[·]?) = (ds.drop a).take n
  | 0 => by simp
  | n + 1 => by
    rw [List.range_succ, List.map_append, List.filterMap_append, range_pick ds a n, List.take_add_one]
    congr 1
    simp only [List.map_cons, List.map_nil, List.getElem?_drop]
    cases h : ds[a + n]? <;> simp [h]
theorem pickD_plain (ds : List D) (lo hi : Option Int) : pickD ds lo hi none = (ds.drop (lo.elim 0 (clipAt ds.length))).take (hi.elim ds.length (clipAt ds.length) - lo.elim 0 (clipAt ds.length)) := by
  unfold pickD
  rw [sliceBounds_plain]
  dsimp only
  rw [sliceRange_one, range_pick]
theorem clipAt_pos {n : Nat} {k : Int} (h : 0 ≤ k) : clipAt n k = min k.toNat n := by
  obtain ⟨m, rfl⟩ := Int.eq_ofNat_of_zero_le h
  have e : ¬ ((m : Int) < 0) := Int.not_lt.mpr h
  unfold clipAt
  rw [if_neg e, Int.toNat_natCast]
  rcases Nat.le_total m n with g | g
  · rw [Int.min_eq_left (Int.ofNat_le.mpr g), Int.max_eq_right h, Int.toNat_natCast, Nat.min_eq_left g]
  · rw [Int.min_eq_right (Int.ofNat_le.mpr g), Int.max_eq_right (Int.natCast_nonneg n), Int.toNat_natCast, Nat.min_eq_right g]
theorem pickD_from {ds : List D} {k : Int} (h : 0 ≤ k) : pickD ds (some k) none none = ds.drop k.toNat := by
  rw [pickD_plain]
  simp only [Option.elim_some, Option.elim_none, clipAt_pos h]
  rcases Nat.le_total k.toNat ds.length with g | g
  · rw [Nat.min_eq_left g, List.take_of_length_le (by simp)]
  · rw [Nat.min_eq_right g, List.drop_of_length_le g, List.drop_of_length_le (Nat.le_refl _)]; simp
theorem pickD_upto {ds : List D} {k : Int} (h : 0 ≤ k) : pickD ds none (some k) none = ds.take k.toNat := by
  rw [pickD_plain]
  simp only [Option.elim_some, Option.elim_none, clipAt_pos h, List.drop_zero, Nat.sub_zero]
  rcases Nat.le_total k.toNat ds.length with g | g
  · rw [Nat.min_eq_left g]
  · rw [Nat.min_eq_right g, List.take_of_length_le g, List.take_of_length_le (Nat.le_refl _)]
theorem Ev.sliceE {c : Cx} {value : Expr} {lower upper step : Option Expr} {pos p : Pos} {ds rs : List D} {lo hi st : Option Int} (hv : Ev c value (.list ds)) (hl : Pt c lower lo) (hu : Pt c upper hi) (hst : Pt c step st) (he : pickD ds lo hi st = rs)
    (hsz : ds.length ≤ sizeLine) (h0 : st ≠ some 0 := by decide) (hs : ∀ o i, ∃ ops, subscripted (.Slice lower upper step p) false o i = operate ops (getItem o i) := by exact fun _ _ => ⟨_, rfl⟩) :
    Ev c (.Subscript value (.Slice lower upper step p) pos) (.list rs) := he ▸ Ev.slice hv hl hu hst h0 hsz hs

set_option maxHeartbeats 4000000 in
theorem worst_spec {c : Cx} (P : Pr c) (hroom : c.A.depth < recursionLimit) (net : List Int) (hnet : NetOk net) : Cl c (.ref 122) [.list (dInts net)] (.list (dInts (wrun net))) := by
  refine Cl.fn (names := [Str.ofString "net"]) (P.at rfl) rfl (by rw [P.K]; kernel_rfl) rfl rfl rfl rfl rfl ?_ (by decide) ?_ rfl rfl rfl hroom ?_
  · intro vs hvs
    obtain ⟨v1, rfl⟩ := one_of hvs
    rfl
  · intro n x hx
    exact .inl (by revert x; decide)
  intro L W V s s1 hV S E
  refine St.assign (c := fnCx c _ 122 L W V _) (d := .list (dInts [3, 2, 1, 0])) S (Ev.list (.cons Ev.int (.cons Ev.int (.cons Ev.int (.cons Ev.int .nil))))) (.inl rfl) ?_
  intro s2 S2
  refine St.for (fun _ => []) (fun i => [(Str.ofString "wires", .list (dInts ((net.take i).foldl wstep [3, 2, 1, 0]))), (Str.ofString "net", .list (dInts net))]) S2 (Src.list (Ev.name rfl)) (.inl rfl) ?_ ?_
  · intro i d W1 s3 s4 hd T E1
    obtain ⟨w, hw, rfl⟩ : ∃ w, net[i]? = some w ∧ d = .int w := by
      rw [List.getElem?_map] at hd
      cases hq : net[i]? with
      | none => rw [hq] at hd; cases hd
      | some w => rw [hq] at hd; cases hd; exact ⟨w, rfl, rfl⟩
    have hstep : (net.take (i + 1)).foldl wstep [3, 2, 1, 0] = wstep ((net.take i).foldl wstep [3, 2, 1, 0]) w := by
      rw [List.take_add_one, hw]; simp [List.foldl_append]
    rw [hstep]
    obtain ⟨a, b, x, y, e⟩ := wrun_four (net.take i) 3 2 1 0
    rw [e] at T ⊢
    have noS : nsIn c.K mainGlobals (Str.ofString "sorted") = some none := P.no (by kernel_rfl)
    rcases NetOk.cases (hnet w (List.mem_of_getElem? hw)) with rfl | rfl | rfl
    · refine St.assign (d := .list (dInts (wstep [a, b, x, y] 0))) T (Ev.bn (a := .list (dInts ([] ++ [min a b, max a b]))) (b := .list (dInts [x, y])) (Ev.bn (a := .list (dInts [])) (b := .list (dInts [min a b, max a b])) (Ev.sliceE (ds := dInts [a, b, x, y]) (Ev.name rfl) .none (.some (Ev.name rfl)) .none rfl (Nat.le_of_ble_eq_true rfl))
          (Ev.callB (ds := [.list (dInts [a, b])]) (Ev.builtin rfl noS rfl) (.cons (Ev.sliceE (ds := dInts [a, b, x, y]) (Ev.name rfl) (.some (Ev.name rfl)) (.some (Ev.add (Ev.name rfl) Ev.int)) .none rfl (Nat.le_of_ble_eq_true rfl)) .nil) Cl.sorted2) (Bn.addList (Nat.le_of_ble_eq_true rfl)))
        (Ev.sliceE (ds := dInts [a, b, x, y]) (Ev.name rfl) (.some (Ev.add (Ev.name rfl) Ev.int)) .none .none (pickD_from (by decide)) (Nat.le_of_ble_eq_true rfl)) (Bn.addList (Nat.le_of_ble_eq_true rfl))) (.inl rfl) ?_
      intro s5 S5
      exact St.nil ⟨rfl, S5.weak (.cons rfl (.cons rfl .nil))⟩
    · refine St.assign (d := .list (dInts (wstep [a, b, x, y] 1))) T (Ev.bn (a := .list (dInts ([a] ++ [min b x, max b x]))) (b := .list (dInts [y])) (Ev.bn (a := .list (dInts [a])) (b := .list (dInts [min b x, max b x])) (Ev.sliceE (ds := dInts [a, b, x, y]) (Ev.name rfl) .none (.some (Ev.name rfl)) .none rfl (Nat.le_of_ble_eq_true rfl))
          (Ev.callB (ds := [.list (dInts [b, x])]) (Ev.builtin rfl noS rfl) (.cons (Ev.sliceE (ds := dInts [a, b, x, y]) (Ev.name rfl) (.some (Ev.name rfl)) (.some (Ev.add (Ev.name rfl) Ev.int)) .none rfl (Nat.le_of_ble_eq_true rfl)) .nil) Cl.sorted2) (Bn.addList (Nat.le_of_ble_eq_true rfl)))
        (Ev.sliceE (ds := dInts [a, b, x, y]) (Ev.name rfl) (.some (Ev.add (Ev.name rfl) Ev.int)) .none .none (pickD_from (by decide)) (Nat.le_of_ble_eq_true rfl)) (Bn.addList (Nat.le_of_ble_eq_true rfl))) (.inl rfl) ?_
      intro s5 S5
      exact St.nil ⟨rfl, S5.weak (.cons rfl (.cons rfl .nil))⟩
    · refine St.assign (d := .list (dInts (wstep [a, b, x, y] 2))) T (Ev.bn (a := .list (dInts ([a, b] ++ [min x y, max x y]))) (b := .list (dInts [])) (Ev.bn (a := .list (dInts [a, b])) (b := .list (dInts [min x y, max x y])) (Ev.sliceE (ds := dInts [a, b, x, y]) (Ev.name rfl) .none (.some (Ev.name rfl)) .none rfl (Nat.le_of_ble_eq_true rfl))
          (Ev.callB (ds := [.list (dInts [x, y])]) (Ev.builtin rfl noS rfl) (.cons (Ev.sliceE (ds := dInts [a, b, x, y]) (Ev.name rfl) (.some (Ev.name rfl)) (.some (Ev.add (Ev.name rfl) Ev.int)) .none rfl (Nat.le_of_ble_eq_true rfl)) .nil) Cl.sorted2) (Bn.addList (Nat.le_of_ble_eq_true rfl)))
        (Ev.sliceE (ds := dInts [a, b, x, y]) (Ev.name rfl) (.some (Ev.add (Ev.name rfl) Ev.int)) .none .none (pickD_from (by decide)) (Nat.le_of_ble_eq_true rfl)) (Bn.addList (Nat.le_of_ble_eq_true rfl))) (.inl rfl) ?_
      intro s5 S5
      exact St.nil ⟨rfl, S5.weak (.cons rfl (.cons rfl .nil))⟩
  · intro s3 S3
    rw [List.length_map, List.take_length] at S3
    exact Run.of (St.retFn hV (fun _ h => h) S3 (Ev.name rfl))
end Mine

end -- OyF3

section -- OyF4
open PySem PySem.W PySem.Calls PyProof.Rows
set_option Elab.async false
set_option maxRecDepth 100000
namespace Mine

/-! _law_orders -/
noncomputable def dL (o : List Int) : D := .list (dInts o)
noncomputable def insI (f : Int) (os : List (List Int)) : List (List Int) := os.flatMap fun o => (List.range (o.length + 1)).map fun k => o.take k ++ [f] ++ o.drop k
noncomputable def stg (fs : List Int) (i : Nat) : List (List Int) := (fs.take i).foldl (fun os f => insI f os) [[]]
theorem insI_dL (f : Int) (os : List (List Int)) : (os.map fun o => (List.range (o.length + 1)).map fun k => D.list ((dInts o).take k ++ [.int f] ++ (dInts o).drop k)).flatten = (insI f os).map dL := by
  rw [insI, List.map_flatMap, List.flatMap]
  congr 1
  apply List.map_congr_left
  intro o _
  rw [List.map_map]
  apply List.map_congr_left
  intro k _
  simp [dL, List.map_take, List.map_drop]
theorem ins_len {f : Int} {os : List (List Int)} {n : Nat} (h : ∀ o ∈ os, o.length = n) : ∀ o ∈ insI f os, o.length = n + 1 := by
  intro o ho
  unfold insI at ho
  obtain ⟨q, hq, ho⟩ := List.mem_flatMap.mp ho
  obtain ⟨k, hk, rfl⟩ := List.mem_map.mp ho
  have hk := List.mem_range.mp hk
  have hq := h q hq
  simp only [List.length_append, List.length_take, List.length_drop, List.length_cons, List.length_nil]
  omega
theorem stg_ok (f0 f1 f2 f3 : Int) : ∀ i < 4, (∀ o ∈ stg [f0, f1, f2, f3] i, o.length = i) ∧ (stg [f0, f1, f2, f3] (i + 1)).length ≤ 24 := by
  have h0 : ∀ o ∈ ([[]] : List (List Int)), o.length = 0 := by intro o ho; rw [List.mem_singleton.mp ho]; rfl
  intro i hi
  match i, hi with
  | 0, _ => exact ⟨h0, Nat.le_of_ble_eq_true (by kernel_rfl)⟩
  | 1, _ => exact ⟨ins_len h0, Nat.le_of_ble_eq_true (by kernel_rfl)⟩
  | 2, _ => exact ⟨ins_len (ins_len h0), Nat.le_of_ble_eq_true (by kernel_rfl)⟩
  | 3, _ => exact ⟨ins_len (ins_len (ins_len h0)), Nat.le_of_ble_eq_true (by kernel_rfl)⟩
theorem le_sl {n m : Nat} (h : n ≤ m) (hm : m ≤ 16777216 := by decide) : n ≤ sizeLine := Nat.le_trans h hm

theorem Cl.lenI {c : Cx} {ns : List Int} (h : ns.length < 1000) : Cl c (.builtin "len") [.list (dInts ns)] (.int (ns.length : Int)) := by
  have h := Cl.len (c := c) (ds := dInts ns) (by rw [List.length_map]; omega)
  rw [List.length_map] at h
  exact h

set_option maxHeartbeats 4000000 in
theorem orders_spec {c : Cx} (P : Pr c) (hroom : c.A.depth < recursionLimit) (f0 f1 f2 f3 : Int) : Cl c (.ref 127) [.list (dInts [f0, f1, f2, f3])] (.list ((stg [f0, f1, f2, f3] 4).map dL)) := by
  refine Cl.fn (names := [Str.ofString "figures"]) (P.at rfl) rfl (by rw [P.K]; kernel_rfl) rfl rfl rfl rfl rfl ?_ (by decide) ?_ rfl rfl rfl hroom ?_
  · intro vs hvs
    obtain ⟨v1, rfl⟩ := one_of hvs
    rfl
  · intro n x hx
    exact .inl (by revert x; decide)
  intro L W V s s1 hV S E
  refine St.assign (c := fnCx c _ 127 L W V _) (d := .list [.list []]) S (Ev.list (.cons (Ev.list .nil) .nil)) (.inl rfl) ?_
  intro s2 S2
  refine St.for (fun _ => []) (fun i => [(Str.ofString "orders", .list ((stg [f0, f1, f2, f3] i).map dL)), (Str.ofString "figures", .list (dInts [f0, f1, f2, f3]))]) S2 (Src.list (Ev.name rfl)) (.inr ⟨rfl, rfl⟩) ?_ ?_
  · intro i d W1 s3 s4 hd T E1
    obtain ⟨f, hf, rfl⟩ : ∃ f, [f0, f1, f2, f3][i]? = some f ∧ d = .int f := by
      rw [List.getElem?_map] at hd
      cases hq : [f0, f1, f2, f3][i]? with
      | none => rw [hq] at hd; cases hd
      | some w => rw [hq] at hd; cases hd; exact ⟨w, rfl, rfl⟩
    have hi : i < 4 := (List.getElem?_eq_some_iff.mp hf).1
    have hstep : stg [f0, f1, f2, f3] (i + 1) = insI f (stg [f0, f1, f2, f3] i) := by
      unfold stg; rw [List.take_add_one, hf]; simp [List.foldl_append]
    obtain ⟨hlen, hsz⟩ := stg_ok f0 f1 f2 f3 i hi
    rw [hstep] at hsz ⊢
    generalize stg [f0, f1, f2, f3] i = os at T hlen hsz
    refine St.assignCompG (ds := (os.map fun o => (List.range (o.length + 1)).map fun k => D.list ((dInts o).take k ++ [.int f] ++ (dInts o).drop k)).flatten) T
      (comp2 (ρc := [(Str.ofString "figure", .int f)]) (its := os.map dL) (Src.list (Ev.name rfl)) rfl rfl (by decide) (fun C => .inl rfl) (fun C => .inl rfl) (fun C => rfl) (fun C => rfl) ⟨⟨rfl, .inl rfl, fun C => .inl rfl, fun C => rfl⟩, trivial⟩ (fun d1 => .cons rfl .nil) (fun d1 d2 => .cons rfl (.cons rfl .nil)) ?_ ?_ (fun _ => rfl) (fun _ _ => rfl)) (.inl rfl) ?_
    · refine All2.map fun o ho => ⟨dInts (rng 0 (o.length + 1)), fun C W2 V2 own2 => ?_, ?_⟩
      · have hl := hlen o ho
        refine Src.range1 (b := (o.length : Int) + 1) (n := o.length + 1) (Ev.builtin rfl (P.no (by kernel_rfl)) rfl) (Ev.add (Ev.callB (Ev.builtin rfl (P.no (by kernel_rfl)) rfl) (.cons (Ev.name rfl) .nil) (Cl.lenI (by omega))) Ev.int) ?_ ?_
        · rw [hl]; match i, hi with
          | 0, _ => decide
          | 1, _ => decide
          | 2, _ => decide
          | 3, _ => decide
        · rw [hl]; match i, hi with
          | 0, _ => decide
          | 1, _ => decide
          | 2, _ => decide
          | 3, _ => decide
      · unfold rng dInts
        rw [List.map_map]
        refine All2.map fun k hk C W2 V2 own2 => ?_
        have hl := hlen o ho
        have hk := List.mem_range.mp hk
        have h0 : (0 : Int) ≤ 0 + (k : Int) := by omega
        have e0 : ((0 : Int) + (k : Int)).toNat = k := by omega
        refine Ev.bn (a := .list ((dInts o).take k ++ [.int f])) (b := .list ((dInts o).drop k)) (Ev.bn (a := .list ((dInts o).take k)) (b := .list [.int f]) (Ev.sliceE (ds := dInts o) (Ev.name rfl) .none (.some (Ev.name rfl)) .none ((pickD_upto h0).trans (by rw [e0])) (le_sl (m := 4) (by simp; omega))) (Ev.list (.cons (Ev.name rfl) .nil)) (Bn.addList (le_sl (m := 8) (by simp; omega))))
          (Ev.sliceE (ds := dInts o) (Ev.name rfl) (.some (Ev.name rfl)) .none .none ((pickD_from h0).trans (by rw [e0])) (le_sl (m := 4) (by simp; omega))) (Bn.addList (le_sl (m := 16) (by simp; omega)))
    · rw [insI_dL, List.length_map]; exact le_sl hsz
    · intro s5 S5
      rw [insI_dL] at S5
      exact St.nil ⟨rfl, S5.weak (.cons rfl (.cons rfl .nil))⟩
  · intro s3 S3
    exact Run.of (St.retFn hV (fun _ h => h) S3 (Ev.name rfl))
end Mine

end -- OyF4

section -- OyF5
open PySem PySem.W PySem.Calls PyProof.Rows
set_option Elab.async false
set_option maxRecDepth 100000
namespace Mine

/-! _law_shadow -/
theorem fmSign_one {i k n : Nat} {m : Int} (hi : i ≠ 0) : fmSign i m [(2 ^ k, n)] = if m / 2 ^ k % 2 = 1 then n else 45 := by
  have hp : (0 : Int) < 2 ^ k := Int.pow_pos (by decide)
  have h2 : m / 2 ^ k % 2 = 0 ∨ m / 2 ^ k % 2 = 1 := by omega
  unfold fmSign
  rw [List.find?_cons, fmHit1 hi]
  dsimp only
  rw [kbt_bit]
  rcases h2 with h | h
  · rw [h]
    have e : ((0 : Int) * 2 ^ k == 2 ^ k) = false := by rw [Int.zero_mul]; simp; omega
    rw [e]; simp [hi]
  · rw [h]
    have e : ((1 : Int) * 2 ^ k == 2 ^ k) = true := by rw [Int.one_mul]; simp
    rw [e]; simp

noncomputable def bitOf (ch : Int) (k : Nat) : Bool := ch / 2 ^ k % 2 == 1
noncomputable def rightsOf (ch : Int) : List Int := (if bitOf ch 0 then [256] else []) ++ ((if bitOf ch 1 then [128] else []) ++ ((if bitOf ch 2 then [32] else []) ++ (if bitOf ch 3 then [16] else [])))
noncomputable def rightO (ch : Int) (k : Nat) (v : Int) : Option D := if bitOf ch k then some (.int v) else none
theorem rights_eq (ch : Int) : [rightO ch 0 256, rightO ch 1 128, rightO ch 2 32, rightO ch 3 16].filterMap id = dInts (rightsOf ch) := by
  unfold rightO rightsOf
  cases bitOf ch 0 <;> cases bitOf ch 1 <;> cases bitOf ch 2 <;> cases bitOf ch 3 <;> rfl
/-- the four signs of a look -/
noncomputable def sg0 (m : Int) : Nat := if m / 2 ^ 8 % 2 = 1 then 114 else 45
noncomputable def sg1 (m : Int) : Nat := if m / 2 ^ 7 % 2 = 1 then 119 else 45
noncomputable def sg2 (m : Int) : Nat := if m / 2 ^ 5 % 2 = 1 then 114 else 45
noncomputable def sg3 (m : Int) : Nat := if m / 2 ^ 4 % 2 = 1 then 119 else 45
theorem sjoin_chrs : ∀ ns : List Nat, Str.join ⟨#[]⟩ (chrs ns) = ⟨ns.toArray⟩
  | [] => rfl
  | [n] => rfl
  | n :: m :: r => by
    have h := sjoin_chrs (m :: r)
    show (⟨#[n]⟩ ++ ⟨#[]⟩ : Str) ++ Str.join ⟨#[]⟩ (chrs (m :: r)) = _
    rw [h]
    apply Str.ext'
    rw [Str.cps_append, Str.cps_append]
    simp
theorem join_chrs (ns : List Nat) : Txt.join ⟨#[]⟩ (chrs ns) = ⟨ns.toArray⟩ := (StrLaws.glued_eq_join _ _).trans (sjoin_chrs ns)
theorem empty_str : Str.ofString "" = (⟨#[]⟩ : Str) := by decide +kernel
noncomputable def lookOf (m : Int) : Str := Txt.join (Str.ofString "") (fmList m)
theorem look_cps (m : Int) : lookOf m = ⟨#[fmSign 0 m (fmTab.getD 0 []), sg0 m, sg1 m, fmSign 3 m (fmTab.getD 3 []), sg2 m, sg3 m, fmSign 6 m (fmTab.getD 6 []), fmSign 7 m (fmTab.getD 7 []), fmSign 8 m (fmTab.getD 8 []), fmSign 9 m (fmTab.getD 9 [])]⟩ := by
  have e0 : sg0 m = fmSign 1 m [(256, 114)] := (fmSign_one (i := 1) (k := 8) (n := 114) (by decide)).symm
  have e1 : sg1 m = fmSign 2 m [(128, 119)] := (fmSign_one (i := 2) (k := 7) (n := 119) (by decide)).symm
  have e2 : sg2 m = fmSign 4 m [(32, 114)] := (fmSign_one (i := 4) (k := 5) (n := 114) (by decide)).symm
  have e3 : sg3 m = fmSign 5 m [(16, 119)] := (fmSign_one (i := 5) (k := 4) (n := 119) (by decide)).symm
  have h : fmList m = chrs [fmSign 0 m (fmTab.getD 0 []), sg0 m, sg1 m, fmSign 3 m (fmTab.getD 3 []), sg2 m, sg3 m, fmSign 6 m (fmTab.getD 6 []), fmSign 7 m (fmTab.getD 7 []), fmSign 8 m (fmTab.getD 8 []), fmSign 9 m (fmTab.getD 9 [])] := by
    rw [e0, e1, e2, e3]; rfl
  unfold lookOf
  rw [h, empty_str, join_chrs]
theorem look_signs (m : Int) : (lookOf m).cps[1]? = some (sg0 m) ∧ (lookOf m).cps[2]? = some (sg1 m) ∧ (lookOf m).cps[4]? = some (sg2 m) ∧ (lookOf m).cps[5]? = some (sg3 m) := by
  rw [look_cps]
  exact ⟨rfl, rfl, rfl, rfl⟩
noncomputable def shadI (net : List Int) (m : Int) : List Int := (runN [sg0 m, sg1 m, sg2 m, sg3 m] net).map fun n => if n = 45 then 0 else 1
theorem dash_eq (n : Nat) : ((⟨#[n]⟩ : Str) == Str.ofString "-") = decide (n = 45) := by
  rw [show Str.ofString "-" = (⟨#[45]⟩ : Str) by decide +kernel]
  by_cases h : n = 45
  · subst h; simp
  · simp [h]
theorem runN_len {net : List Int} (h : NetOk net) (a b c d : Nat) : (runN [a, b, c, d] net).length = 4 := by
  obtain ⟨_, _, _, _, e⟩ := run_four net h a b c d; rw [e]; rfl

set_option maxHeartbeats 4000000 in
theorem shadow_spec {c : Cx} (P : Pr c) (hroom : c.A.depth + 2 < recursionLimit) (ch frame : Int) (net : List Int) (hnet : NetOk net) :
    Cl c (.ref 115) [.int ch, .int frame, .list (dInts net)] (.list (dInts (shadI net (frame + (rightsOf ch).sum)))) := by
  refine Cl.fn (names := [Str.ofString "chosen", Str.ofString "frame", Str.ofString "net"]) (P.at rfl) rfl (by rw [P.K]; kernel_rfl) rfl rfl rfl rfl rfl ?_ (by decide) ?_ rfl rfl rfl (by omega) ?_
  · intro vs hvs
    obtain ⟨v1, v2, v3, rfl⟩ := three_of hvs
    rfl
  · intro n x hx
    have hx' : x = Str.ofString "chosen" ∨ x = Str.ofString "frame" ∨ x = Str.ofString "net" := by simpa using hx
    rcases hx' with rfl | rfl | rfl
    · exact .inr ⟨rfl, rfl⟩
    · exact .inl rfl
    · exact .inl rfl
  intro L W V s s1 hV S E
  have tst : ∀ (k : Nat) (hk : k < 4) (v : Int), True := fun _ _ _ => trivial
  refine St.assignComp (c := fnCx c _ 115 L W V _) (ρc := [(Str.ofString "chosen", .int ch)]) (its := [.int 0, .int 1, .int 2, .int 3]) (res := [rightO ch 0 256, rightO ch 1 128, rightO ch 2 32, rightO ch 3 16]) S ⟨rfl, rfl, by decide, fun C => .inl rfl, fun C => .inl rfl, ⟨⟨rfl, .inl rfl, fun C => .inl rfl, fun C => rfl⟩, trivial⟩, rfl⟩
    (Src.range1 (n := 4) (Ev.builtin rfl (P.no (by kernel_rfl)) rfl) Ev.int (by decide) (by decide)) ?_ (by decide) (.inl rfl) ?_
  · have go : ∀ (k : Nat) (hk : k < 4) (v : Int) (o : Option D), o = rightO ch k v → o.isSome = (ch / 2 ^ (k : Int).toNat % 2 == 1) := by
      intro k hk v o ho
      subst ho
      unfold rightO bitOf
      rw [Int.toNat_natCast]
      cases (ch / 2 ^ k % 2 == 1) <;> rfl
    have go2 : ∀ (k : Nat) (v : Int) (r : D), rightO ch k v = some r → r = .int v := by
      intro k v r hr
      unfold rightO at hr
      cases hb : bitOf ch k with
      | true => rw [hb] at hr; cases hr; rfl
      | false => rw [hb] at hr; cases hr
    have pw : ∀ (k : Nat), k < 4 → (0 : Int) ≤ (k : Int) ∧ (Builtin.Int.intBits 2 : Int) * (k : Int) ≤ 2 ^ 27 ∧ (0 : Int) < 2 ^ (k : Int).toNat ∧ (2 : Int) ^ (k : Int).toNat < 1073741824 := by
      intro k hk
      have := lt4 hk
      rcases this with rfl | rfl | rfl | rfl <;> exact ⟨by decide, by decide, by decide, by decide⟩
    refine .cons (fun C W' => ⟨?_, fun r hr => ?_⟩) (.cons (fun C W' => ⟨?_, fun r hr => ?_⟩) (.cons (fun C W' => ⟨?_, fun r hr => ?_⟩) (.cons (fun C W' => ⟨?_, fun r hr => ?_⟩) .nil)))
    · rw [go 0 (by decide) 256 _ rfl]
      have p := pw 0 (by decide)
      exact Ts.one (Tv.cm (Ev.mod (Ev.div (Ev.name rfl) (Ev.bn Ev.int (Ev.name rfl) (Bn.pow p.1 p.2.1)) p.2.2.1 p.2.2.2) Ev.int (by decide)) Ev.int Cm.eqInt)
    · rw [go2 _ _ _ hr]
      exact Ev.sbs (Ev.list (.cons Ev.int (.cons Ev.int (.cons Ev.int (.cons Ev.int .nil))))) (Ev.name rfl) (.list (by decide) rfl (by decide) plain_name)
    · rw [go 1 (by decide) 128 _ rfl]
      have p := pw 1 (by decide)
      exact Ts.one (Tv.cm (Ev.mod (Ev.div (Ev.name rfl) (Ev.bn Ev.int (Ev.name rfl) (Bn.pow p.1 p.2.1)) p.2.2.1 p.2.2.2) Ev.int (by decide)) Ev.int Cm.eqInt)
    · rw [go2 _ _ _ hr]
      exact Ev.sbs (Ev.list (.cons Ev.int (.cons Ev.int (.cons Ev.int (.cons Ev.int .nil))))) (Ev.name rfl) (.list (by decide) rfl (by decide) plain_name)
    · rw [go 2 (by decide) 32 _ rfl]
      have p := pw 2 (by decide)
      exact Ts.one (Tv.cm (Ev.mod (Ev.div (Ev.name rfl) (Ev.bn Ev.int (Ev.name rfl) (Bn.pow p.1 p.2.1)) p.2.2.1 p.2.2.2) Ev.int (by decide)) Ev.int Cm.eqInt)
    · rw [go2 _ _ _ hr]
      exact Ev.sbs (Ev.list (.cons Ev.int (.cons Ev.int (.cons Ev.int (.cons Ev.int .nil))))) (Ev.name rfl) (.list (by decide) rfl (by decide) plain_name)
    · rw [go 3 (by decide) 16 _ rfl]
      have p := pw 3 (by decide)
      exact Ts.one (Tv.cm (Ev.mod (Ev.div (Ev.name rfl) (Ev.bn Ev.int (Ev.name rfl) (Bn.pow p.1 p.2.1)) p.2.2.1 p.2.2.2) Ev.int (by decide)) Ev.int Cm.eqInt)
    · rw [go2 _ _ _ hr]
      exact Ev.sbs (Ev.list (.cons Ev.int (.cons Ev.int (.cons Ev.int (.cons Ev.int .nil))))) (Ev.name rfl) (.list (by decide) rfl (by decide) plain_name)
  rw [rights_eq]
  intro s2 S2
  generalize hm : frame + (rightsOf ch).sum = m
  refine St.assign (d := .str (lookOf m)) S2 (Ev.callFn (Ev.glob rfl (P.ye (by kernel_rfl)) fun _ _ => .obj _) (P.at rfl) rfl (.cons (Ev.add (Ev.name rfl) (Ev.callB (ds := [.list (dInts (rightsOf ch))]) (Ev.builtin rfl (P.no (by kernel_rfl)) rfl) (.cons (Ev.name rfl) .nil) Cl.sum)) .nil) (by rw [hm]; exact filemode_spec P.of (by show c.A.depth + 1 + 1 < _; omega) m)) (.inl rfl) ?_
  intro s3 S3
  obtain ⟨q0, q1, q2, q3⟩ := look_signs m
  refine St.assign (d := .list (dStrs ((runT (ws0 (sg0 m) (sg1 m) (sg2 m) (sg3 m)) net).map signOf))) S3 (Ev.callFn (Ev.glob rfl (P.ye (by kernel_rfl)) fun _ _ => .obj _) (P.at rfl) rfl
    (.cons (Ev.list (.cons (Ev.sbs (Ev.name rfl) Ev.int (.str (by decide) q0 (by decide) plain_const)) (.cons (Ev.sbs (Ev.name rfl) Ev.int (.str (by decide) q1 (by decide) plain_const)) (.cons (Ev.sbs (Ev.name rfl) Ev.int (.str (by decide) q2 (by decide) plain_const)) (.cons (Ev.sbs (Ev.name rfl) Ev.int (.str (by decide) q3 (by decide) plain_const)) .nil))))) (.cons (Ev.name rfl) .nil))
    (law_run_spec P.of (by show c.A.depth + 1 + 1 < _; omega) .list net hnet)) (.inl rfl) ?_
  rw [run_signs hnet]
  intro s4 S4
  have hfin : dInts (shadI net m) = ((runN [sg0 m, sg1 m, sg2 m, sg3 m] net).map fun n => some (D.int (if n = 45 then 0 else 1))).filterMap id := by
    simp [shadI, dInts, List.filterMap_map]
  rw [hfin]
  refine Run.of (St.retFn hV (fun _ h => h) S4 (Ev.comp (ρc := []) (its := (runN [sg0 m, sg1 m, sg2 m, sg3 m] net).map fun n => .str ⟨#[n]⟩) ⟨rfl, rfl, by decide, fun C => .inl rfl, fun C => .inl rfl, trivial, rfl⟩ (Src.list (Ev.name ?_)) (All2.map fun n hn C W' => ⟨Ts.nil, fun r hr => ?_⟩) (by simp [runN_len hnet]; decide)))
  · unfold chrs; rw [show dStrs ((runN [sg0 m, sg1 m, sg2 m, sg3 m] net).map fun n => (⟨#[n]⟩ : Str)) = (runN [sg0 m, sg1 m, sg2 m, sg3 m] net).map fun n => D.str ⟨#[n]⟩ by simp [dStrs]]; rfl
  · cases hr
    refine Ev.ite (q := decide (n = 45)) (by rw [← dash_eq]; exact Tv.cm (Ev.name rfl) Ev.str Cm.eqStr) (fun h => ?_) (fun h => ?_)
    · rw [if_pos (of_decide_eq_true h)]; exact Ev.int
    · rw [if_neg (of_decide_eq_false h)]; exact Ev.int
end Mine

end -- OyF5

section -- OyB64
open PySem PySem.W PySem.Calls PyProof.Rows
set_option Elab.async false
set_option maxRecDepth 100000
namespace Mine

/-- a call with one value by place and one by name -/
noncomputable def Clk (c : Cx) (f : Value) (d1 : D) (n : Str) (d2 d : D) : Prop := ∀ v w s, Ok c s.heap → Rd c.W s.heap v d1 → Rd c.W s.heap w d2 → Qt c (call f [v] [(n, w)]) d s
theorem Ev.callKw {c : Cx} {x n : Str} {np pos kp : Pos} {e ke : Expr} {d1 d2 d : D} {f : Addr} {o : Obj} {fd : FuncData} (hf : Ev c (.Name x np) (.obj (.ref f))) (hK : c.K.lookup f = some o) (hdata : o.data = .func fd) (he : Ev c e d1) (hk : Ev c ke d2) (hc : Clk c (.ref f) d1 n d2 d)
    (hs : starEach [e] c.env = (false, eval e c.env) :: starEach [] c.env := by rfl) : Ev c (.Call (.Name x np) [e] [⟨some n, ke, kp⟩] pos) d := by
  intro s k E
  refine wpAny_Call_Name_kw (hf.step k fun v s₁ e₁ k₁ r => ?_)
  obtain rfl := r.objI
  refine callWith_def_kw (o := o) (fd := fd) hdata (evalArgs_kw2 (by rfl) ((EvL.cons he .nil hs).step k₁ fun vs s₂ e₂ k₂ rs => ?_) hs)
  obtain ⟨_, rfl, r1⟩ := rs.inv1
  refine kwAll_cons (hk.step k₂ fun w s₃ e₃ k₃ r2 => kwAll_nil ⟨k₃.glh.K _ _ hK, ?_⟩)
  exact wpAny_mono (hc _ w s₃ k₃ (r1.ext e₃.ext) r2 E) (fun v s' x => ⟨e₁.trans (e₂.trans (e₃.trans x.1)), x.2⟩) fun _ _ e => e

noncomputable def b64tab : List UInt8 := [65, 66, 67, 68, 69, 70, 71, 72, 73, 74, 75, 76, 77, 78, 79, 80, 81, 82, 83, 84, 85, 86, 87, 88, 89, 90, 97, 98, 99, 100, 101, 102, 103, 104, 105, 106, 107, 108, 109, 110, 111, 112, 113, 114, 115, 116, 117, 118, 119, 120, 121, 122, 48, 49, 50, 51, 52, 53, 54, 55, 56, 57, 43, 47]
noncomputable def e64 (i : Int) : Int := ((b64tab.getD i.toNat 0).toNat : Int)
/-- the encoder's state: the text, the bits left over, the last bits -/
structure B6 where
  out : List Int
  lb : Nat
  lc : Int
noncomputable def em (lb : Nat) (lc : Int) (j : Nat) : Int := e64 (lc / 2 ^ (lb + 2 - 6 * j) % 64)
noncomputable def emN (lb : Nat) : Nat := if lb = 4 then 2 else 1
noncomputable def b6step (t : B6) (u : Int) : B6 :=
  let lc := (t.lc * 256 + u) % 65536
  ⟨t.out ++ (List.range (emN t.lb)).map (em t.lb lc), if t.lb = 4 then 0 else t.lb + 2, lc⟩
noncomputable def b6run (us : List Int) : B6 := us.foldl b6step ⟨[], 0, 0⟩
noncomputable def B6.Ok (t : B6) : Prop := (t.lb = 0 ∨ t.lb = 2 ∨ t.lb = 4) ∧ 0 ≤ t.lc ∧ t.lc < 65536
theorem b6step_ok {t : B6} (h : t.Ok) (u : Int) : (b6step t u).Ok := by
  refine ⟨?_, Int.emod_nonneg _ (by decide), Int.emod_lt_of_pos _ (by decide)⟩
  rcases h.1 with h | h | h <;> simp [b6step, h]
theorem b6run_ok : ∀ (us : List Int) (t : B6), t.Ok → (us.foldl b6step t).Ok
  | [], _, h => h
  | u :: r, t, h => b6run_ok r _ (b6step_ok h u)
theorem b6_take {us : List Int} {i : Nat} {u : Int} (h : us[i]? = some u) : b6run (us.take (i + 1)) = b6step (b6run (us.take i)) u := by
  unfold b6run; rw [List.take_add_one, h]; simp [List.foldl_append]
theorem b6_len : ∀ (us : List Int) (t : B6), (us.foldl b6step t).out.length ≤ t.out.length + 2 * us.length
  | [], t => by simp
  | u :: r, t => by
    have h := b6_len r (b6step t u)
    have h2 : (b6step t u).out.length ≤ t.out.length + 2 := by
      simp only [b6step, List.length_append, List.length_map, List.length_range, emN]
      split <;> omega
    simp only [List.foldl_cons, List.length_cons]
    omega
theorem and_zero (a : Int) : Builtin.bitAnd a 0 = 0 := by
  have h := kbt_mask a 0
  have e : (2 : Int) ^ 0 - 1 = 0 := by decide
  rw [e] at h
  rw [h]
  show a % 1 = 0
  omega
theorem shift_and : ∀ (k : Nat) (a u : Int), Builtin.bitAnd (a * 2 ^ k) u = 2 ^ k * Builtin.bitAnd a (u / 2 ^ k)
  | 0, a, u => by
    have e : (2 : Int) ^ 0 = 1 := by decide
    rw [e, Int.mul_one, Int.one_mul, Int.ediv_one]
  | k + 1, a, u => by
    have e1 : a * 2 ^ (k + 1) = (a * 2) * 2 ^ k := by rw [Int.pow_succ, Int.mul_assoc, Int.mul_comm (2 ^ k) 2]
    rw [e1, shift_and k (a * 2) u, kbt_halves]
    have e2 : a * 2 / 2 = a := by omega
    have e3 : ¬ (a * 2 % 2 = 1 ∧ u / 2 ^ k % 2 = 1) := by omega
    rw [e2, if_neg e3, Int.add_zero, Int.ediv_ediv_of_nonneg (Int.le_of_lt (Int.pow_pos (by decide))), ← Int.pow_succ, ← Int.mul_assoc, ← Int.pow_succ]
theorem or_shift (a u : Int) (hu : 0 ≤ u ∧ u < 256) : Builtin.bitOr (a * 2 ^ (8 : Int).toNat) u = a * 256 + u := by
  have e : (8 : Int).toNat = 8 := rfl
  have e2 : u / 2 ^ 8 = 0 := by omega
  rw [bitOr_and, e, shift_and, e2, and_zero]
  omega
theorem mask16 (x : Int) : Builtin.bitAnd x 65535 = x % 65536 := kbt_mask x 16
theorem mask6 (x : Int) : Builtin.bitAnd x 63 = x % 64 := kbt_mask x 6
theorem b64_at {q : Int} (h0 : 0 ≤ q) (h : q < 64) : b64tab.toArray[q.toNat]? = some (b64tab.getD q.toNat 0) := by
  have hl : b64tab.length = 64 := by decide
  have hq : q.toNat < b64tab.length := by omega
  rw [List.getElem?_toArray, List.getD_eq_getElem?_getD, List.getElem?_eq_getElem hq]; rfl
theorem b64_glob {c : Cx} (P : Pr c) {c' : Cx} {np : Pos} (hk : c'.env.kindOf (Str.ofString "_B64") = some .globalImplicit) (hK : c'.K = c.K := by kernel_rfl) : Ev c' (.Name (Str.ofString "_B64") np) (.bytes b64tab.toArray) :=
  Ev.glob (v := .bytes b64tab.toArray 222) hk (P.ye (by kernel_rfl) hK) fun _ _ => .bytes _ _

theorem e64_range (i : Int) : 0 ≤ e64 i ∧ e64 i < 256 := by
  unfold e64
  have := (b64tab.getD i.toNat 0).toNat_lt
  omega
theorem b6_range : ∀ (us : List Int) (t : B6), (∀ n ∈ t.out, 0 ≤ n ∧ n < 256) → ∀ n ∈ (us.foldl b6step t).out, 0 ≤ n ∧ n < 256
  | [], _, h => h
  | u :: r, t, h => b6_range r _ fun n hn => by
    simp only [b6step, List.mem_append, List.mem_map] at hn
    rcases hn with hn | ⟨j, _, rfl⟩
    · exact h n hn
    · exact e64_range _

set_option maxHeartbeats 4000000 in
theorem b2a_spec {c : Cx} (P : Pr c) (hroom : c.A.depth + 1 < recursionLimit) (b : Array UInt8) (us : List Int) (hus : KBw.bInts b = us) (hlen : us.length ≤ 1000) (hub : ∀ u ∈ us, 0 ≤ u ∧ u < 256) (hlb : (b6run us).lb = 0) :
    Clk c (.ref 50) (.bytes b) (Str.ofString "newline") (.bool false) (.bytes (byteArr (b6run us).out)) := by
  intro v w s k r1 r2 E
  refine fn_code (names := [Str.ofString "data", Str.ofString "newline"]) (vs := [v, w]) (ds := [.bytes b, .bool false]) (args := ⟨[v], [(Str.ofString "newline", w)]⟩) k (.cons r1 (.one r2)) (P.at rfl) rfl (by rw [P.K]; kernel_rfl) rfl rfl rfl rfl rfl (BindsTo.of_eq rfl) (by decide) ?_ rfl rfl rfl (Nat.lt_of_succ_lt hroom) ?_
  · intro n x hx
    exact .inl (by revert x; decide)
  intro L W V s1 hW hV S E1
  refine S.run ?_
  refine St.assign S (Ev.callFn (Ev.glob rfl (P.ye (by kernel_rfl)) fun _ _ => .obj _) (P.at rfl) rfl (.cons (Ev.name rfl) .nil) (buffer_spec P.of hroom b)) (.inl rfl) ?_
  intro s2 S2
  refine St.assign S2 (Ev.callFn (Ev.glob rfl (P.ye (by kernel_rfl)) fun _ _ => .obj _) (P.at rfl) rfl (.cons (Ev.name rfl) .nil) (truth_spec P.of hroom false)) (.inl rfl) ?_
  intro s3 S3
  refine St.assignOwn S3 Fv.nil (.inl rfl) ?_
  intro a s4 ha S4
  refine St.assign S4 Ev.int (.inl rfl) ?_
  intro s5 S5
  refine St.assign S5 Ev.int (.inl rfl) ?_
  intro s6 S6
  subst hus
  generalize hus : KBw.bInts b = us at *
  refine St.for (fun i => [(a, dInts (b6run (us.take i)).out)]) (fun i => [(Str.ofString "leftchar", .int (b6run (us.take i)).lc), (Str.ofString "leftbits", .int ((b6run (us.take i)).lb : Nat)), (Str.ofString "out", .obj (.ref a)), (Str.ofString "newline", .bool false), (Str.ofString "bin_data", .bytes b)])
    (S6.weak (.cons rfl (.cons rfl (.cons rfl (.cons rfl (.cons rfl .nil)))))) (its := dInts us) (by rw [← hus]; exact Src.bytes (Ev.name rfl)) (.inl rfl) ?_ ?_
  · intro i d W1 s7 s8 hd T E2
    obtain ⟨u, hu, rfl⟩ : ∃ u, us[i]? = some u ∧ d = .int u := by
      rw [List.getElem?_map] at hd
      cases hq : us[i]? with
      | none => rw [hq] at hd; cases hd
      | some w => rw [hq] at hd; cases hd; exact ⟨w, rfl, rfl⟩
    have hu1 := hub u (List.mem_of_getElem? hu)
    rw [b6_take hu]
    have hok : (b6run (us.take i)).Ok := b6run_ok _ _ ⟨.inl rfl, by decide, by decide⟩
    have hol : (b6run (us.take i)).out.length ≤ 2000 := by
      have h1 := b6_len (us.take i) ⟨[], 0, 0⟩
      have h2 : (us.take i).length ≤ us.length := List.length_take_le' _ _
      simp only [List.length_nil] at h1
      unfold b6run
      omega
    generalize b6run (us.take i) = t at T hok hol ⊢
    obtain ⟨out, lb, lc0⟩ := t
    obtain ⟨hb, hc0, hc1⟩ := hok
    dsimp only at T hol hb hc0 hc1
    have e1 : Builtin.bitAnd (Builtin.bitOr (lc0 * 2 ^ (8 : Int).toNat) u) 65535 = (lc0 * 256 + u) % 65536 := by rw [or_shift _ _ hu1, mask16]
    have e2 : b6step ⟨out, lb, lc0⟩ u = ⟨out ++ (List.range (emN lb)).map (em lb ((lc0 * 256 + u) % 65536)), if lb = 4 then 0 else lb + 2, (lc0 * 256 + u) % 65536⟩ := rfl
    rw [e2]
    have hlc : 0 ≤ (lc0 * 256 + u) % 65536 := Int.emod_nonneg _ (by decide)
    generalize (lc0 * 256 + u) % 65536 = lc at e1 hlc ⊢
    refine St.assign (d := .int lc) T (by rw [← e1]; exact Ev.bn (Ev.bn (Ev.bn (Ev.name rfl) Ev.int (Bn.shl (by decide) (by decide) (by show lc0.natAbs < _; omega))) (Ev.name rfl) Bn.or) Ev.int Bn.and) (.inl rfl) ?_
    intro s9 S9
    refine St.assign S9 (Ev.add (Ev.name rfl) Ev.int) (.inl rfl) ?_
    intro s10 S10
    obtain ⟨ow, ho⟩ : ∃ f : Nat → List (Addr × List D), ∀ j, f j = [(a, dInts (out ++ (List.range j).map (em lb lc)))] := ⟨_, fun _ => rfl⟩
    obtain ⟨rh, hr⟩ : ∃ f : Nat → List (Str × D), ∀ j, f j = [(Str.ofString "leftbits", .int ((lb : Int) + 8 - 6 * (j : Int))), (Str.ofString "leftchar", .int lc), (Str.ofString "out", .obj (.ref a)), (Str.ofString "newline", .bool false), (Str.ofString "bin_data", .bytes b)] := ⟨_, fun _ => rfl⟩
    have ho0 : ow 0 = [(a, dInts out)] := by rw [ho]; simp
    have hr0 : rh 0 = [(Str.ofString "leftbits", .int ((lb : Int) + 8)), (Str.ofString "leftchar", .int lc), (Str.ofString "out", .obj (.ref a)), (Str.ofString "newline", .bool false), (Str.ofString "bin_data", .bytes b)] := by rw [hr]; simp
    refine St.while (s0 := s7) (emN lb) ow rh ?_ ?_ ?_ ?_
    · rw [ho0, hr0]
      exact S10.weak (.cons rfl (.cons rfl (.cons rfl (.cons rfl (.cons rfl .nil)))))
    · intro j hj
      rw [hr]
      have e3 : decide (j < emN lb) = decide ((6 : Int) ≤ (lb : Int) + 8 - 6 * (j : Int)) := by
        rw [decide_eq_decide]
        unfold emN at hj ⊢
        rcases hb with h | h | h <;> (rw [h] at hj ⊢; simp at hj ⊢; omega)
      rw [e3]
      exact Tv.cm (Ev.name rfl) Ev.int Cm.geInt
    · intro j s11 s12 hj T11 E3
      rw [ho, hr] at T11
      rw [ho, hr, ho, hr]
      have hj6 : 6 * j ≤ lb + 2 := by
        unfold emN at hj
        rcases hb with h | h | h <;> (rw [h] at hj ⊢; simp at hj; omega)
      have e4 : Builtin.bitAnd (lc.fdiv (2 ^ ((lb : Int) + 8 - 6 * (j : Int) - 6).toNat)) 63 = lc / 2 ^ (lb + 2 - 6 * j) % 64 := by
        have e5 : ((lb : Int) + 8 - 6 * (j : Int) - 6).toNat = lb + 2 - 6 * j := by omega
        rw [e5, mask6, Int.fdiv_eq_ediv_of_nonneg _ (Int.le_of_lt (Int.pow_pos (by decide)))]
      have e6 : em lb lc j = ((b64tab.getD (lc / 2 ^ (lb + 2 - 6 * j) % 64).toNat 0).toNat : Int) := rfl
      have q0 : 0 ≤ lc / 2 ^ (lb + 2 - 6 * j) % 64 := Int.emod_nonneg _ (by decide)
      have q1 : lc / 2 ^ (lb + 2 - 6 * j) % 64 < 64 := Int.emod_lt_of_pos _ (by decide)
      have e7 : dInts (out ++ (List.range (j + 1)).map (em lb lc)) = dInts (out ++ (List.range j).map (em lb lc)) ++ [.int (em lb lc j)] := by
        rw [List.range_succ]; simp
      rw [e7]
      have hjn : j ≤ 2 := by unfold emN at hj; split at hj <;> omega
      refine St.append T11 rfl rfl (fun _ h => nomatch h) (Ev.sbs (b := .int (lc / 2 ^ (lb + 2 - 6 * j) % 64)) (b64_glob P rfl) (by rw [← e4]; exact Ev.bn (Ev.bn (Ev.name rfl) (Ev.sub (Ev.name rfl) Ev.int) (Bn.shr (by omega))) Ev.int Bn.and) (It.bytes q0 (b64_at q0 q1) (by decide) plain_bin)) (le_sl (m := 3000) (by simp; omega)) ?_
      intro s13 S13
      have e8 : (lb : Int) + 8 - 6 * ((j + 1 : Nat) : Int) = (lb : Int) + 8 - 6 * (j : Int) - 6 := by omega
      rw [e8]
      refine St.assign S13 (Ev.sub (Ev.name rfl) Ev.int) (.inl rfl) ?_
      intro s14 S14
      exact St.nil ⟨rfl, S14.weak (.cons rfl (.cons rfl (.cons rfl (.cons rfl (.cons rfl .nil)))))⟩
    · intro s11 S11
      rw [ho, hr] at S11
      have e9 : (lb : Int) + 8 - 6 * (emN lb : Int) = (((if lb = 4 then 0 else lb + 2 : Nat)) : Int) := by
        unfold emN
        rcases hb with h | h | h <;> (rw [h]; simp)
      rw [e9] at S11
      exact St.nil ⟨rfl, S11.weak (.cons rfl (.cons rfl (.cons rfl (.cons rfl (.cons rfl .nil)))))⟩
  · intro s7 S7
    have hrun : b6run (us.take (dInts us).length) = b6run us := by rw [List.length_map, List.take_length]
    rw [hrun, hlb] at S7
    refine Run.of (St.if (v := false) S7 (Tv.cm (Ev.name rfl) Ev.int Cm.eqInt) (fun h => by cases h) ?_)
    intro _ s8 S8
    refine St.if (v := false) S8 (Tv.cm (Ev.name rfl) Ev.int Cm.eqInt) (fun h => by cases h) ?_
    intro _ s9 S9
    refine St.nil (St.nil (St.if (v := false) S9 (Tv.ofEv (Ev.name rfl)) (fun h => by cases h) ?_))
    intro _ s10 S10
    refine St.nil ?_
    have haW : a ∉ W := fun hm => by obtain ⟨o, ho⟩ := S3.ok.wex a hm; rw [ha] at ho; cases ho
    have haV : a ∉ V := fun hm => haW (S3.ok.vw a hm)
    have h0 : s.heap.get? a = none := by
      cases z : s.heap.get? a with
      | none => rfl
      | some o => have := S3.keep a o haV z; rw [ha] at this; cases this
    have S11 := Sta.freeze (c := fnCx c _ 50 L W V _) (W := W) (V := V) (own := []) (x := Str.ofString "out") S10 rfl haV haW h0 (fun _ h => nomatch h) (S.ok.fr.shrink S10.ok.fr) S.ok.vw
    refine Run.of (St.retFn hV (fun _ h => h) S11 (Ev.callT (Ev.builtin rfl (P.no (by kernel_rfl)) rfl) (.cons (Ev.name rfl) .nil) (Cl.bytes (b6_range us _ (fun _ h => nomatch h)) (le_sl (m := 3000) ?_))))
    have h1 := b6_len us ⟨[], 0, 0⟩
    simp only [List.length_nil] at h1
    unfold b6run
    omega
end Mine

end -- OyB64

section -- OyEnc
open PySem PySem.W PySem.Calls PyProof.Rows
set_option Elab.async false
set_option maxRecDepth 100000
namespace Mine

theorem St.assert {c : Cx} {s0 s : Shared} {rest : List Stmt} {Q : Flow → Shared → Prop} {E : Value → Shared → Prop} {t : Expr} {msg : Option Expr} {pos : Pos} (S : Sta c s0 s) (h : Tv c t true) (q : ∀ s', Sta c s0 s' → Run c rest Q E s') : Run c (.Assert t msg pos :: rest) Q E s :=
  wpAny_execs_cons (wpAny_Assert_holds (h.step S.ok fun s₁ e₁ _ => ⟨rfl, q s₁ (S.quiet e₁)⟩))
theorem Cl.lenB2 {c : Cx} {b : Array UInt8} (h : b.size = 2) : Cl c (.builtin "len") [.bytes b] (.int 2) := by
  have q := Cl.lenBytes (c := c) (b := b) (by omega)
  rw [h] at q; exact q

noncomputable def encB (pair : Array UInt8) (us : List Int) : Array UInt8 := trB (mkT #[43, 47] pair) (byteArr (b6run us).out)
theorem byteArr_size (ns : List Int) : (byteArr ns).size = ns.length := by simp [byteArr]

set_option maxHeartbeats 4000000 in
theorem enc_spec {c : Cx} (P : Pr c) (hroom : c.A.depth + 2 < recursionLimit) (b pair : Array UInt8) (us : List Int) (hus : KBw.bInts b = us) (hlen : us.length ≤ 1000) (hub : ∀ u ∈ us, 0 ≤ u ∧ u < 256) (hlb : (b6run us).lb = 0) (hp : pair.size = 2) :
    Cl c (.ref 58) [.bytes b, .bytes pair] (.bytes (encB pair us)) := by
  intro vs s k r E
  obtain ⟨v, w, rfl, r1, r2⟩ := r.inv2
  refine fn_code (names := [Str.ofString "s", Str.ofString "altchars"]) (vs := [v, w]) (ds := [.bytes b, .bytes pair]) (args := ⟨[v, w], []⟩) k (.cons r1 (.one r2)) (P.at rfl) rfl (by rw [P.K]; kernel_rfl) rfl rfl rfl rfl rfl
    (BindsTo.of_defaults (T := 51) rfl (k.glh.K _ _ (P.at rfl)) rfl rfl rfl) (by decide) ?_ rfl rfl rfl (by omega) ?_
  · intro n x hx
    exact .inl (by revert x; decide)
  intro L W V s1 hW hV S E1
  refine S.run ?_
  refine St.assign S (Ev.callKw (Ev.glob rfl (P.ye (by kernel_rfl)) fun _ _ => .obj _) (P.at rfl) rfl (Ev.name rfl) Ev.bool (b2a_spec P.of (by show c.A.depth + 1 + 1 < _; omega) b us hus hlen hub hlb)) (.inl rfl) ?_
  intro s2 S2
  refine St.if (v := true) S2 (Tv.cm (Ev.name rfl) Ev.none (Cm.isNotNone (b := false) fun W h v r => by cases r; exact ⟨rfl, rfl⟩)) ?_ (fun h => by cases h)
  intro _ s3 S3
  refine St.assert S3 (Tv.cm (Ev.callB (Ev.builtin rfl (P.no (by kernel_rfl)) rfl) (.cons (Ev.name rfl) .nil) (Cl.lenB2 hp)) Ev.int Cm.eqInt) ?_
  intro s4 S4
  have hsz : (byteArr (b6run us).out).size ≤ sizeLine := by
    rw [byteArr_size]
    have h1 := b6_len us ⟨[], 0, 0⟩
    simp only [List.length_nil] at h1
    refine le_sl (m := 3000) ?_
    unfold b6run
    omega
  refine St.ret S4 (d := .bytes (encB pair us)) (Ev.meth FB.plainAttrs_bytes slot_trl type_trl (Ev.name rfl) tyBytes
    (.cons (Ev.static (Ev.builtin rfl (P.no (by kernel_rfl)) rfl) (by rfl) (by decide +kernel) cls_mkt rfl (.cons Ev.bytes (.cons (Ev.name rfl) .nil)) (Cl.maketrans (by rw [hp]; rfl))) .nil) (Cl.translate (mkT_size _ _) hsz)) fun v s' S' r => S'.fin hV (fun _ h => h) r
end Mine

end -- OyEnc

section -- OyL1
open PySem PySem.W PySem.Calls PyProof.Rows
set_option Elab.async false
set_option maxRecDepth 100000
namespace Mine

theorem Sta.ownSub {c : Cx} {s0 s : Shared} {own' : List (Addr × List D)} (S : Sta c s0 s) (h : ∀ p ∈ own', p ∈ c.own) : Sta { c with own := own' } s0 s :=
  ⟨⟨S.ok.gl, S.ok.base, S.ok.fr, S.ok.vw, S.ok.glob, S.ok.blt, S.ok.hh, S.ok.wex, S.ok.wnew, S.ok.vars, fun p hp => S.ok.own p (h p hp)⟩, S.same, S.keep⟩
theorem Rds.eraseIdx {W : List Addr} {h : Heap} : ∀ {vs : List Value} {ds : List D}, Rds W h vs ds → ∀ n, Rds W h (vs.eraseIdx n) (ds.eraseIdx n)
  | _, _, .nil, _ => .nil
  | _, _, .cons _ rs, 0 => rs
  | _, _, .cons r rs, n + 1 => .cons r (rs.eraseIdx n)
theorem Rds.ofGet {W : List Addr} {h : Heap} : ∀ {vs : List Value} {ds : List D}, vs.length = ds.length → (∀ (i : Nat) (v : Value), vs[i]? = some v → ∃ d, ds[i]? = some d ∧ Rd W h v d) → Rds W h vs ds
  | [], [], _, _ => .nil
  | [], _ :: _, e, _ => by simp at e
  | _ :: _, [], e, _ => by simp at e
  | v :: vs, d :: ds, e, f => by
    obtain ⟨d', h1, h2⟩ := f 0 v (by simp)
    simp at h1; subst h1
    exact .cons h2 (Rds.ofGet (by simpa using e) fun i u hu => by
      have := f (i + 1) u (by simpa using hu)
      simpa using this)

section
variable {c : Cx} {s0 s : Shared} {rest : List Stmt} {Q : Flow → Shared → Prop} {E : Value → Shared → Prop}

/-- x.extend(e), x's list the frame's own -/
theorem St.extend {x : Str} {xp apos pos spos : Pos} {e : Expr} {a : Addr} {ds ds2 : List D} {post : List (Addr × List D)} (S : Sta c s0 s) (hx : c.ρ.lookup x = some (.obj (.ref a))) (ho : c.own = (a, ds) :: post) (hd : ∀ p ∈ post, p.1 ≠ a) (he : Ev c e (.list ds2))
    (hsz : ds.length + ds2.length ≤ sizeLine) (q : ∀ s', Sta { c with own := (a, ds ++ ds2) :: post } s0 s' → Run { c with own := (a, ds ++ ds2) :: post } rest Q E s')
    (hline : (apos.endLine == pos.line) = true := by rfl) (hstar : starEach [e] c.env = [(false, eval e c.env)] := by rfl)
    (hi : interactive c.env = false := by rfl) (hxd : (x == ("__debug__" : Str)) = false := by decide) (hxc : (x == ("__classdict__" : Str)) = false := by decide) :
    Run c (.Expr (.Call (.Attribute (.Name x xp) "extend" apos) [e] [] pos) spos :: rest) Q E s := by
  refine wpAny_execs_cons (wpAny_Expr ?_ hi)
  refine callMeth PySem.F.plainAttrs_list PySem.F.slot_list_extend PySem.F.type_list_extend ?_ base_name ?_ hline (by rw [hstar]; rfl) rfl
  · refine (Ev.name (c := c) (pos := xp) hx hxd hxc).step S.ok fun v s₁ e₁ k₁ r => ?_
    obtain rfl := r.objI
    have S₁ := S.quiet e₁
    obtain ⟨ws, l, _⟩ := S₁.ownAt (a := a) (ds := ds) (by rw [ho]; exact List.mem_cons_self)
    refine ⟨l.isList.typeIs, fun b hb => ?_, ?_⟩
    · cases hb; obtain ⟨n, hn⟩ := l; exact ⟨_, hn, rfl⟩
    refine (EvL.cons he EvL.nil hstar).step k₁ fun vs s₂ e₂ k₂ rs => ?_
    have S₂ := S₁.quiet e₂
    obtain ⟨us, ⟨n, l₂⟩, r₂⟩ := S₂.ownAt (a := a) (ds := ds) (by rw [ho]; exact List.mem_cons_self)
    obtain ⟨_, rfl, rv⟩ := rs.inv1
    obtain ⟨b, zs, rfl, hb, lb, rb⟩ := rv.listI
    obtain ⟨n2, lb⟩ := lb
    have z1 : us.toArray.size = ds.length := by rw [List.size_toArray, r₂.length]
    have z2 : zs.toArray.size = ds2.length := by rw [List.size_toArray, rb.length]
    refine call_meets PySem.F.slot_list_extend ⟨_, l₂, rfl⟩ PySem.F.entry_list_extend (PySem.F.args_list_extend_2 _ _) (PySem.AutoSeq1.list_extend_list_list_0 a us.toArray n b zs.toArray n2 ?_ ?_ ?_) ⟨l₂, lb, ?_⟩
    · rw [z1, z2]; unfold Builtin.List.listTooLong
      rw [Bool.and_eq_true]
      intro h
      have h2 := of_decide_eq_true h.2
      omega
    · rw [z1]; omega
    · rw [z1, z2]; omega
    · have hs' := Heap.SameBut.update s₂.heap a (Obj.mapSeq (fun x => x ++ zs.toArray))
      have l' : (s₂.heap.update a (Obj.mapSeq (fun x => x ++ zs.toArray))).PlainList a (us ++ zs).toArray := by
        refine ⟨if zs.length = 0 then n else n + 1, ?_⟩
        rw [Heap.get?_update_self _ l₂ (by simp [Obj.mapSeq]; rfl)]
        simp [Obj.mapSeq]
      exact q _ (S₂.setOwn (vs := us ++ zs) ho hd l' hs' (r₂.append rb))
  · rw [hstar]; rfl

/-- fx.append(rx.pop(i)), both lists the frame's own -/
theorem St.appendPop {fx rx : Str} {p1 p2 ap1 ap2 pos1 pos2 spos : Pos} {i : Expr} {fa ra : Addr} {fs rs : List D} {k : Int} {d : D} {post : List (Addr × List D)} (S : Sta c s0 s) (hf : c.ρ.lookup fx = some (.obj (.ref fa))) (hr : c.ρ.lookup rx = some (.obj (.ref ra)))
    (ho : c.own = (fa, fs) :: (ra, rs) :: post) (hne : ra ≠ fa) (hd1 : ∀ p ∈ post, p.1 ≠ fa) (hd2 : ∀ p ∈ post, p.1 ≠ ra) (hi : Ev c i (.int k)) (h0 : 0 ≤ k) (hk : k < 2 ^ 62) (hd : rs[k.toNat]? = some d) (hsz : fs.length ≤ sizeLine) (hsz2 : rs.length ≤ sizeLine)
    (q : ∀ s', Sta { c with own := (fa, fs ++ [d]) :: (ra, rs.eraseIdx k.toNat) :: post } s0 s' → Run { c with own := (fa, fs ++ [d]) :: (ra, rs.eraseIdx k.toNat) :: post } rest Q E s')
    (hl1 : (ap1.endLine == pos1.line) = true := by rfl) (hl2 : (ap2.endLine == pos2.line) = true := by rfl) (hstar : starEach [i] c.env = [(false, eval i c.env)] := by rfl)
    (hin : interactive c.env = false := by rfl) (hxd : (fx == ("__debug__" : Str)) = false := by decide) (hxc : (fx == ("__classdict__" : Str)) = false := by decide) (hyd : (rx == ("__debug__" : Str)) = false := by decide) (hyc : (rx == ("__classdict__" : Str)) = false := by decide) :
    Run c (.Expr (.Call (.Attribute (.Name fx p1) "append" ap1) [.Call (.Attribute (.Name rx p2) "pop" ap2) [i] [] pos2] [] pos1) spos :: rest) Q E s := by
  refine wpAny_execs_cons (wpAny_Expr ?_ hin)
  refine callMeth PySem.F.plainAttrs_list slot_list_append (by rfl) ?_ base_name (by rfl) hl1 (by rfl) rfl
  refine (Ev.name (c := c) (pos := p1) hf hxd hxc).step S.ok fun v s₁ e₁ k₁ r => ?_
  obtain rfl := r.objI
  have S₁ := S.quiet e₁
  obtain ⟨ws, l, _⟩ := S₁.ownAt (a := fa) (ds := fs) (by rw [ho]; exact List.mem_cons_self)
  refine ⟨l.isList.typeIs, fun b hb => ?_, ?_⟩
  · cases hb; obtain ⟨n, hn⟩ := l; exact ⟨_, hn, rfl⟩
  refine spliced_more ?_ (by rfl)
  refine callMeth PySem.F.plainAttrs_list PySem.F.slot_list_pop PySem.F.type_list_pop ?_ base_name (by rw [hstar]; rfl) hl2 (by rw [hstar]; rfl) rfl
  refine (Ev.name (c := c) (pos := p2) hr hyd hyc).step k₁ fun v s₂ e₂ k₂ r => ?_
  obtain rfl := r.objI
  have S₂ := S₁.quiet e₂
  obtain ⟨us, l₂, _⟩ := S₂.ownAt (a := ra) (ds := rs) (by rw [ho]; simp)
  refine ⟨l₂.isList.typeIs, fun b hb => ?_, ?_⟩
  · cases hb; obtain ⟨n, hn⟩ := l₂; exact ⟨_, hn, rfl⟩
  refine (EvL.cons hi EvL.nil hstar).step k₂ fun vs s₃ e₃ k₃ rv => ?_
  have S₃ := S₂.quiet e₃
  obtain ⟨_, rfl, r3⟩ := rv.inv1
  obtain ⟨_, rfl⟩ := r3.intI
  obtain ⟨us, ⟨n, l₃⟩, r₃⟩ := S₃.ownAt (a := ra) (ds := rs) (by rw [ho]; simp)
  obtain ⟨y, hy, ry⟩ := r₃.get hd
  have hlt : k.toNat < us.length := (List.getElem?_eq_some_iff.mp hy).1
  have hsi : seqIndex? k us.toArray.size = some k.toNat := by
    unfold seqIndex?
    rw [List.size_toArray]
    have h1 : ¬ k < 0 := by omega
    rw [if_neg h1]
    have h2 : (decide (0 ≤ k) && decide (k < (us.length : Int))) = true := by simp; omega
    rw [if_pos h2]
  refine call_meets PySem.F.slot_list_pop ⟨_, l₃, rfl⟩ PySem.F.entry_list_pop (PySem.F.args_list_pop_2 _ _) (PySem.MeetsSeq.list_pop_at ra us.toArray n k _ k.toNat y ?_ hsi (by simpa using hy) (by rw [List.size_toArray, r₃.length]; exact hsz2)) ⟨l₃, ?_⟩
  · unfold Builtin.List.listFitsIndex; simp; omega
  have hs' := Heap.SameBut.update s₃.heap ra (Obj.mapSeq fun xs => xs.eraseIdxIfInBounds k.toNat)
  have l' : (s₃.heap.update ra (Obj.mapSeq fun xs => xs.eraseIdxIfInBounds k.toNat)).PlainList ra (us.eraseIdx k.toNat).toArray := by
    refine ⟨n + 1, ?_⟩
    rw [Heap.get?_update_self _ l₃ (by simp [Obj.mapSeq]; rfl)]
    simp [Obj.mapSeq, Array.eraseIdxIfInBounds, hlt]
    rw [List.length_eraseIdx, if_pos hlt]; omega
  have S₄ := (S₃.ownSub (own' := (ra, rs) :: (fa, fs) :: post) (by rw [ho]; intro p hp; simp at hp ⊢; rcases hp with h | h | h <;> simp [h])).setOwn (tk := s₃.toks) (vs := us.eraseIdx k.toNat) rfl (by intro p hp; rcases List.mem_cons.mp hp with rfl | hp; exact Ne.symm hne; exact hd2 p hp) l' hs' (r₃.eraseIdx _)
  have S₅ := S₄.ownSub (own' := (fa, fs) :: (ra, rs.eraseIdx k.toNat) :: post) (by intro p hp; simp at hp ⊢; rcases hp with h | h | h <;> simp [h])
  have raW : ra ∈ c.W := S.ok.vw _ (S.ok.own (ra, rs) (by rw [ho]; simp)).1
  have ry' : Rd c.W (s₃.heap.update ra (Obj.mapSeq fun xs => xs.eraseIdxIfInBounds k.toNat)) y d := ry.mono fun b o hb z => hs'.extBut b o (fun w => hb (w ▸ raW)) z
  refine spliced_none ?_
  obtain ⟨ws, l₅, r₅⟩ := S₅.ownAt (a := fa) (ds := fs) (by exact List.mem_cons_self)
  refine wpAny_list_append_plain l₅ (fun h' hl' hs2 => ?_) (by rw [List.size_toArray, r₅.length]; exact hsz)
  exact q _ (S₅.setOwn (vs := ws ++ [y]) rfl (by intro p hp; rcases List.mem_cons.mp hp with rfl | hp; exact hne; exact hd1 p hp) (by rw [← List.push_toArray]; exact hl') hs2 (r₅.append (.one ry')))
end

theorem Fv.listRange {c : Cx} {x y : Str} {np np2 pos pos2 : Pos} {e : Expr} {b : Int} {n : Nat} (hl : Ev c (.Name x np) (.obj (.type "list"))) (hf : Ev c (.Name y np2) (.obj (.type "range"))) (he : Ev c e (.int b)) (hsm : Builtin.Range.small 0 b 1 = true) (hn : Builtin.Range.rangeSize 0 b 1 = (n : Int)) (hz : n ≤ 2 ^ 24)
    (hs : starEach [e] c.env = [(false, eval e c.env)] := by rfl) : Fv c (.Call (.Name x np) [.Call (.Name y np2) [e] [] pos2] [] pos) (dInts (rng 0 n)) := by
  intro s k E
  refine wpAny_Call_NameR (hl.step k fun v s₁ e₁ k₁ r => ?_)
  obtain rfl := r.objI
  refine PyProof.Rows.callWith_type1 (spliced_more ?_ (by rfl)) (by rfl) rfl
  refine wpAny_Call_NameR (hf.step k₁ fun v s₂ e₂ k₂ r => ?_)
  obtain rfl := r.objI
  refine PyProof.Rows.callWith_type1 ((EvL.cons he .nil hs).step k₂ fun vs s₃ e₃ k₃ rs => ?_) hs rfl
  obtain ⟨_, rfl, r⟩ := rs.inv1
  obtain ⟨_, rfl⟩ := r.intI
  refine call_range_1 (spliced_none ?_)
  refine call_list_range (a := 0) (b := b) (c := 1) k.hh (Heap.get?_push_size _ rfl) hsm hn hz fun h' tk acc' c' hk hget hI => ?_
  have hk3 : Ext s₃.heap h' := fun a o z => hk a o (Heap.get?_push_of_some _ z)
  refine ⟨_, acc'.toList, rfl, e₁.trans (e₂.trans (e₃.trans (.grow _ _ _ hk3))), ?_, ⟨c', by simpa using hget⟩, ?_⟩
  · refine none_of_ext (fun a o z => e₃.ext a o (e₂.ext a o (e₁.ext a o z))) (get_none_of_ge ?_)
    show s₃.heap.objs.size ≤ (s₃.heap.push _).objs.size
    rw [Heap.size_push]; exact Nat.le_succ _
  · refine Rds.ofGet (by rw [rng_length]; simpa using hI.1) fun i v hv => ?_
    have hv' : acc'[i]? = some v := by simpa using hv
    obtain ⟨t, rfl⟩ := hI.2 i v hv'
    have hi : i < n := by
      have := (Array.getElem?_eq_some_iff.mp hv').1
      rw [hI.1] at this; exact this
    refine ⟨_, rng_get hi, ?_⟩
    rw [show (0 : Int) + (i : Int) * 1 = 0 + (i : Int) by omega]
    exact .int _ _
end Mine

end -- OyL1

section -- OyPlain
open PySem PySem.W PyProof.Rows
set_option Elab.async false
set_option maxRecDepth 100000
namespace Mine

/-! the four figures -/
noncomputable def pick (k : Nat) (s : List Int × List Int × Int) : List Int × List Int × Int :=
  (s.1 ++ [s.2.1.getD (s.2.2 % (64 - (k : Int))).toNat 0], s.2.1.eraseIdx (s.2.2 % (64 - (k : Int))).toNat, s.2.2 / (64 - (k : Int)))
noncomputable def picks (l : Int) : Nat → List Int × List Int × Int
  | 0 => ([], rng 0 64, l)
  | k + 1 => pick k (picks l k)
theorem erase_perm : ∀ (l : List Int) (j : Nat), j < l.length → (l.getD j 0 :: l.eraseIdx j).Perm l
  | [], _, h => absurd h (Nat.not_lt_zero _)
  | a :: l, 0, _ => List.Perm.refl _
  | a :: l, j + 1, h => by
    have ih := erase_perm l j (Nat.lt_of_succ_lt_succ h)
    show (l.getD j 0 :: a :: l.eraseIdx j).Perm (a :: l)
    exact (List.Perm.swap _ _ _).trans (ih.cons a)
theorem perm_pick (fs rs : List Int) (j : Nat) (h : j < rs.length) : ((fs ++ [rs.getD j 0]) ++ rs.eraseIdx j).Perm (fs ++ rs) := by
  rw [List.append_assoc]
  exact List.Perm.append_left fs (erase_perm rs j h)
theorem picks_ok (l : Int) (hl : 0 ≤ l) : ∀ k ≤ 4, (picks l k).1.length = k ∧ (picks l k).2.1.length = 64 - k ∧ 0 ≤ (picks l k).2.2 ∧ ((picks l k).1 ++ (picks l k).2.1).Perm (rng 0 64)
  | 0, _ => ⟨rfl, by simp [picks, rng], hl, by simp [picks]⟩
  | k + 1, hk => by
    obtain ⟨h1, h2, h3, h4⟩ := picks_ok l hl k (by omega)
    have hj : ((picks l k).2.2 % (64 - (k : Int))).toNat < (picks l k).2.1.length := by
      have a := Int.emod_nonneg (picks l k).2.2 (show (64 - (k : Int)) ≠ 0 by omega)
      have b := Int.emod_lt_of_pos (picks l k).2.2 (show 0 < (64 - (k : Int)) by omega)
      omega
    refine ⟨by simp [picks, pick, h1], ?_, ?_, ?_⟩
    · simp only [picks, pick]; rw [List.length_eraseIdx, if_pos hj]; omega
    · simp only [picks, pick]; exact Int.ediv_nonneg h3 (by omega)
    · simp only [picks, pick]; exact (perm_pick _ _ _ hj).trans h4

/-! the alphabet -/
noncomputable def tab62 : List UInt8 := [65, 66, 67, 68, 69, 70, 71, 72, 73, 74, 75, 76, 77, 78, 79, 80, 81, 82, 83, 84, 85, 86, 87, 88, 89, 90, 97, 98, 99, 100, 101, 102, 103, 104, 105, 106, 107, 108, 109, 110, 111, 112, 113, 114, 115, 116, 117, 118, 119, 120, 121, 122, 48, 49, 50, 51, 52, 53, 54, 55, 56, 57]
noncomputable def sgnA (pair : Array UInt8) : Array UInt8 := tab62.toArray ++ pair
noncomputable def cd (pair : Array UInt8) (f : Int) : Nat := ((sgnA pair).getD f.toNat 0).toNat
noncomputable def pairs : List (Array UInt8) := [#[43, 47], #[45, 95], #[126, 33]]
theorem pair_size : ∀ p ∈ pairs, p.size = 2 := by decide
theorem cd_le (p : Array UInt8) (f : Int) : cd p f ≤ 255 := by
  unfold cd; have := ((sgnA p).getD f.toNat 0).toNat_lt; omega
theorem sgn_size {p : Array UInt8} (h : p ∈ pairs) : (sgnA p).size = 64 := by
  unfold sgnA; rw [Array.size_append, pair_size p h]; rfl
theorem sgn_at {p : Array UInt8} (h : p ∈ pairs) {f : Int} (h0 : 0 ≤ f) (h1 : f < 64) : (sgnA p)[f.toNat]? = some ((sgnA p).getD f.toNat 0) := by
  have hs := sgn_size h
  have : f.toNat < (sgnA p).size := by omega
  rw [Array.getD_eq_getD_getElem?, Array.getElem?_eq_getElem this]; rfl
noncomputable def codes62 : List Nat := [65, 66, 67, 68, 69, 70, 71, 72, 73, 74, 75, 76, 77, 78, 79, 80, 81, 82, 83, 84, 85, 86, 87, 88, 89, 90, 97, 98, 99, 100, 101, 102, 103, 104, 105, 106, 107, 108, 109, 110, 111, 112, 113, 114, 115, 116, 117, 118, 119, 120, 121, 122, 48, 49, 50, 51, 52, 53, 54, 55, 56, 57]
theorem cd_codes : ∀ p ∈ pairs, ((List.range 64).map fun i : Nat => cd p i) = codes62 ++ p.toList.map (·.toNat) := by decide +kernel
theorem codes_nodup : ∀ l ∈ [[43, 47], [45, 95], [126, 33]], (codes62 ++ l).Nodup := by decide +kernel
theorem cd_nodup : ∀ p ∈ pairs, ((List.range 64).map fun i : Nat => cd p i).Nodup := by
  intro p hp
  rw [cd_codes p hp]
  simp only [pairs, List.mem_cons, List.not_mem_nil, or_false] at hp
  rcases hp with rfl | rfl | rfl
  · exact codes_nodup _ (by simp)
  · exact codes_nodup _ (by simp)
  · exact codes_nodup _ (by simp)
theorem cd_inj {p : Array UInt8} (h : p ∈ pairs) {f g : Int} (f0 : 0 ≤ f) (f1 : f < 64) (g0 : 0 ≤ g) (g1 : g < 64) (e : cd p f = cd p g) : f = g := by
  have nd := cd_nodup p h
  obtain ⟨n, rfl⟩ := Int.eq_ofNat_of_zero_le f0
  obtain ⟨m, rfl⟩ := Int.eq_ofNat_of_zero_le g0
  rw [List.nodup_iff_pairwise_ne, List.pairwise_iff_getElem] at nd
  rcases Nat.lt_trichotomy n m with q | q | q
  · refine absurd ?_ (nd n m (by simp; omega) (by simp; omega) q)
    rw [List.getElem_map, List.getElem_map, List.getElem_range, List.getElem_range]; exact e
  · rw [q]
  · refine absurd ?_ (nd m n (by simp; omega) (by simp; omega) q)
    rw [List.getElem_map, List.getElem_map, List.getElem_range, List.getElem_range]; exact e.symm

/-! what is written -/
noncomputable def oct (o : List Int) : List Int :=
  let n := ((o.getD 0 0 * 64 + o.getD 1 0) * 64 + o.getD 2 0) * 64 + o.getD 3 0
  [n / 65536, n / 256 % 256, n % 256]
noncomputable def Ord (o : List Int) : Prop := ∃ a b c d : Int, o = [a, b, c, d] ∧ (0 ≤ a ∧ a < 64) ∧ (0 ≤ b ∧ b < 64) ∧ (0 ≤ c ∧ c < 64) ∧ (0 ≤ d ∧ d < 64)
theorem oct_range {o : List Int} (h : Ord o) : ∀ n ∈ oct o, 0 ≤ n ∧ n < 256 := by
  obtain ⟨a, b, c, d, rfl, ha, hb, hc, hd⟩ := h
  intro n hn
  simp [oct] at hn
  omega
theorem b6s0 (out : List Int) (lc u : Int) : b6step ⟨out, 0, lc⟩ u = ⟨out ++ [e64 ((lc * 256 + u) % 65536 / 4 % 64)], 2, (lc * 256 + u) % 65536⟩ := by
  simp [b6step, emN, em, List.range_succ]
theorem b6s2 (out : List Int) (lc u : Int) : b6step ⟨out, 2, lc⟩ u = ⟨out ++ [e64 ((lc * 256 + u) % 65536 / 16 % 64)], 4, (lc * 256 + u) % 65536⟩ := by
  simp [b6step, emN, em, List.range_succ]
theorem b6s4 (out : List Int) (lc u : Int) : b6step ⟨out, 4, lc⟩ u = ⟨out ++ [e64 ((lc * 256 + u) % 65536 / 64 % 64), e64 ((lc * 256 + u) % 65536 % 64)], 0, (lc * 256 + u) % 65536⟩ := by
  simp [b6step, emN, em, List.range_succ]
theorem b6_triple {o : List Int} (h : Ord o) (out : List Int) (lc : Int) : ∃ lc', (oct o).foldl b6step ⟨out, 0, lc⟩ = ⟨out ++ o.map e64, 0, lc'⟩ := by
  obtain ⟨a, b, c, d, rfl, ha, hb, hc, hd⟩ := h
  have e : oct [a, b, c, d] = [(((a * 64 + b) * 64 + c) * 64 + d) / 65536, (((a * 64 + b) * 64 + c) * 64 + d) / 256 % 256, (((a * 64 + b) * 64 + c) * 64 + d) % 256] := rfl
  rw [e, List.foldl_cons, List.foldl_cons, List.foldl_cons, List.foldl_nil, b6s0, b6s2, b6s4]
  generalize hn : ((a * 64 + b) * 64 + c) * 64 + d = n
  have u0 : n / 65536 = 4 * a + b / 16 := by clear lc out; omega
  have u1 : n / 256 % 256 = b % 16 * 16 + c / 4 := by clear u0 lc out; omega
  have u2 : n % 256 = c % 4 * 64 + d := by clear u0 u1 lc out ha; omega
  clear hn
  rw [u0, u1, u2]
  generalize h1 : (lc * 256 + (4 * a + b / 16)) % 65536 = l1
  have q1 : l1 / 4 % 64 = a := by clear hc hd; omega
  have m1 : l1 % 256 = 4 * a + b / 16 := by clear q1 hc hd; omega
  clear h1
  generalize h2 : (l1 * 256 + (b % 16 * 16 + c / 4)) % 65536 = l2
  have q2 : l2 / 16 % 64 = b := by clear q1 hd; omega
  have m2 : l2 % 256 = b % 16 * 16 + c / 4 := by clear q1 q2 m1 hd; omega
  clear h2
  generalize h3 : (l2 * 256 + (c % 4 * 64 + d)) % 65536 = l3
  have q3 : l3 / 64 % 64 = c := by clear q1 q2 m1 ha; omega
  have q4 : l3 % 64 = d := by clear q1 q2 q3 m1 m2 ha hb; omega
  rw [q1, q2, q3, q4]
  exact ⟨l3, by simp⟩
theorem b6_all : ∀ (os : List (List Int)), (∀ o ∈ os, Ord o) → ∀ (out : List Int) (lc : Int), ∃ lc', (os.flatMap oct).foldl b6step ⟨out, 0, lc⟩ = ⟨out ++ os.flatMap (fun o => o.map e64), 0, lc'⟩
  | [], _, out, lc => ⟨lc, by simp⟩
  | o :: r, h, out, lc => by
    obtain ⟨l1, e1⟩ := b6_triple (h o List.mem_cons_self) out lc
    obtain ⟨l2, e2⟩ := b6_all r (fun x hx => h x (List.mem_cons_of_mem _ hx)) (out ++ o.map e64) l1
    exact ⟨l2, by rw [List.flatMap_cons, List.foldl_append, e1, e2, List.flatMap_cons, List.append_assoc]⟩
theorem bInts_byteArr {ns : List Int} (h : ∀ n ∈ ns, 0 ≤ n ∧ n < 256) : KBw.bInts (byteArr ns) = ns := by
  unfold KBw.bInts byteArr
  rw [List.map_map]
  conv => rhs; rw [← List.map_id ns]
  apply List.map_congr_left
  intro n hn
  have := h n hn
  simp
  omega

theorem mkT_at (x y u : UInt8) : (mkT #[43, 47] #[x, y]).getD u.toNat u = if u = 47 then y else if u = 43 then x else u := by
  have e : mkT #[43, 47] #[x, y] = ((((Array.range 256).map (·.toUInt8)).setIfInBounds 43 x).setIfInBounds 47 y) := rfl
  have hu := u.toNat_lt
  rw [e, Array.getD_eq_getD_getElem?, Array.getElem?_setIfInBounds, Array.getElem?_setIfInBounds]
  by_cases h1 : u = 47
  · subst h1; simp
  · have n1 : ¬ (47 : Nat) = u.toNat := fun q => h1 (UInt8.toNat_inj.mp q.symm)
    rw [if_neg n1, if_neg h1]
    by_cases h2 : u = 43
    · subst h2; simp
    · have n2 : ¬ (43 : Nat) = u.toNat := fun q => h2 (UInt8.toNat_inj.mp q.symm)
      rw [if_neg n2, if_neg h2]
      simp [hu]
theorem turn_tab : ∀ q ∈ [((43 : UInt8), (47 : UInt8)), (45, 95), (126, 33)], ∀ i ∈ List.range 64, (if b64tab.getD i 0 = 47 then q.2 else if b64tab.getD i 0 = 43 then q.1 else b64tab.getD i 0) = (sgnA #[q.1, q.2]).getD i 0 := by decide +kernel
theorem turn_at : ∀ p ∈ pairs, ∀ i ∈ List.range 64, (mkT #[43, 47] p).getD (e64 (i : Nat)).toNat (e64 (i : Nat)).toNat.toUInt8 = (sgnA p).getD i 0 := by
  intro p hp i hi
  have e1 : (e64 (i : Nat)).toNat = (b64tab.getD i 0).toNat := by unfold e64; rw [Int.toNat_natCast, Int.toNat_natCast]
  have e2 : (b64tab.getD i 0).toNat.toUInt8 = b64tab.getD i 0 := by simp
  rw [e1, e2]
  simp only [pairs, List.mem_cons, List.not_mem_nil, or_false] at hp
  rcases hp with rfl | rfl | rfl
  · rw [mkT_at]; exact turn_tab (43, 47) (by simp) i hi
  · rw [mkT_at]; exact turn_tab (45, 95) (by simp) i hi
  · rw [mkT_at]; exact turn_tab (126, 33) (by simp) i hi
theorem trB_ints (t b : Array UInt8) : KBw.bInts (trB t b) = b.toList.map fun u => ((t.getD u.toNat u).toNat : Int) := by
  unfold KBw.bInts trB; simp [List.map_map]
theorem enc_ints {p : Array UInt8} (hp : p ∈ pairs) {os : List (List Int)} (h : ∀ o ∈ os, Ord o) : KBw.bInts (encB p (os.flatMap oct)) = (os.flatMap fun o => o.map fun f => cd p f).map fun n : Nat => (n : Int) := by
  obtain ⟨lc, e⟩ := b6_all os h [] 0
  unfold encB b6run
  rw [e, trB_ints, byteArr, List.map_flatMap]
  show (((([] : List Int) ++ os.flatMap fun o => o.map e64).map fun n => n.toNat.toUInt8).map _) = _
  rw [List.nil_append, List.map_map, List.map_flatMap]
  unfold List.flatMap
  congr 1
  apply List.map_congr_left
  intro o ho
  obtain ⟨a, b, c, d, rfl, ha, hb, hc, hd⟩ := h o ho
  have one : ∀ f : Int, 0 ≤ f ∧ f < 64 → (((mkT #[43, 47] p).getD (e64 f).toNat.toUInt8.toNat (e64 f).toNat.toUInt8).toNat : Int) = (cd p f : Int) := by
    intro f hf
    have q := turn_at p hp f.toNat (List.mem_range.mpr (by omega))
    have e1 : ((f.toNat : Nat) : Int) = f := by omega
    rw [e1] at q
    have r := e64_range f
    have e2 : (e64 f).toNat.toUInt8.toNat = (e64 f).toNat := by simp; omega
    rw [e2, q]
    rfl
  simp only [List.map_cons, List.map_nil, Function.comp, one a ha, one b hb, one c hc, one d hd]
end Mine

end -- OyPlain

section -- OyPlain2
open PySem PySem.W PyProof.Rows
set_option Elab.async false
set_option maxRecDepth 100000
namespace Mine

/-! the shadows -/
noncomputable def frameOf (bits : Int) : Int := bits % 16 + bits / 16 % 2 * 64 + bits / 32 * 512
noncomputable def shad (net : List Int) (frame ch : Int) : List Int := shadI net (frame + (rightsOf ch).sum)
noncomputable def bb (ch : Int) (k : Nat) : Nat := if bitOf ch k then 1 else 0
noncomputable def zo (n : Nat) : Nat := if n ≤ 45 then 0 else 1
theorem zo_mono : Mono zo := by intro a b h; unfold zo; split <;> split <;> omega
noncomputable def vb (ch : Int) (k : Nat) : Int := if bitOf ch k then 1 else 0
theorem vb_01 (ch : Int) (k : Nat) : 0 ≤ vb ch k ∧ vb ch k ≤ 1 := by unfold vb; cases bitOf ch k <;> decide
theorem rights_sum (ch : Int) : (rightsOf ch).sum = 256 * vb ch 0 + 128 * vb ch 1 + 32 * vb ch 2 + 16 * vb ch 3 := by
  unfold rightsOf vb
  cases bitOf ch 0 <;> cases bitOf ch 1 <;> cases bitOf ch 2 <;> cases bitOf ch 3 <;> rfl
theorem zo_if {q : Int} {n : Nat} (hn : 45 < n) (ch : Int) (k : Nat) (h : q = vb ch k) : zo (if q = 1 then n else 45) = bb ch k := by
  rw [h]; unfold vb bb zo
  cases bitOf ch k
  · simp
  · simp; omega
theorem bit8 {x y z a b c d : Int} (hx : 0 ≤ x ∧ x < 16) (hy : 0 ≤ y ∧ y < 2) (ha : 0 ≤ a ∧ a ≤ 1) (hb : 0 ≤ b ∧ b ≤ 1) (hc : 0 ≤ c ∧ c ≤ 1) (hd : 0 ≤ d ∧ d ≤ 1) : (x + y * 64 + z * 512 + (256 * a + 128 * b + 32 * c + 16 * d)) / 256 % 2 = a := by
  have e : (x + y * 64 + z * 512 + (256 * a + 128 * b + 32 * c + 16 * d)) = 256 * (a + 2 * z) + (x + 64 * y + 128 * b + 32 * c + 16 * d) := by omega
  generalize hr : x + 64 * y + 128 * b + 32 * c + 16 * d = r at e
  have h0 : 0 ≤ r ∧ r < 256 := by omega
  rw [e]; clear e hr hx hy hb hc hd; omega
theorem bit7 {x y z a b c d : Int} (hx : 0 ≤ x ∧ x < 16) (hy : 0 ≤ y ∧ y < 2) (hb : 0 ≤ b ∧ b ≤ 1) (hc : 0 ≤ c ∧ c ≤ 1) (hd : 0 ≤ d ∧ d ≤ 1) : (x + y * 64 + z * 512 + (256 * a + 128 * b + 32 * c + 16 * d)) / 128 % 2 = b := by
  have e : (x + y * 64 + z * 512 + (256 * a + 128 * b + 32 * c + 16 * d)) = 128 * (b + 2 * (a + 2 * z)) + (x + 64 * y + 32 * c + 16 * d) := by omega
  generalize hr : x + 64 * y + 32 * c + 16 * d = r at e
  have h0 : 0 ≤ r ∧ r < 128 := by omega
  rw [e]; clear e hr hx hy hc hd; omega
theorem bit5 {x y z a b c d : Int} (hx : 0 ≤ x ∧ x < 16) (hc : 0 ≤ c ∧ c ≤ 1) (hd : 0 ≤ d ∧ d ≤ 1) : (x + y * 64 + z * 512 + (256 * a + 128 * b + 32 * c + 16 * d)) / 32 % 2 = c := by
  have e : (x + y * 64 + z * 512 + (256 * a + 128 * b + 32 * c + 16 * d)) = 32 * (c + 2 * (y + 2 * (b + 2 * (a + 2 * z)))) + (x + 16 * d) := by omega
  generalize hr : x + 16 * d = r at e
  generalize (y + 2 * (b + 2 * (a + 2 * z))) = t at e
  have h0 : 0 ≤ r ∧ r < 32 := by omega
  rw [e]; clear e hr hx hd; omega
theorem bit4 {x y z a b c d : Int} (hx : 0 ≤ x ∧ x < 16) (hd : 0 ≤ d ∧ d ≤ 1) : (x + y * 64 + z * 512 + (256 * a + 128 * b + 32 * c + 16 * d)) / 16 % 2 = d := by
  have e : (x + y * 64 + z * 512 + (256 * a + 128 * b + 32 * c + 16 * d)) = 16 * (d + 2 * (c + 2 * (y + 2 * (b + 2 * (a + 2 * z))))) + x := by omega
  generalize (c + 2 * (y + 2 * (b + 2 * (a + 2 * z)))) = t at e
  rw [e]; clear e; omega
theorem sg_bits (bits ch : Int) : (zo (sg0 (frameOf bits + (rightsOf ch).sum)) = bb ch 0 ∧ zo (sg1 (frameOf bits + (rightsOf ch).sum)) = bb ch 1 ∧ zo (sg2 (frameOf bits + (rightsOf ch).sum)) = bb ch 2 ∧ zo (sg3 (frameOf bits + (rightsOf ch).sum)) = bb ch 3) := by
  have hx : 0 ≤ bits % 16 ∧ bits % 16 < 16 := ⟨Int.emod_nonneg _ (by decide), Int.emod_lt_of_pos _ (by decide)⟩
  have hy : 0 ≤ bits / 16 % 2 ∧ bits / 16 % 2 < 2 := ⟨Int.emod_nonneg _ (by decide), Int.emod_lt_of_pos _ (by decide)⟩
  rw [rights_sum]
  have v0 := vb_01 ch 0
  have v1 := vb_01 ch 1
  have v2 := vb_01 ch 2
  have v3 := vb_01 ch 3
  exact ⟨zo_if (by decide) ch 0 (bit8 hx hy v0 v1 v2 v3), zo_if (by decide) ch 1 (bit7 hx hy v1 v2 v3), zo_if (by decide) ch 2 (bit5 hx v2 v3), zo_if (by decide) ch 3 (bit4 hx v3)⟩
theorem int_of_zo (l : List Nat) (h : ∀ n ∈ l, n = 45 ∨ n = 114 ∨ n = 119) : l.map (fun n => if n = 45 then (0 : Int) else 1) = (l.map zo).map fun n : Nat => (n : Int) := by
  rw [List.map_map]
  apply List.map_congr_left
  intro n hn
  rcases h n hn with rfl | rfl | rfl <;> rfl
theorem shad_eq {net : List Int} (hn : NetOk net) {bits : Int} (hb : 0 ≤ bits) (ch : Int) : shad net (frameOf bits) ch = (runN [bb ch 0, bb ch 1, bb ch 2, bb ch 3] net).map fun n : Nat => (n : Int) := by
  unfold shad shadI
  obtain ⟨h0, h1, h2, h3⟩ := sg_bits bits ch
  rw [← h0, ← h1, ← h2, ← h3, run_map zo_mono net hn]
  apply int_of_zo
  intro n hm
  have := mem_run net hn _ _ _ _ n hm
  simp only [List.mem_cons, List.not_mem_nil, or_false] at this
  unfold sg0 sg1 sg2 sg3 at this
  rcases this with h | h | h | h <;> (split at h <;> omega)

/-! the casts -/
noncomputable def pw (l : Nat) (x : List Nat) : List Int := (if l ≤ x.getD 0 0 then [1] else []) ++ ((if l ≤ x.getD 1 0 then [2] else []) ++ ((if l ≤ x.getD 2 0 then [4] else []) ++ (if l ≤ x.getD 3 0 then [8] else [])))
noncomputable def mask (l : Nat) (x : List Nat) : Int := (pw l x).sum
noncomputable def ge (l n : Nat) : Nat := if l ≤ n then 1 else 0
theorem ge_mono (l : Nat) : Mono (ge l) := by intro a b h; unfold ge; split <;> split <;> omega
set_option maxHeartbeats 4000000 in
theorem mask_ok : ∀ x ∈ P24, ∀ l ∈ [1, 2, 3], 1 ≤ mask l x ∧ mask l x ≤ 14 ∧ [bb (mask l x) 0, bb (mask l x) 1, bb (mask l x) 2, bb (mask l x) 3] = x.map (ge l) := by decide +kernel
set_option maxHeartbeats 4000000 in
theorem P24_four : ∀ x ∈ P24, x = [x.getD 0 0, x.getD 1 0, x.getD 2 0, x.getD 3 0] ∧ (∀ n ∈ x, n < 4) := by decide +kernel
theorem shad_mask {net : List Int} (hn : NetOk net) {bits : Int} (hb : 0 ≤ bits) {x : List Nat} (hx : x ∈ P24) {l : Nat} (hl : l ∈ [1, 2, 3]) : shad net (frameOf bits) (mask l x) = (runN x net).map fun n : Nat => ((ge l n : Nat) : Int) := by
  obtain ⟨_, _, h⟩ := mask_ok x hx l hl
  rw [shad_eq hn hb, h]
  have h4 := (P24_four x hx).1
  have e : x.map (ge l) = [ge l (x.getD 0 0), ge l (x.getD 1 0), ge l (x.getD 2 0), ge l (x.getD 3 0)] := by rw [h4]; rfl
  rw [e, run_map (ge_mono l) net hn, ← h4, List.map_map]
  rfl
theorem counts_eq {net : List Int} (hn : NetOk net) {bits : Int} (hb : 0 ≤ bits) {x : List Nat} (hx : x ∈ P24) (w : Nat) :
    [(shad net (frameOf bits) (mask 1 x)).getD w 0, (shad net (frameOf bits) (mask 2 x)).getD w 0, (shad net (frameOf bits) (mask 3 x)).getD w 0].sum = ((runN x net).getD w 0 : Nat) := by
  rw [shad_mask hn hb hx (by simp), shad_mask hn hb hx (by simp), shad_mask hn hb hx (by simp)]
  have hy := (P24_four _ (run_P24 hn hx)).2
  generalize runN x net = y at hy ⊢
  simp only [List.getD_eq_getElem?_getD, List.getElem?_map]
  cases h : y[w]? with
  | none => simp
  | some n =>
    have := hy n (List.mem_of_getElem? h)
    have := lt4 this
    rcases this with rfl | rfl | rfl | rfl <;> rfl
theorem shad_len {net : List Int} (hn : NetOk net) (frame ch : Int) : (shad net frame ch).length = 4 := by
  unfold shad shadI; rw [List.length_map, runN_len hn]

/-! the ranks -/
structure Rise (p : Array UInt8) (f0 f1 f2 f3 : Int) (r0 r1 r2 r3 : Nat) : Prop where
  l0 : r0 < r1
  l1 : r1 < r2
  l2 : r2 < r3
  l3 : r3 ≤ 255
  perm : [r0, r1, r2, r3].Perm [cd p f0, cd p f1, cd p f2, cd p f3]
noncomputable def Rk (r0 r1 r2 r3 n : Nat) : Nat := if n = 0 then r0 else if n = 1 then r1 else if n = 2 then r2 else r3
noncomputable def rk (p : Array UInt8) (r0 r1 r2 : Nat) (f : Int) : Nat := if cd p f = r0 then 0 else if cd p f = r1 then 1 else if cd p f = r2 then 2 else 3
theorem rise_ex {p : Array UInt8} {f0 f1 f2 f3 : Int} (hp : p ∈ pairs) (hr : ∀ f ∈ [f0, f1, f2, f3], 0 ≤ f ∧ f < 64) (hd : [f0, f1, f2, f3].Nodup) : ∃ r0 r1 r2 r3, Rise p f0 f1 f2 f3 r0 r1 r2 r3 := by
  have pm := List.mergeSort_perm [cd p f0, cd p f1, cd p f2, cd p f3] (fun a b => decide (a ≤ b))
  have so := List.pairwise_mergeSort (le := fun a b : Nat => decide (a ≤ b)) (by intro a b c; simp; omega) (by intro a b; simp; omega) [cd p f0, cd p f1, cd p f2, cd p f3]
  generalize List.mergeSort [cd p f0, cd p f1, cd p f2, cd p f3] (fun a b => decide (a ≤ b)) = m at pm so
  have hl := pm.length_eq
  match m, hl with
  | [r0, r1, r2, r3], _ =>
    have nd : [cd p f0, cd p f1, cd p f2, cd p f3].Nodup := by
      have : [cd p f0, cd p f1, cd p f2, cd p f3] = [f0, f1, f2, f3].map (cd p) := rfl
      rw [this, List.nodup_iff_pairwise_ne, List.pairwise_map]
      rw [List.nodup_iff_pairwise_ne] at hd
      refine hd.imp_of_mem fun {a b} ha hb hne e => hne ?_
      have h1 := hr a ha
      have h2 := hr b hb
      exact cd_inj hp h1.1 h1.2 h2.1 h2.2 e
    have nd2 := pm.nodup_iff.mpr nd
    simp only [List.nodup_cons, List.mem_cons, List.not_mem_nil, or_false, not_or, List.nodup_nil, not_false_eq_true, and_true] at nd2
    simp only [List.pairwise_cons, List.mem_cons, List.not_mem_nil, or_false, forall_eq_or_imp, forall_eq, decide_eq_true_eq] at so
    have hm : r3 ∈ [cd p f0, cd p f1, cd p f2, cd p f3] := pm.mem_iff.mp (by simp)
    have h255 : r3 ≤ 255 := by
      simp only [List.mem_cons, List.not_mem_nil, or_false] at hm
      rcases hm with h | h | h | h <;> (rw [h]; exact cd_le _ _)
    exact ⟨r0, r1, r2, r3, by omega, by omega, by omega, h255, pm⟩
end Mine

end -- OyPlain2

section -- OyPlain3
open PySem PySem.W PyProof.Rows
set_option Elab.async false
set_option maxRecDepth 100000
namespace Mine

theorem sorted_is {p : Array UInt8} {f0 f1 f2 f3 : Int} {r0 r1 r2 r3 : Nat} (R : Rise p f0 f1 f2 f3 r0 r1 r2 r3) : ∀ ks : List Int, ks.Perm [(cd p f0 : Int), (cd p f1 : Int), (cd p f2 : Int), (cd p f3 : Int)] → ks.Pairwise (· ≤ ·) → ks = [(r0 : Int), (r1 : Int), (r2 : Int), (r3 : Int)] := by
  intro ks hp hs
  have pm : ([r0, r1, r2, r3].map fun n : Nat => (n : Int)).Perm ([cd p f0, cd p f1, cd p f2, cd p f3].map fun n : Nat => (n : Int)) := R.perm.map _
  have l0 := R.l0
  have l1 := R.l1
  have l2 := R.l2
  refine List.Perm.eq_of_pairwise (le := fun a b : Int => a ≤ b) (fun a b _ _ h1 h2 => Int.le_antisymm h1 h2) hs ?_ (hp.trans pm.symm)
  simp
  omega
section
variable {p : Array UInt8} {f0 f1 f2 f3 : Int} {r0 r1 r2 r3 : Nat}
theorem Rise.mem (R : Rise p f0 f1 f2 f3 r0 r1 r2 r3) {f : Int} (h : f ∈ [f0, f1, f2, f3]) : cd p f = r0 ∨ cd p f = r1 ∨ cd p f = r2 ∨ cd p f = r3 := by
  have : cd p f ∈ [cd p f0, cd p f1, cd p f2, cd p f3] := List.mem_map_of_mem (f := cd p) h
  have := R.perm.mem_iff.mpr this
  simpa using this
theorem Rise.rk_lt (f : Int) : rk p r0 r1 r2 f < 4 := by unfold rk; split; · decide
                                                         split; · decide
                                                         split <;> decide
theorem Rise.at (R : Rise p f0 f1 f2 f3 r0 r1 r2 r3) {f : Int} (h : f ∈ [f0, f1, f2, f3]) : Rk r0 r1 r2 r3 (rk p r0 r1 r2 f) = cd p f := by
  have l0 := R.l0
  have l1 := R.l1
  have l2 := R.l2
  rcases R.mem h with e | e | e | e <;> (unfold rk Rk; rw [e]) <;> repeat' first
    | omega
    | split
theorem Rise.idx (R : Rise p f0 f1 f2 f3 r0 r1 r2 r3) {f : Int} (h : f ∈ [f0, f1, f2, f3]) : ([(r0 : Int), (r1 : Int), (r2 : Int), (r3 : Int)]).idxOf (cd p f : Int) = rk p r0 r1 r2 f := by
  have l0 := R.l0
  have l1 := R.l1
  have l2 := R.l2
  rcases R.mem h with e | e | e | e
  · unfold rk; rw [e]; simp
  · have q : rk p r0 r1 r2 f = 1 := by unfold rk; rw [e, if_neg (by omega), if_pos rfl]
    have a : ((r0 : Int) == (r1 : Int)) = false := by simp; omega
    rw [q, e]; simp [List.idxOf_cons, a]
  · have q : rk p r0 r1 r2 f = 2 := by unfold rk; rw [e, if_neg (by omega), if_neg (by omega), if_pos rfl]
    have a : ((r0 : Int) == (r2 : Int)) = false := by simp; omega
    have b : ((r1 : Int) == (r2 : Int)) = false := by simp; omega
    rw [q, e]; simp [List.idxOf_cons, a, b]
  · have q : rk p r0 r1 r2 f = 3 := by unfold rk; rw [e, if_neg (by omega), if_neg (by omega), if_neg (by omega)]
    have a : ((r0 : Int) == (r3 : Int)) = false := by simp; omega
    have b : ((r1 : Int) == (r3 : Int)) = false := by simp; omega
    have c : ((r2 : Int) == (r3 : Int)) = false := by simp; omega
    rw [q, e]; simp [List.idxOf_cons, a, b, c]
theorem Rise.inI (R : Rise p f0 f1 f2 f3 r0 r1 r2 r3) {f : Int} (h : f ∈ [f0, f1, f2, f3]) : (cd p f : Int) ∈ [(r0 : Int), (r1 : Int), (r2 : Int), (r3 : Int)] := by
  rcases R.mem h with e | e | e | e <;> rw [e] <;> simp
theorem Rk_mono (R : Rise p f0 f1 f2 f3 r0 r1 r2 r3) : Mono (Rk r0 r1 r2 r3) := by
  intro a b h
  have l0 := R.l0
  have l1 := R.l1
  have l2 := R.l2
  unfold Rk
  repeat' first
    | omega
    | split
theorem Rk_le (R : Rise p f0 f1 f2 f3 r0 r1 r2 r3) (n : Nat) : Rk r0 r1 r2 r3 n ≤ 255 := by
  have l0 := R.l0
  have l1 := R.l1
  have l2 := R.l2
  have l3 := R.l3
  unfold Rk
  repeat' first
    | omega
    | split
theorem all4 : ∀ a ∈ List.range 4, ∀ b ∈ List.range 4, ∀ c ∈ List.range 4, ∀ d ∈ List.range 4, [a, b, c, d].Nodup → [a, b, c, d] ∈ P24 := by decide +kernel
theorem Rise.P24 (R : Rise p f0 f1 f2 f3 r0 r1 r2 r3) : [rk p r0 r1 r2 f0, rk p r0 r1 r2 f1, rk p r0 r1 r2 f2, rk p r0 r1 r2 f3] ∈ P24 := by
  have l0 := R.l0
  have l1 := R.l1
  have l2 := R.l2
  have nd : [cd p f0, cd p f1, cd p f2, cd p f3].Nodup := R.perm.nodup_iff.mp (by simp; omega)
  have a0 := R.at (f := f0) (by simp)
  have a1 := R.at (f := f1) (by simp)
  have a2 := R.at (f := f2) (by simp)
  have a3 := R.at (f := f3) (by simp)
  rw [← a0, ← a1, ← a2, ← a3] at nd
  refine all4 _ (List.mem_range.mpr (Rise.rk_lt _)) _ (List.mem_range.mpr (Rise.rk_lt _)) _ (List.mem_range.mpr (Rise.rk_lt _)) _ (List.mem_range.mpr (Rise.rk_lt _)) ?_
  have nd : ([rk p r0 r1 r2 f0, rk p r0 r1 r2 f1, rk p r0 r1 r2 f2, rk p r0 r1 r2 f3].map (Rk r0 r1 r2 r3)).Nodup := nd
  rw [List.nodup_iff_pairwise_ne, List.pairwise_map] at nd
  rw [List.nodup_iff_pairwise_ne]
  exact nd.imp fun h e => h (by rw [e])

theorem ins_map (g : Int → Nat) (f : Int) (os : List (List Int)) : (insI f os).map (fun o => o.map g) = insN (g f) (os.map fun o => o.map g) := by
  unfold insI insN
  rw [List.map_flatMap, List.flatMap_map]
  congr 1
  funext o
  rw [List.map_map, List.length_map]
  apply List.map_congr_left
  intro k _
  simp [List.map_take, List.map_drop]
theorem stg_map (g : Int → Nat) (f0 f1 f2 f3 : Int) : (stg [f0, f1, f2, f3] 4).map (fun o => o.map g) = perms (g f0) (g f1) (g f2) (g f3) := by
  show (insI f3 (insI f2 (insI f1 (insI f0 [[]])))).map _ = _
  rw [ins_map, ins_map, ins_map, ins_map]; rfl
theorem ins_mem {f : Int} {os : List (List Int)} {A : List Int} {n : Nat} (hf : f ∈ A) (h : ∀ o ∈ os, o.length = n ∧ ∀ x ∈ o, x ∈ A) : ∀ o ∈ insI f os, o.length = n + 1 ∧ ∀ x ∈ o, x ∈ A := by
  intro o ho
  unfold insI at ho
  obtain ⟨q, hq, ho⟩ := List.mem_flatMap.mp ho
  obtain ⟨k, hk, rfl⟩ := List.mem_map.mp ho
  obtain ⟨h1, h2⟩ := h q hq
  have hk := List.mem_range.mp hk
  refine ⟨by simp; omega, fun x hx => ?_⟩
  simp only [List.mem_append, List.mem_singleton] at hx
  rcases hx with (hx | hx) | hx
  · exact h2 x (List.mem_of_mem_take hx)
  · rw [hx]; exact hf
  · exact h2 x (List.mem_of_mem_drop hx)
theorem stg_mem (f0 f1 f2 f3 : Int) : ∀ o ∈ stg [f0, f1, f2, f3] 4, o.length = 4 ∧ ∀ x ∈ o, x ∈ [f0, f1, f2, f3] := by
  show ∀ o ∈ insI f3 (insI f2 (insI f1 (insI f0 [[]]))), _
  exact ins_mem (by simp) (ins_mem (by simp) (ins_mem (by simp) (ins_mem (n := 0) (by simp) (by simp))))
theorem stg_len (f0 f1 f2 f3 : Int) : (stg [f0, f1, f2, f3] 4).length = 24 := rfl
theorem stg_four {f0 f1 f2 f3 : Int} {o : List Int} (h : o ∈ stg [f0, f1, f2, f3] 4) : ∃ a b c d, o = [a, b, c, d] ∧ a ∈ [f0, f1, f2, f3] ∧ b ∈ [f0, f1, f2, f3] ∧ c ∈ [f0, f1, f2, f3] ∧ d ∈ [f0, f1, f2, f3] := by
  obtain ⟨h1, h2⟩ := stg_mem f0 f1 f2 f3 o h
  match o, h1 with
  | [a, b, c, d], _ => exact ⟨a, b, c, d, rfl, h2 a (by simp), h2 b (by simp), h2 c (by simp), h2 d (by simp)⟩
theorem stg_ord {f0 f1 f2 f3 : Int} (hr : ∀ f ∈ [f0, f1, f2, f3], 0 ≤ f ∧ f < 64) : ∀ o ∈ stg [f0, f1, f2, f3] 4, Ord o := by
  intro o h
  obtain ⟨a, b, c, d, rfl, ha, hb, hc, hd⟩ := stg_four h
  exact ⟨a, b, c, d, rfl, hr a ha, hr b hb, hr c hc, hr d hd⟩

/-- the run of one order -/
theorem Rise.run (R : Rise p f0 f1 f2 f3 r0 r1 r2 r3) {net : List Int} (hn : NetOk net) {o : List Int} (h : o ∈ stg [f0, f1, f2, f3] 4) : ∃ a b c d, o = [a, b, c, d] ∧ (a ∈ [f0, f1, f2, f3] ∧ b ∈ [f0, f1, f2, f3] ∧ c ∈ [f0, f1, f2, f3] ∧ d ∈ [f0, f1, f2, f3]) ∧
    [rk p r0 r1 r2 a, rk p r0 r1 r2 b, rk p r0 r1 r2 c, rk p r0 r1 r2 d] ∈ Mine.P24 ∧ runN [cd p a, cd p b, cd p c, cd p d] net = (runN [rk p r0 r1 r2 a, rk p r0 r1 r2 b, rk p r0 r1 r2 c, rk p r0 r1 r2 d] net).map (Rk r0 r1 r2 r3) := by
  obtain ⟨a, b, c, d, rfl, ha, hb, hc, hd⟩ := stg_four h
  refine ⟨a, b, c, d, rfl, ⟨ha, hb, hc, hd⟩, ?_, ?_⟩
  · have h1 : [rk p r0 r1 r2 a, rk p r0 r1 r2 b, rk p r0 r1 r2 c, rk p r0 r1 r2 d] ∈ (stg [f0, f1, f2, f3] 4).map (fun o => o.map (rk p r0 r1 r2)) := List.mem_map.mpr ⟨_, h, rfl⟩
    rw [stg_map] at h1
    exact (perms_P24 _ R.P24 _ _ _ _ rfl).2 _ h1
  · rw [← R.at ha, ← R.at hb, ← R.at hc, ← R.at hd, run_map (Rk_mono R) net hn]
theorem Rk_rise (R : Rise p f0 f1 f2 f3 r0 r1 r2 r3) {y : List Nat} (hy : y ∈ Mine.P24) : y.map (Rk r0 r1 r2 r3) = [r0, r1, r2, r3] ↔ y = [0, 1, 2, 3] := by
  have l0 := R.l0
  have l1 := R.l1
  have l2 := R.l2
  obtain ⟨h1, h2⟩ := P24_four y hy
  constructor
  · intro h
    rw [h1] at h h2 ⊢
    generalize y.getD 0 0 = a at *
    generalize y.getD 1 0 = b at *
    generalize y.getD 2 0 = c at *
    generalize y.getD 3 0 = d at *
    have ha := h2 a (by simp)
    have hb := h2 b (by simp)
    have hc := h2 c (by simp)
    have hd := h2 d (by simp)
    simp only [List.map_cons, List.map_nil, List.cons.injEq, and_true] at h ⊢
    obtain ⟨e0, e1, e2, e3⟩ := h
    have key : ∀ n < 4, (Rk r0 r1 r2 r3 n = r0 → n = 0) ∧ (Rk r0 r1 r2 r3 n = r1 → n = 1) ∧ (Rk r0 r1 r2 r3 n = r2 → n = 2) ∧ (Rk r0 r1 r2 r3 n = r3 → n = 3) := by
      intro n hn
      have := lt4 hn
      rcases this with rfl | rfl | rfl | rfl <;> simp [Rk] <;> omega
    exact ⟨(key a ha).1 e0, (key b hb).2.1 e1, (key c hc).2.2.1 e2, (key d hd).2.2.2 e3⟩
  · rintro rfl; rfl
theorem chrs_inj {a b : List Nat} (h : chrs a = chrs b) : a = b := by
  unfold chrs at h
  refine List.map_inj_right (f := fun n : Nat => (⟨#[n]⟩ : Str)) (fun x y e => ?_) |>.mp h
  simpa using e
theorem wrun_eq {net : List Int} (hn : NetOk net) : wrun net = (runN [3, 2, 1, 0] net).map fun n : Nat => (n : Int) := by
  have gen : ∀ (net : List Int), NetOk net → ∀ a b c d : Nat, net.foldl wstep [(a : Int), (b : Int), (c : Int), (d : Int)] = (runN [a, b, c, d] net).map fun n : Nat => (n : Int) := by
    intro net
    induction net with
    | nil => intro _ a b c d; rfl
    | cons w r ih =>
      intro h a b c d
      have hw := h w List.mem_cons_self
      have hr : NetOk r := fun v hv => h v (List.mem_cons_of_mem _ hv)
      have mn : ∀ x y : Nat, ((min x y : Nat) : Int) = min (x : Int) (y : Int) := by intro x y; omega
      have mx : ∀ x y : Nat, ((max x y : Nat) : Int) = max (x : Int) (y : Int) := by intro x y; omega
      have e1 : runN [a, b, c, d] (w :: r) = runN (stepN [a, b, c, d] w) r := rfl
      rw [List.foldl_cons, e1, step_form hw]
      rcases NetOk.cases hw with rfl | rfl | rfl
      · have := ih hr (min a b) (max a b) c d
        simp only [wstep, if_true, mn, mx] at this ⊢
        exact this
      · have := ih hr a (min b c) (max b c) d
        simpa [wstep, mn, mx] using this
      · have := ih hr a b (min c d) (max c d)
        simpa [wstep, mn, mx] using this
  exact gen net hn 3 2 1 0
theorem wrun_iff {net : List Int} (hn : NetOk net) : wrun net = [0, 1, 2, 3] ↔ runN [3, 2, 1, 0] net = [0, 1, 2, 3] := by
  rw [wrun_eq hn]
  constructor
  · intro h
    have : (runN [3, 2, 1, 0] net).map (fun n : Nat => (n : Int)) = [0, 1, 2, 3].map fun n : Nat => (n : Int) := h
    exact (List.map_inj_right (fun x y e => by omega)).mp this
  · intro h; rw [h]; rfl

/-- the order k's text as it comes out -/
noncomputable def outOf (p : Array UInt8) (net : List Int) (o : List Int) : List Nat := runN (o.map (cd p)) net
theorem falls_iff (R : Rise p f0 f1 f2 f3 r0 r1 r2 r3) {net : List Int} (hn : NetOk net) : (∀ o ∈ stg [f0, f1, f2, f3] 4, outOf p net o = [r0, r1, r2, r3]) ↔ wrun net = [0, 1, 2, 3] := by
  rw [wrun_iff hn]
  constructor
  · intro h
    have h1 := (perms_P24 _ R.P24 _ _ _ _ rfl).1
    rw [← stg_map] at h1
    obtain ⟨o, ho, e⟩ := List.mem_map.mp h1
    obtain ⟨a, b, c, d, rfl, _, hp, hr⟩ := R.run hn ho
    have q := h _ ho
    unfold outOf at q
    simp only [List.map_cons, List.map_nil] at q e
    rw [hr, Rk_rise R (run_P24 hn hp), e] at q
    exact q
  · intro h o ho
    obtain ⟨a, b, c, d, rfl, _, hp, hr⟩ := R.run hn ho
    unfold outOf
    simp only [List.map_cons, List.map_nil]
    rw [hr, bruijn hn h _ hp]; rfl
end
end Mine

end -- OyPlain3

section -- OyTurn0
open PySem PySem.W PySem.Calls PyProof.Rows
set_option Elab.async false
set_option maxRecDepth 100000
namespace Mine

noncomputable def stmtsOf (fd : FuncData) : List Stmt := match fd.body with | .stmts b => b | _ => []
noncomputable def lawE (p : Params) : (fd : FuncData) ×' ((oy_hd.heap_39 p).lookup 132 = some { cls := .type "function", data := .func fd }) := ⟨_, rfl⟩
noncomputable def loopE (p : Params) : (t : Expr) ×' (it : Expr) ×' (b : List Stmt) ×' (o : List Stmt) ×' (pos : Pos) ×' ((stmtsOf (lawE p).1)[19]? = some (.For t it b o pos)) := ⟨_, _, _, _, _, rfl⟩
noncomputable def lawFd (p : Params) : FuncData := (lawE p).1
noncomputable def loopB (p : Params) : List Stmt := (loopE p).2.2.1
/-- the law's frame -/
noncomputable def Cx.lw (c : Cx) (L : Addr) (W V : List Addr) (own : List (Addr × List D)) (ρ : List (Str × D)) : Cx :=
  { prog := c.prog, w := c.w, K := c.K, mg := c.mg, mb := c.mb, H := c.H, A := c.A.deeper (callEnvC (lawFd c.w.params) L 132), env := callEnvC (lawFd c.w.params) L 132, W := W, V := V, own := own, ρ := ρ }

theorem Ev.sliceStrE {c : Cx} {value : Expr} {lower upper : Option Expr} {pos p : Pos} {x y : Str} {lo hi : Option Int} (hv : Ev c value (.str x)) (hl : Pt c lower lo) (hu : Pt c upper hi) (he : Txt.slice x lo hi = y) (hsz : x.length ≤ sizeLine)
    (hs : ∀ o i, ∃ ops, subscripted (.Slice lower upper Option.none p) false o i = operate ops (getItem o i) := by exact fun _ _ => ⟨_, rfl⟩) : Ev c (.Subscript value (.Slice lower upper Option.none p) pos) (.str y) := he ▸ Ev.sliceStr hv hl hu hsz hs

theorem slice_at (L : List Nat) (a b : Nat) (hab : a ≤ b) (hb : b ≤ L.length) (hne : b - a ≠ L.length) : Txt.slice ⟨L.toArray⟩ (some (a : Int)) (some (b : Int)) = ⟨((L.drop a).take (b - a)).toArray⟩ := by
  have hl : (⟨L.toArray⟩ : Str).length = L.length := by show L.toArray.size = _; simp
  unfold Txt.slice
  have h1 := StrLaws.strSliceIndices_plain (a := a) (b := b) (len := (⟨L.toArray⟩ : Str).length) hab (by rw [hl]; exact hb)
  have h2 := StrLaws.sliced_plain ⟨L.toArray⟩ (a := a) (b := b) hab (by rw [hl]; exact hb)
  rw [if_neg ?_]
  · rw [h2]
  · rw [h1, hl]; simp; exact hne
theorem drop_flat (f : List Int → List Nat) : ∀ (os : List (List Int)) (k : Nat) (o : List Int), (∀ o ∈ os, (f o).length = 4) → os[k]? = some o → ((os.flatMap f).drop (4 * k)).take 4 = f o
  | [], k, o, _, e => by simp at e
  | x :: r, 0, o, h, e => by
    simp at e; subst e
    have := h x List.mem_cons_self
    rw [List.flatMap_cons]
    simp [List.take_append_of_le_length, this]
  | x :: r, k + 1, o, h, e => by
    have hx := h x List.mem_cons_self
    rw [List.flatMap_cons, List.drop_append, List.drop_of_length_le (by omega), List.nil_append, hx, show 4 * (k + 1) - 4 = 4 * k by omega]
    exact drop_flat f r k o (fun o ho => h o (List.mem_cons_of_mem _ ho)) (by simpa using e)
theorem flat_len (f : List Int → List Nat) : ∀ (os : List (List Int)), (∀ o ∈ os, (f o).length = 4) → (os.flatMap f).length = 4 * os.length
  | [], _ => rfl
  | x :: r, h => by
    rw [List.flatMap_cons, List.length_append, h x List.mem_cons_self, flat_len f r fun o ho => h o (List.mem_cons_of_mem _ ho), List.length_cons]; omega
theorem slice_text (f : List Int → List Nat) (os : List (List Int)) (h : ∀ o ∈ os, (f o).length = 4) (hl : os.length = 24) (k : Nat) (hk : k < 24) (o : List Int) (ho : os[k]? = some o) : Txt.slice ⟨(os.flatMap f).toArray⟩ (some (4 * (k : Int))) (some (4 * (k : Int) + 4)) = ⟨(f o).toArray⟩ := by
  have e := flat_len f os h
  have q := slice_at (os.flatMap f) (4 * k) (4 * k + 4) (by omega) (by omega) (by omega)
  have e1 : ((4 * k : Nat) : Int) = 4 * (k : Int) := by omega
  have e2 : ((4 * k + 4 : Nat) : Int) = 4 * (k : Int) + 4 := by omega
  rw [e1, e2, show 4 * k + 4 - 4 * k = 4 by omega, drop_flat f os k o h ho] at q
  exact q
theorem strOk_chr {n : Nat} (h : n ≤ 255) : PyData.strOk ⟨#[n]⟩ = true := by
  unfold PyData.strOk; simp; omega
theorem chrs_ok {l : List Nat} (h : ∀ n ∈ l, n ≤ 255) : ∀ x ∈ chrs l, PyData.strOk x = true := by
  intro x hx
  obtain ⟨n, hn, rfl⟩ := List.mem_map.mp hx
  exact strOk_chr (h n hn)
theorem lay4 {r0 r1 r2 r3 : Nat} (h0 : r0 ≤ 255) (h1 : r1 ≤ 255) (h2 : r2 ≤ 255) (h3 : r3 ≤ 255) : PyData.layable0 (.list ([(r0 : Int), (r1 : Int), (r2 : Int), (r3 : Int)].map .int)) = true := by
  have w : ∀ n : Nat, n ≤ 255 → PyData.weight (.int (n : Int)) ≤ 9 := by
    intro n hn
    simp only [PyData.weight]
    split
    · decide
    · have : ((n : Int).natAbs).log2 < 8 := (Nat.log2_lt (by simp_all)).mpr (by simp; omega)
      omega
  have a0 := w r0 h0
  have a1 := w r1 h1
  have a2 := w r2 h2
  have a3 := w r3 h3
  simp only [PyData.layable0, List.map_cons, List.map_nil, PyData.canLay0, PyData.canLayAll0, PyData.depth, PyData.depthAll, PyData.weightAll, Bool.and_true, Bool.true_and, Bool.and_eq_true, decide_eq_true_eq]
  refine ⟨by decide, ?_⟩
  show PyData.weight (.list [.int (r0 : Int), .int (r1 : Int), .int (r2 : Int), .int (r3 : Int)]) ≤ _
  have e : PyData.weight (.list [.int (r0 : Int), .int (r1 : Int), .int (r2 : Int), .int (r3 : Int)]) = PyData.weight (.int (r0 : Int)) + 1 + (PyData.weight (.int (r1 : Int)) + 1 + (PyData.weight (.int (r2 : Int)) + 1 + (PyData.weight (.int (r3 : Int)) + 1 + 0))) := by
    rw [PyData.weight, PyData.weightAll, PyData.weightAll, PyData.weightAll, PyData.weightAll, PyData.weightAll]
  rw [e]
  omega

noncomputable def rho0 (a : Addr) (p : Array UInt8) (r0 r1 r2 r3 : Nat) (os : List (List Int)) (shs : List D) (net : List Int) (wr : Array UInt8) : List (Str × D) :=
  [(Str.ofString "falls", .obj (.ref a)), (Str.ofString "rising", .list (dInts [(r0 : Int), (r1 : Int), (r2 : Int), (r3 : Int)])), (Str.ofString "signs", .bytes (sgnA p)), (Str.ofString "text", .str ⟨(os.flatMap fun o => o.map (cd p)).toArray⟩),
    (Str.ofString "written", .bytes wr), (Str.ofString "orders", .list (os.map dL)), (Str.ofString "shadows", .list shs), (Str.ofString "net", .list (dInts net))]
noncomputable def fallsTo (p : Array UInt8) (net : List Int) (r0 r1 r2 r3 : Nat) (os : List (List Int)) (i : Nat) : List Int :=
  ((List.range i).filter fun k => decide (¬ outOf p net (os.getD k []) = [r0, r1, r2, r3])).map fun k : Nat => (k : Int)

end Mine

end -- OyTurn0

section -- OyTurn
open PySem PySem.W PySem.Calls PyProof.Rows
set_option Elab.async false
set_option maxRecDepth 100000
namespace Mine

theorem filter_one (q : Nat → Bool) (i : Nat) : List.filter q [i] = if q i = true then [i] else [] := by
  rw [List.filter_cons]; cases q i <;> rfl
theorem falls_succ (p : Array UInt8) (net : List Int) (r0 r1 r2 r3 : Nat) (os : List (List Int)) (i : Nat) : fallsTo p net r0 r1 r2 r3 os (i + 1) = fallsTo p net r0 r1 r2 r3 os i ++ (if outOf p net (os.getD i []) = [r0, r1, r2, r3] then [] else [(i : Int)]) := by
  unfold fallsTo
  rw [List.range_succ, List.filter_append, List.map_append, filter_one]
  by_cases h : outOf p net (os.getD i []) = [r0, r1, r2, r3]
  · rw [if_pos h, if_neg (by rw [decide_eq_true_eq]; exact fun q => q h), List.map_nil]
  · rw [if_neg h, if_pos (decide_eq_true h), List.map_cons, List.map_nil]
theorem falls_len (p : Array UInt8) (net : List Int) (r0 r1 r2 r3 : Nat) (os : List (List Int)) (i : Nat) : (fallsTo p net r0 r1 r2 r3 os i).length ≤ i := by
  unfold fallsTo
  rw [List.length_map]
  exact Nat.le_trans (List.length_filter_le _ _) (by simp)

noncomputable def pwO (l : Nat) (xs : List Nat) (w : Nat) : Option D := if l ≤ xs.getD w 0 then some (.int (2 ^ ((w : Nat) : Int).toNat)) else none
theorem pw_eq (l : Nat) (xs : List Nat) : ([0, 1, 2, 3].map (pwO l xs)).filterMap id = dInts (pw l xs) := by
  unfold pwO pw
  by_cases h0 : l ≤ xs.getD 0 0 <;> by_cases h1 : l ≤ xs.getD 1 0 <;> by_cases h2 : l ≤ xs.getD 2 0 <;> by_cases h3 : l ≤ xs.getD 3 0 <;> simp only [List.map_cons, List.map_nil, h0, h1, h2, h3, if_true, if_false] <;> rfl
theorem pwO_some (l : Nat) (xs : List Nat) (w : Nat) : (pwO l xs w).isSome = decide ((l : Int) ≤ (xs.getD w 0 : Nat)) := by
  unfold pwO
  by_cases h : l ≤ xs.getD w 0
  · rw [if_pos h]; simp; simpa using h
  · rw [if_neg h]; simp; simpa using h
theorem pwO_val {l : Nat} {xs : List Nat} {w : Nat} {r : D} (h : pwO l xs w = some r) : r = .int (2 ^ ((w : Nat) : Int).toNat) := by
  unfold pwO at h
  split at h
  · cases h; rfl
  · cases h
theorem in4 {w : Nat} (h : w ∈ [0, 1, 2, 3]) : w < 4 := by simp at h; omega
theorem pow_ok {w : Nat} (h : w < 4) : (0 : Int) ≤ (w : Int) ∧ (Builtin.Int.intBits 2 : Int) * (w : Int) ≤ 2 ^ 27 := by
  have := lt4 h
  rcases this with rfl | rfl | rfl | rfl <;> exact ⟨by decide, by decide⟩
theorem at_nat {xs : List Nat} {w : Nat} (h : w < xs.length) : (dInts (xs.map fun n : Nat => (n : Int)))[((w : Nat) : Int).toNat]? = some (.int ((xs.getD w 0 : Nat) : Int)) := by
  rw [Int.toNat_natCast, List.getElem?_map, List.getElem?_map, List.getD_eq_getElem?_getD, List.getElem?_eq_getElem h]; rfl
theorem at_int {xs : List Int} {w : Nat} (h : w < xs.length) : (dInts xs)[((w : Nat) : Int).toNat]? = some (.int (xs.getD w 0)) := by
  rw [Int.toNat_natCast, List.getElem?_map, List.getD_eq_getElem?_getD, List.getElem?_eq_getElem h]; rfl
theorem P24_len {x : List Nat} (h : x ∈ P24) : x.length = 4 := by rw [(P24_four x h).1]; rfl
theorem at_rise (r0 r1 r2 r3 : Nat) {n : Nat} (h : n < 4) : (dInts [(r0 : Int), (r1 : Int), (r2 : Int), (r3 : Int)])[((n : Nat) : Int).toNat]? = some (.int ((Rk r0 r1 r2 r3 n : Nat) : Int)) := by
  have := lt4 h
  rcases this with rfl | rfl | rfl | rfl <;> rfl
theorem dStrs_chrs (l : List Nat) : (l.map fun n => some (D.str ⟨#[n]⟩)).filterMap id = dStrs (chrs l) := by
  simp [chrs, dStrs, List.filterMap_map]

set_option maxHeartbeats 8000000 in
theorem turn_spec {c : Cx} (P : Pr c) (hroom : c.A.depth + 3 < recursionLimit) (hunits : c.A.units + 100 < cLine) {p : Array UInt8} (hp : p ∈ pairs) {f0 f1 f2 f3 : Int} {r0 r1 r2 r3 : Nat} (hr : ∀ f ∈ [f0, f1, f2, f3], 0 ≤ f ∧ f < 64) (R : Rise p f0 f1 f2 f3 r0 r1 r2 r3) {net : List Int} (hnet : NetOk net)
    {bits : Int} (hbits : 0 ≤ bits) {shs : List D} (hshs : ∀ m : Int, 1 ≤ m → m ≤ 14 → shs[m.toNat]? = some (.list (dInts (shad net (frameOf bits) m)))) {wr : Array UInt8} {L a : Addr} {W V : List Addr} {s1 s2 : Shared} {i : Nat} (hi : i < 24)
    (T : Sta (Cx.lw c L W V [(a, dInts (fallsTo p net r0 r1 r2 r3 (stg [f0, f1, f2, f3] 4) i))] ((Str.ofString "k", .int (i : Nat)) :: rho0 a p r0 r1 r2 r3 (stg [f0, f1, f2, f3] 4) shs net wr)) s1 s2) (E : Value → Shared → Prop) :
    Run (Cx.lw c L W V [(a, dInts (fallsTo p net r0 r1 r2 r3 (stg [f0, f1, f2, f3] 4) i))] ((Str.ofString "k", .int (i : Nat)) :: rho0 a p r0 r1 r2 r3 (stg [f0, f1, f2, f3] 4) shs net wr)) (loopB c.w.params)
      (fun f s4 => f = .next ∧ Sta (Cx.lw c L W V [(a, dInts (fallsTo p net r0 r1 r2 r3 (stg [f0, f1, f2, f3] 4) (i + 1)))] (rho0 a p r0 r1 r2 r3 (stg [f0, f1, f2, f3] 4) shs net wr)) s1 s4) E s2 := by
  obtain ⟨o, ho⟩ : ∃ o, (stg [f0, f1, f2, f3] 4)[i]? = some o := ⟨_, List.getElem?_eq_getElem (by rw [stg_len]; exact hi)⟩
  obtain ⟨x, y, z, w, ex, ⟨mx, my, mz, mw⟩, hP, hrun⟩ := R.run hnet (List.mem_of_getElem? ho)
  have hos4 : ∀ q ∈ stg [f0, f1, f2, f3] 4, (q.map (cd p)).length = 4 := fun q hq => by rw [List.length_map]; exact (stg_mem _ _ _ _ q hq).1
  have hsl := slice_text (fun q => q.map (cd p)) _ hos4 (stg_len _ _ _ _) i hi o ho
  have htl := flat_len (fun q => q.map (cd p)) _ hos4
  rw [stg_len] at htl
  have hout : outOf p net ((stg [f0, f1, f2, f3] 4).getD i []) = runN [cd p x, cd p y, cd p z, cd p w] net := by
    rw [List.getD_eq_getElem?_getD, ho, ex]; rfl
  have hfl := falls_succ p net r0 r1 r2 r3 (stg [f0, f1, f2, f3] 4) i
  rw [hout] at hfl
  have hfn := falls_len p net r0 r1 r2 r3 (stg [f0, f1, f2, f3] 4) i
  rw [hfl]
  subst ex
  unfold rho0 at T ⊢
  generalize hos : stg [f0, f1, f2, f3] 4 = os at *
  generalize fallsTo p net r0 r1 r2 r3 os i = fl at *
  have hk0 : (0 : Int) ≤ (i : Int) := by omega
  have hoD : (os.map dL)[((i : Nat) : Int).toNat]? = some (dL [x, y, z, w]) := by rw [Int.toNat_natCast, List.getElem?_map, ho]; rfl
  have hlay : PyData.layable0 (.list ([(r0 : Int), (r1 : Int), (r2 : Int), (r3 : Int)].map .int)) = true := lay4 (by have := R.l0; have := R.l1; have := R.l2; have := R.l3; omega) (by have := R.l1; have := R.l2; have := R.l3; omega) (by have := R.l2; have := R.l3; omega) R.l3
  have P' : ∀ W V own ρ, Pr (Cx.lw c L W V own ρ) := fun W V own ρ => P.of
  refine St.assign (d := .list (dStrs (chrs (runN [cd p x, cd p y, cd p z, cd p w] net)))) T ?_ (.inl rfl) ?_
  · rw [← run_signs hnet]
    refine Ev.callFn (Ev.glob rfl (P.ye (by kernel_rfl)) fun _ _ => .obj _) (P.at rfl) rfl (.cons (Ev.sliceStrE (Ev.name rfl) (.some (Ev.mul Ev.int (Ev.name rfl) ?_)) (.some (Ev.add (Ev.mul Ev.int (Ev.name rfl) ?_) Ev.int)) hsl ?_) (.cons (Ev.name rfl) .nil)) (law_run_spec P.of (by show c.A.depth + 1 + 1 < _; omega) .text net hnet)
    · exact IntMulOk.of_left (by decide)
    · exact IntMulOk.of_left (by decide)
    · exact le_sl (m := 100) (by show (List.flatMap (fun q => q.map (cd p)) os).toArray.size ≤ _; simp only [List.size_toArray]; omega)
  intro s3 S3
  -- ranks
  refine St.assign S3 (Ev.comp (ρc := [(Str.ofString "rising", .list (dInts [(r0 : Int), (r1 : Int), (r2 : Int), (r3 : Int)])), (Str.ofString "signs", .bytes (sgnA p))]) (its := [x, y, z, w].map fun f => .int f) (res := [x, y, z, w].map fun f => some (.int (rk p r0 r1 r2 f : Nat)))
    ⟨rfl, rfl, by decide, fun C => .inl rfl, fun C => .inl rfl, ⟨⟨rfl, .inl rfl, fun C => .inl rfl, fun C => rfl⟩, ⟨rfl, .inl rfl, fun C => .inl rfl, fun C => rfl⟩, trivial⟩, rfl⟩
    (Src.list (Ev.sbs (Ev.name rfl) (Ev.name rfl) (It.list hk0 hoD (by omega) plain_name))) (All2.map fun f hf C W' => ⟨Ts.nil, fun r hr' => ?_⟩) (Nat.le_of_ble_eq_true rfl)) (.inr ⟨rfl, rfl⟩) ?_
  · cases hr'
    have hm : f ∈ [f0, f1, f2, f3] := by
      simp only [List.mem_cons, List.not_mem_nil, or_false] at hf
      rcases hf with rfl | rfl | rfl | rfl <;> assumption
    have hfr := hr f hm
    rw [← R.idx hm]
    exact Ev.meth F.plainAttrs_list F.slot_list_index F.type_list_index (Ev.name rfl) tyList (.cons (Ev.sbs (Ev.name rfl) (Ev.name rfl) (It.bytes hfr.1 (sgn_at hp hfr.1 hfr.2) (by rw [sgn_size hp]; decide) plain_name)) .nil) (Cl.index hlay (R.inI hm))
  rw [show ([x, y, z, w].map fun f => some (D.int (rk p r0 r1 r2 f : Nat))).filterMap id = dInts ([rk p r0 r1 r2 x, rk p r0 r1 r2 y, rk p r0 r1 r2 z, rk p r0 r1 r2 w].map fun n : Nat => (n : Int)) from rfl]
  generalize hxs : [rk p r0 r1 r2 x, rk p r0 r1 r2 y, rk p r0 r1 r2 z, rk p r0 r1 r2 w] = xs at hP hrun ⊢
  intro s4 S4
  have hx4 := P24_len hP
  -- cast
  refine St.assign S4 (Ev.comp (ρc := [(Str.ofString "ranks", .list (dInts (xs.map fun n : Nat => (n : Int))))]) (its := [1, 2, 3].map fun l : Nat => .int (l : Int)) (res := [1, 2, 3].map fun l : Nat => some (.int (mask l xs)))
    ⟨rfl, rfl, by decide, fun C => .inr ⟨rfl, rfl⟩, fun C => .inr rfl, ⟨⟨rfl, .inl rfl, fun C => by first | exact .inl rfl | exact .inr rfl, fun C => rfl⟩, trivial⟩, rfl⟩
    (Src.tuple (Ev.tuple (.cons Ev.int (.cons Ev.int (.cons Ev.int .nil))))) (All2.map fun l hl C W' => ⟨Ts.nil, fun r hr' => ?_⟩) (Nat.le_of_ble_eq_true rfl)) (.inr ⟨rfl, rfl⟩) ?_
  · cases hr'
    refine Ev.callB (ds := [.list (dInts (pw l xs))]) (Ev.builtin rfl (P.no (by kernel_rfl)) rfl) (.cons ?_ .nil) Cl.sum
    rw [← pw_eq]
    refine Ev.comp (ρc := [(Str.ofString "least", .int (l : Int)), (Str.ofString "ranks", .list (dInts (xs.map fun n : Nat => (n : Int))))]) (its := [0, 1, 2, 3].map fun w : Nat => .int (w : Int)) (res := [0, 1, 2, 3].map (pwO l xs))
      ⟨rfl, rfl, by decide, fun C => .inl rfl, fun C => .inl rfl, ⟨⟨rfl, .inl rfl, fun C => by first | exact .inl rfl | exact .inr rfl, fun C => rfl⟩, ⟨rfl, by first | exact .inl rfl | exact .inr rfl, fun C => by first | exact .inl rfl | exact .inr rfl, fun C => rfl⟩, trivial⟩, rfl⟩
      (Src.range1 (n := 4) (Ev.builtin rfl (P.no (by kernel_rfl)) rfl) Ev.int (by decide) (by decide)) (All2.map fun w hw C2 W2 => ⟨?_, fun r hr' => ?_⟩) (Nat.le_of_ble_eq_true rfl)
    · rw [pwO_some]
      exact Ts.one (Tv.cm (Ev.sbs (Ev.name rfl) (Ev.name rfl) (It.list (by omega) (at_nat (by rw [hx4]; exact in4 hw)) (by have := in4 hw; omega) plain_name)) (Ev.name rfl) Cm.geInt)
    · rw [pwO_val hr']
      exact Ev.bn Ev.int (Ev.name rfl) (Bn.pow (pow_ok (in4 hw)).1 (pow_ok (in4 hw)).2)
  rw [show ([1, 2, 3].map fun l : Nat => some (D.int (mask l xs))).filterMap id = dInts [mask 1 xs, mask 2 xs, mask 3 xs] from rfl]
  intro s5 S5
  have hyP := run_P24 hnet hP
  have hy4 := P24_four _ hyP
  have hcnt : ∀ w, [(shad net (frameOf bits) (mask 1 xs)).getD w 0, (shad net (frameOf bits) (mask 2 xs)).getD w 0, (shad net (frameOf bits) (mask 3 xs)).getD w 0].sum = ((runN xs net).getD w 0 : Nat) := counts_eq hnet hbits hP
  have hmk : ∀ l ∈ [1, 2, 3], 1 ≤ mask l xs ∧ mask l xs ≤ 14 := fun l hl => ⟨(mask_ok xs hP l hl).1, (mask_ok xs hP l hl).2.1⟩
  generalize hys : runN xs net = ys at hyP hy4 hcnt hrun
  -- counts
  refine St.assignComp (ρc := [(Str.ofString "cast", .list (dInts [mask 1 xs, mask 2 xs, mask 3 xs])), (Str.ofString "shadows", .list shs)]) (its := [0, 1, 2, 3].map fun w : Nat => .int (w : Int)) (res := [0, 1, 2, 3].map fun w : Nat => some (.int ((ys.getD w 0 : Nat) : Int))) S5
    ⟨rfl, rfl, by decide, fun C => .inr ⟨rfl, rfl⟩, fun C => .inr rfl, ⟨⟨rfl, .inl rfl, fun C => by first | exact .inl rfl | exact .inr rfl, fun C => rfl⟩, ⟨rfl, .inl rfl, fun C => by first | exact .inl rfl | exact .inr rfl, fun C => rfl⟩, trivial⟩, rfl⟩
    (Src.range1 (n := 4) (Ev.builtin rfl (P.no (by kernel_rfl)) rfl) Ev.int (by decide) (by decide)) (All2.map fun w hw C W' => ⟨Ts.nil, fun r hr' => ?_⟩) (Nat.le_of_ble_eq_true rfl) (.inl rfl) ?_
  · cases hr'
    rw [← hcnt w]
    refine Ev.callB (ds := [.list (dInts [(shad net (frameOf bits) (mask 1 xs)).getD w 0, (shad net (frameOf bits) (mask 2 xs)).getD w 0, (shad net (frameOf bits) (mask 3 xs)).getD w 0])]) (Ev.builtin rfl (P.no (by kernel_rfl)) rfl) (.cons ?_ .nil) Cl.sum
    refine Ev.comp (ρc := [(Str.ofString "shadows", .list shs), (Str.ofString "wire", .int (w : Int))]) (its := [1, 2, 3].map fun l : Nat => .int (mask l xs)) (res := [1, 2, 3].map fun l : Nat => some (.int ((shad net (frameOf bits) (mask l xs)).getD w 0)))
      ⟨rfl, rfl, by decide, fun C => .inl rfl, fun C => .inl rfl, ⟨⟨rfl, by first | exact .inl rfl | exact .inr rfl, fun C => by first | exact .inl rfl | exact .inr rfl, fun C => rfl⟩, ⟨rfl, by first | exact .inl rfl | exact .inr rfl, fun C => by first | exact .inl rfl | exact .inr rfl, fun C => rfl⟩, trivial⟩, rfl⟩
      (Src.list (Ev.name rfl)) (All2.map fun l hl C2 W2 => ⟨Ts.nil, fun r hr' => ?_⟩) (Nat.le_of_ble_eq_true rfl)
    cases hr'
    obtain ⟨m1, m2⟩ := hmk l hl
    exact Ev.sbs (Ev.sbs (Ev.name rfl) (Ev.name rfl) (It.list (by omega) (hshs _ m1 m2) (by omega) plain_name)) (Ev.name rfl) (It.list (by omega) (at_int (by rw [shad_len hnet]; exact in4 hw)) (by have := in4 hw; omega) plain_name)
  rw [show ([0, 1, 2, 3].map fun w : Nat => some (D.int ((ys.getD w 0 : Nat) : Int))).filterMap id = dInts (ys.map fun n : Nat => (n : Int)) by
    conv => rhs; rw [hy4.1]
    rfl]
  intro s6 S6
  rw [hrun] at S6 ⊢
  have hal : ∀ n ∈ ys.map (Rk r0 r1 r2 r3), n ≤ 255 := by
    intro n hn
    obtain ⟨m, _, rfl⟩ := List.mem_map.mp hn
    exact Rk_le R m
  have hril : ∀ n ∈ [r0, r1, r2, r3], n ≤ 255 := by
    have := R.l0; have := R.l1; have := R.l2; have := R.l3
    intro n hn
    simp only [List.mem_cons, List.not_mem_nil, or_false] at hn
    omega
  have hu : (c.A.deeper (callEnvC (lawFd c.w.params) L 132)).units + 64 < cLine := by
    show c.A.units + 3 + 64 < cLine; omega
  -- the first test
  refine St.if (v := !decide (chrs (ys.map (Rk r0 r1 r2 r3)) = chrs (ys.map (Rk r0 r1 r2 r3)))) S6 (Tv.cm (Ev.name rfl) ?_ (Cm.neStrs (chrs_ok hal) (chrs_ok hal) hu)) (fun h => by simp at h) ?_
  · rw [← dStrs_chrs]
    refine Ev.comp (ρc := [(Str.ofString "rising", .list (dInts [(r0 : Int), (r1 : Int), (r2 : Int), (r3 : Int)]))]) (its := ys.map fun n : Nat => .int (n : Int)) (res := (ys.map (Rk r0 r1 r2 r3)).map fun n => some (.str ⟨#[n]⟩))
      ⟨rfl, rfl, by decide, fun C => .inl rfl, fun C => .inl rfl, ⟨⟨rfl, .inl rfl, fun C => by first | exact .inl rfl | exact .inr rfl, fun C => rfl⟩, trivial⟩, rfl⟩
      (Src.list (Ev.name ?_)) (by rw [List.map_map]; exact All2.map fun n hn C W' => ⟨Ts.nil, fun r hr' => by
        cases hr'
        exact Ev.callB (Ev.builtin rfl (P.no (by kernel_rfl)) rfl) (.cons (Ev.sbs (Ev.name rfl) (Ev.name rfl) (It.list (by omega) (at_rise r0 r1 r2 r3 (hy4.2 n hn)) (by have := hy4.2 n hn; omega) plain_name)) .nil) (Cl.chr (Rk_le R n))⟩) (le_sl (m := 4) (by rw [List.length_map, P24_len hyP]; decide))
    rw [show (ys.map fun n : Nat => D.int (n : Int)) = dInts (ys.map fun n : Nat => (n : Int)) by simp [dInts]]
    rfl
  intro _ s7 S7
  refine St.nil ?_
  -- the second test
  refine St.if (v := !decide (chrs (ys.map (Rk r0 r1 r2 r3)) = chrs [r0, r1, r2, r3])) S7 (Tv.cm (Ev.name rfl) ?_ (Cm.neStrs (chrs_ok hal) (chrs_ok hril) hu)) ?_ ?_
  · rw [← dStrs_chrs]
    refine Ev.comp (ρc := []) (its := [r0, r1, r2, r3].map fun n : Nat => .int (n : Int)) (res := [r0, r1, r2, r3].map fun n => some (.str ⟨#[n]⟩))
      ⟨rfl, rfl, by decide, fun C => .inl rfl, fun C => .inl rfl, trivial, rfl⟩
      (Src.list (Ev.name rfl)) (All2.map fun n hn C W' => ⟨Ts.nil, fun r hr' => by
        cases hr'
        exact Ev.callB (Ev.builtin rfl (P.no (by kernel_rfl)) rfl) (.cons (Ev.name rfl) .nil) (Cl.chr (hril n hn))⟩) (Nat.le_of_ble_eq_true rfl)
  · intro hv s8 S8
    have hne : ¬ ys.map (Rk r0 r1 r2 r3) = [r0, r1, r2, r3] := fun h => by rw [h] at hv; simp at hv
    rw [if_neg hne, show dInts (fl ++ [(i : Int)]) = dInts fl ++ [.int (i : Int)] by simp [dInts]]
    refine St.append S8 rfl rfl (fun _ h => nomatch h) (Ev.name rfl) (le_sl (m := 100) (by rw [List.length_map]; omega)) ?_
    intro s9 S9
    exact St.nil (St.nil ⟨rfl, S9.weak (.cons rfl (.cons rfl (.cons rfl (.cons rfl (.cons rfl (.cons rfl (.cons rfl (.cons rfl .nil))))))))⟩)
  · intro hv s8 S8
    have heq : ys.map (Rk r0 r1 r2 r3) = [r0, r1, r2, r3] := chrs_inj (by simpa using hv)
    rw [if_pos heq, List.append_nil]
    exact St.nil (St.nil ⟨rfl, S8.weak (.cons rfl (.cons rfl (.cons rfl (.cons rfl (.cons rfl (.cons rfl (.cons rfl (.cons rfl .nil))))))))⟩)
end Mine

end -- OyTurn

section -- OyBody0
open PySem PySem.W PySem.Calls PyProof.Rows
set_option Elab.async false
set_option maxRecDepth 100000
namespace Mine

noncomputable def pickI (ns : List Int) (lo hi st : Option Int) : List Int :=
  (sliceRange (sliceBounds lo hi st ns.length).1 (sliceBounds lo hi st ns.length).2.1 (sliceBounds lo hi st ns.length).2.2).filterMap (ns[·]?)
theorem pickD_int (ns : List Int) (lo hi st : Option Int) : pickD (dInts ns) lo hi st = dInts (pickI ns lo hi st) := by
  unfold pickD pickI
  rw [List.length_map]
  generalize sliceRange _ _ _ = js
  induction js with
  | nil => rfl
  | cons j r ih =>
    simp only [List.filterMap_cons, List.getElem?_map]
    cases ns[j]? with
    | none => simpa using ih
    | some n => simpa using ih
noncomputable def tb8 : List Int := [0, 1, 2, 0, 1, 0, 2, 1]
noncomputable def netV (row : List Int) (k : Nat) : Int := ((pickI row (some (k : Int)) none (some 8)).sum + tb8.getD k 0) % 3
noncomputable def netOf (row : List Int) : List Int := [0, 1, 2, 3, 4, 5, 6, 7].map (netV row)
theorem net_ok (row : List Int) : NetOk (netOf row) := by
  intro w hw
  obtain ⟨k, _, rfl⟩ := List.mem_map.mp hw
  have h1 := Int.emod_nonneg ((pickI row (some (k : Int)) none (some 8)).sum + tb8.getD k 0) (show (3 : Int) ≠ 0 by decide)
  have h2 := Int.emod_lt_of_pos ((pickI row (some (k : Int)) none (some 8)).sum + tb8.getD k 0) (show (0 : Int) < 3 by decide)
  unfold netV
  omega
theorem Run.ofk {c c' : Cx} {b : List Stmt} {Q : Flow → Shared → Prop} {E : Value → Shared → Prop} {s : Shared} (h : Run c' b Q E s) (hp : c'.prog = c.prog := by kernel_rfl) (hw : c'.w = c.w := by kernel_rfl) (hA : c'.A = c.A := by kernel_rfl) (he : c'.env = c.env := by kernel_rfl) : Run c b Q E s := Run.of h hp hw hA he
noncomputable def totOf (row : List Int) : Int := (row.sum + 93696458814) % 5996160221184
theorem tot_ok (row : List Int) : 0 ≤ totOf row ∧ totOf row < 5996160221184 := by unfold totOf; omega
/-- no object at a new address stood at the start -/
theorem new_at {c : Cx} {s0 s : Shared} {a : Addr} (S : Sta c s0 s) (ha : s.heap.get? a = none) : s0.heap.get? a = none ∧ a ∉ c.W ∧ a ∉ c.V := by
  have haW : a ∉ c.W := fun hm => by obtain ⟨o, ho⟩ := S.ok.wex a hm; rw [ha] at ho; cases ho
  have haV : a ∉ c.V := fun hm => haW (S.ok.vw a hm)
  refine ⟨?_, haW, haV⟩
  cases z : s0.heap.get? a with
  | none => rfl
  | some o => have := S.keep a o haV z; rw [ha] at this; cases this
theorem dInts_take (ns : List Int) (n : Nat) : (dInts ns).take n = dInts (ns.take n) := by simp [List.map_take]
theorem falls_nil (p : Array UInt8) (net : List Int) (r0 r1 r2 r3 : Nat) (os : List (List Int)) (h : os.length = 24) : fallsTo p net r0 r1 r2 r3 os 24 = [] ↔ ∀ o ∈ os, outOf p net o = [r0, r1, r2, r3] := by
  unfold fallsTo
  rw [List.map_eq_nil_iff, List.filter_eq_nil_iff]
  constructor
  · intro q o ho
    obtain ⟨k, hk, e⟩ := List.getElem_of_mem ho
    have hk' : k < 24 := by omega
    have := q k (List.mem_range.mpr hk')
    rw [decide_eq_true_eq, Classical.not_not, List.getD_eq_getElem?_getD, List.getElem?_eq_getElem hk, e] at this
    exact this
  · intro q k hk
    rw [decide_eq_true_eq, Classical.not_not]
    have hk := List.mem_range.mp hk
    rw [List.getD_eq_getElem?_getD, List.getElem?_eq_getElem (by omega)]
    exact q _ (List.getElem_mem _)
theorem dPair_in (t : Int) : ∃ p ∈ pairs, ([D.bytes #[43, 47], .bytes #[45, 95], .bytes #[126, 33]] : List D)[(t % 3).toNat]? = some (.bytes p) := by
  have : t % 3 = 0 ∨ t % 3 = 1 ∨ t % 3 = 2 := by omega
  rcases this with h | h | h
  · exact ⟨#[43, 47], by simp [pairs], by rw [h]; rfl⟩
  · exact ⟨#[45, 95], by simp [pairs], by rw [h]; rfl⟩
  · exact ⟨#[126, 33], by simp [pairs], by rw [h]; rfl⟩
/-- shadows as the law holds them -/
noncomputable def shD (net : List Int) (frame : Int) : List D := .list [] :: ((rng 1 14).map fun ch => .list (dInts (shad net frame ch)))
theorem shD_at (net : List Int) (frame m : Int) (h1 : 1 ≤ m) (h2 : m ≤ 14) : (shD net frame)[m.toNat]? = some (.list (dInts (shad net frame m))) := by
  obtain ⟨n, hn⟩ : ∃ n : Nat, m = 1 + (n : Int) := ⟨(m - 1).toNat, by omega⟩
  have hn2 : n < 14 := by omega
  have e : m.toNat = n + 1 := by omega
  rw [e, hn]
  unfold shD rng
  simp [hn2]
theorem octs_take {os : List (List Int)} {i : Nat} {o : List Int} (h : os[i]? = some o) : (os.take (i + 1)).flatMap oct = (os.take i).flatMap oct ++ oct o := by
  rw [List.take_add_one, h, List.flatMap_append]; simp
theorem octs_len (os : List (List Int)) : (os.flatMap oct).length = 3 * os.length := by
  induction os with
  | nil => rfl
  | cons o r ih => rw [List.flatMap_cons, List.length_append, ih, List.length_cons]; simp [oct]; omega

section
variable {c : Cx} {L : Addr} {W V W' : List Addr} {own own' : List (Addr × List D)} {ρ ρ' : List (Str × D)} {x : Str} {d : D} {a : Addr} {ds : List D}
theorem lw_set : (Cx.lw c L W V own ρ).set x d = Cx.lw c L W V own ((x, d) :: ρ) := rfl
theorem lw_own1 : (Cx.lw c L W V own ρ).own1 [] a ds = Cx.lw c L (a :: W) (a :: V) ((a, ds) :: own) ρ := rfl
theorem lw_at : (Cx.lw c L W V own ρ).at W' own' ρ' = Cx.lw c L W' V own' ρ' := rfl
theorem lw_W : (Cx.lw c L W V own ρ).W = W := rfl
theorem lw_rho : ({ Cx.lw c L W V own ρ with ρ := ρ' } : Cx) = Cx.lw c L W V own ρ' := rfl
theorem lw_own : ({ Cx.lw c L W V own ρ with own := own' } : Cx) = Cx.lw c L W V own' ρ := rfl
end
end Mine

end -- OyBody0

section -- OyBody2
open PySem PySem.W PySem.Calls PyProof.Rows
set_option Elab.async false
set_option maxRecDepth 100000
namespace Mine

theorem Ev.eqTo {c : Cx} {e : Expr} {d d' : D} (h : Ev c e d) (q : d = d') : Ev c e d' := q ▸ h

set_option maxHeartbeats 8000000 in
theorem body2 {c : Cx} (P : Pr c) (hroom : c.A.depth + 5 < recursionLimit) (hunits : c.A.units + 200 < cLine) {L : Addr} {W0 W V : List Addr} {f0 f1 f2 f3 : Int} {net : List Int} {tot : Int} {s s8 : Shared} (hrng : ∀ f ∈ [f0, f1, f2, f3], 0 ≤ f ∧ f < 64) (hnd : [f0, f1, f2, f3].Nodup) (hnet : NetOk net) (ht0 : 0 ≤ tot) (ht1 : tot < 5996160221184)
    (hV : ∀ a ∈ V, s.heap.get? a = none) (hW : ∀ a ∈ W0, a ∈ W) (S : Sta (Cx.lw c L W V [] [(Str.ofString "figures", .list (dInts [f0, f1, f2, f3])), (Str.ofString "total", .int tot), (Str.ofString "net", .list (dInts net))]) s s8) (E : Value → Shared → Prop) :
    Run (Cx.lw c L W V [] [(Str.ofString "figures", .list (dInts [f0, f1, f2, f3])), (Str.ofString "total", .int tot), (Str.ofString "net", .list (dInts net))]) ((stmtsOf (lawFd c.w.params)).drop 7) (fun fl s' => ∃ v, fl = .ret v ∧ Kp s s' ∧ Rd W0 s'.heap v (.bool true)) E s8 := by
  -- pair
  obtain ⟨p, hp, hpat⟩ := dPair_in (tot / 15249024)
  refine St.assign (d := .bytes p) S (Ev.sbs (Ev.list (.cons Ev.bytes (.cons Ev.bytes (.cons Ev.bytes .nil)))) (Ev.mod (Ev.div (Ev.name rfl) Ev.int (by decide) (by decide)) Ev.int (by decide)) (It.list (Int.emod_nonneg _ (by decide)) hpat (by omega) plain_bin)) (.inl rfl) ?_
  intro s9 S9
  rw [lw_set] at S9 ⊢
  -- bits
  refine St.assign S9 (Ev.div (Ev.name rfl) Ev.int (by decide) (by decide)) (.inl rfl) ?_
  intro s10 S10
  rw [lw_set] at S10 ⊢
  have hbits : 0 ≤ tot / 45747072 := Int.ediv_nonneg ht0 (by decide)
  generalize tot / 45747072 = bits at S10 hbits ⊢
  -- frame
  refine St.assign (d := .int (frameOf bits)) S10 (Ev.add (Ev.add (Ev.mod (Ev.name rfl) Ev.int (by decide)) (Ev.mul (Ev.mod (Ev.div (Ev.name rfl) Ev.int (by decide) (by decide)) Ev.int (by decide)) Ev.int (IntMulOk.of_right (by decide)))) (Ev.mul (Ev.div (Ev.name rfl) Ev.int (by decide) (by decide)) Ev.int (IntMulOk.of_right (by decide)))) (.inr ⟨rfl, rfl⟩) ?_
  intro s11 S11
  rw [lw_set] at S11 ⊢
  -- shadows
  have hsh : [D.list []] ++ (((List.range 14).map fun i : Nat => some (D.list (dInts (shad net (frameOf bits) (1 + (i : Int)))))).filterMap id) = shD net (frameOf bits) := by
    unfold shD rng
    simp [List.filterMap_map]
  refine St.assign (d := .list (shD net (frameOf bits))) S11 (by
    rw [← hsh]
    refine Ev.bn (Ev.list (.cons (Ev.list .nil) .nil)) (Ev.comp (ρc := [(Str.ofString "frame", .int (frameOf bits)), (Str.ofString "net", .list (dInts net))]) (its := (List.range 14).map fun i : Nat => .int (1 + (i : Int))) ⟨rfl, rfl, by decide, fun C => .inl rfl, fun C => .inl rfl, ⟨⟨rfl, .inl rfl, fun C => by first | exact .inl rfl | exact .inr rfl, fun C => rfl⟩, ⟨rfl, .inl rfl, fun C => by first | exact .inl rfl | exact .inr rfl, fun C => rfl⟩, trivial⟩, rfl⟩
      (Src.range2 (n := 14) (Ev.builtin rfl (P.no (by kernel_rfl)) rfl) Ev.int Ev.int (by decide) (by decide)) (All2.map fun i hi C W' => ⟨Ts.nil, fun r hr' => ?_⟩) (Nat.le_of_ble_eq_true rfl)) (Bn.addList (Nat.le_of_ble_eq_true rfl))
    cases hr'
    exact Ev.callFn (Ev.glob rfl (P.ye (by kernel_rfl)) fun _ _ => .obj _) (P.at rfl) rfl (.cons (Ev.name rfl) (.cons (Ev.name rfl) (.cons (Ev.name rfl) .nil))) (shadow_spec P.of (by show c.A.depth + 1 + 2 < _; omega) _ _ net hnet)) (.inr ⟨rfl, rfl⟩) ?_
  intro s12 S12
  rw [lw_set] at S12 ⊢
  have hshs := shD_at net (frameOf bits)
  generalize shD net (frameOf bits) = shs at S12 hshs ⊢
  -- orders
  refine St.assign S12 (Ev.callFn (Ev.glob rfl (P.ye (by kernel_rfl)) fun _ _ => .obj _) (P.at rfl) rfl (.cons (Ev.name rfl) .nil) (orders_spec P.of (by show c.A.depth + 1 < _; omega) f0 f1 f2 f3)) (.inl rfl) ?_
  intro s13 S13
  rw [lw_set] at S13 ⊢
  -- octets
  have hord := stg_ord hrng
  have hol := stg_len f0 f1 f2 f3
  generalize hos : stg [f0, f1, f2, f3] 4 = os at S13 hord hol ⊢
  have hocts : ∀ n ∈ os.flatMap oct, 0 ≤ n ∧ n < 256 := by
    intro n hn
    obtain ⟨o, ho, hm⟩ := List.mem_flatMap.mp hn
    exact oct_range (hord o ho) n hm
  have holen := octs_len os
  refine St.assignOwn S13 Fv.nil (.inl rfl) ?_
  intro oa s14 hoa S14
  rw [lw_own1, lw_set] at S14 ⊢
  obtain ⟨ho0, hoW, hoV⟩ := new_at S13 hoa
  have S14 := S14.weak (ρ' := [(Str.ofString "octets", .obj (.ref oa)), (Str.ofString "orders", .list (os.map dL)), (Str.ofString "shadows", .list shs), (Str.ofString "pair", .bytes p), (Str.ofString "figures", .list (dInts [f0, f1, f2, f3])), (Str.ofString "net", .list (dInts net))]) (.cons rfl (.cons rfl (.cons rfl (.cons rfl (.cons rfl (.cons rfl .nil))))))
  rw [lw_rho] at S14
  refine St.for (fun i => [(oa, dInts ((os.take i).flatMap oct))]) (fun _ => [(Str.ofString "octets", .obj (.ref oa)), (Str.ofString "orders", .list (os.map dL)), (Str.ofString "shadows", .list shs), (Str.ofString "pair", .bytes p), (Str.ofString "figures", .list (dInts [f0, f1, f2, f3])), (Str.ofString "net", .list (dInts net))])
    S14 (Src.list (Ev.name rfl)) (.inl rfl) ?_ ?_
  · intro i d W1 s15 s16 hd T E2
    obtain ⟨o, ho, rfl⟩ : ∃ o, os[i]? = some o ∧ d = dL o := by
      rw [List.getElem?_map] at hd
      cases hq : os[i]? with
      | none => rw [hq] at hd; cases hd
      | some o => rw [hq] at hd; cases hd; exact ⟨o, rfl, rfl⟩
    have hi : i < os.length := (List.getElem?_eq_some_iff.mp ho).1
    obtain ⟨a, b, x, y, rfl, ha, hb, hx, hy⟩ := hord o (List.mem_of_getElem? ho)
    rw [lw_at, lw_set] at T ⊢
    have hlen : ((os.take i).flatMap oct).length ≤ 72 := by
      rw [octs_len, List.length_take]; omega
    rw [octs_take ho]
    generalize (os.take i).flatMap oct = acc at T hlen ⊢
    refine St.assign (d := .int (((a * 64 + b) * 64 + x) * 64 + y)) T (Ev.add (Ev.mul (Ev.add (Ev.mul (Ev.add (Ev.mul (Ev.sbs (a := .list (dInts [a, b, x, y])) (Ev.name rfl) Ev.int (It.list (by decide) rfl (by decide) plain_const)) Ev.int (IntMulOk.of_right (by decide))) (Ev.sbs (a := .list (dInts [a, b, x, y])) (Ev.name rfl) Ev.int (It.list (by decide) rfl (by decide) plain_const))) Ev.int (IntMulOk.of_right (by decide)))
      (Ev.sbs (a := .list (dInts [a, b, x, y])) (Ev.name rfl) Ev.int (It.list (by decide) rfl (by decide) plain_const))) Ev.int (IntMulOk.of_right (by decide))) (Ev.sbs (a := .list (dInts [a, b, x, y])) (Ev.name rfl) Ev.int (It.list (by decide) rfl (by decide) plain_const))) (.inl rfl) ?_
    intro s17 S17
    rw [lw_set] at S17 ⊢
    have e1 : oct [a, b, x, y] = [(((a * 64 + b) * 64 + x) * 64 + y) / 65536, (((a * 64 + b) * 64 + x) * 64 + y) / 256 % 256, (((a * 64 + b) * 64 + x) * 64 + y) % 256] := rfl
    rw [e1]
    generalize ((a * 64 + b) * 64 + x) * 64 + y = n at S17 ⊢
    refine St.extend (ds2 := [.int (n / 65536), .int (n / 256 % 256), .int (n % 256)]) S17 rfl rfl (fun _ h => nomatch h) (Ev.list (.cons (Ev.div (Ev.name rfl) Ev.int (by decide) (by decide)) (.cons (Ev.mod (Ev.div (Ev.name rfl) Ev.int (by decide) (by decide)) Ev.int (by decide)) (.cons (Ev.mod (Ev.name rfl) Ev.int (by decide)) .nil)))) (le_sl (m := 100) (by rw [List.length_map]; simp; omega)) ?_
    intro s18 S18
    have e2 : dInts (acc ++ [n / 65536, n / 256 % 256, n % 256]) = dInts acc ++ [.int (n / 65536), .int (n / 256 % 256), .int (n % 256)] := by simp [dInts]
    rw [e2]
    exact St.nil ⟨rfl, S18.weak (.cons rfl (.cons rfl (.cons rfl (.cons rfl (.cons rfl (.cons rfl .nil))))))⟩
  intro s15 S15
  rw [lw_at] at S15 ⊢
  rw [show (os.take (os.map dL).length).flatMap oct = os.flatMap oct by rw [List.length_map, List.take_length]] at S15 ⊢
  have S16 := Sta.freeze (c := Cx.lw c L W V [] []) (V := V) (W := W) (x := Str.ofString "octets") S15 rfl hoV hoW ho0 (fun _ h => nomatch h) (S13.ok.fr.shrink S15.ok.fr) S13.ok.vw
  have S16 : Sta (Cx.lw c L W V [] [(Str.ofString "octets", .list (dInts (os.flatMap oct))), (Str.ofString "octets", .obj (.ref oa)), (Str.ofString "orders", .list (os.map dL)), (Str.ofString "shadows", .list shs), (Str.ofString "pair", .bytes p), (Str.ofString "figures", .list (dInts [f0, f1, f2, f3])), (Str.ofString "net", .list (dInts net))]) s s15 := S16
  refine Run.ofk (c' := Cx.lw c L W V [] [(Str.ofString "octets", .list (dInts (os.flatMap oct))), (Str.ofString "octets", .obj (.ref oa)), (Str.ofString "orders", .list (os.map dL)), (Str.ofString "shadows", .list shs), (Str.ofString "pair", .bytes p), (Str.ofString "figures", .list (dInts [f0, f1, f2, f3])), (Str.ofString "net", .list (dInts net))]) ?_
  -- written
  have hlb : (b6run (os.flatMap oct)).lb = 0 := by obtain ⟨lc, e⟩ := b6_all os hord [] 0; unfold b6run; rw [e]
  refine St.assign S16 (Ev.callFn (Ev.glob rfl (P.ye (by kernel_rfl)) fun _ _ => .obj _) (P.at rfl) rfl (.cons (Ev.callT (Ev.builtin rfl (P.no (by kernel_rfl)) rfl) (.cons (Ev.name rfl) .nil) (Cl.bytes hocts (le_sl (m := 100) (by omega)))) (.cons (Ev.name rfl) .nil))
    (enc_spec P.of (by show c.A.depth + 1 + 2 < _; omega) (byteArr (os.flatMap oct)) p (os.flatMap oct) (bInts_byteArr hocts) (by omega) hocts hlb (pair_size p hp))) (.inl rfl) ?_
  intro s17 S17
  rw [lw_set] at S17 ⊢
  -- text
  have hwr := enc_ints hp hord
  have hL := flat_len (fun o => o.map (cd p)) os (fun o ho => by obtain ⟨_, _, _, _, rfl, _⟩ := hord o ho; rfl)
  have hL255 : ∀ n ∈ os.flatMap (fun o => o.map (cd p)), n ≤ 255 := by
    intro n hn
    obtain ⟨o, _, hm⟩ := List.mem_flatMap.mp hn
    obtain ⟨f, _, rfl⟩ := List.mem_map.mp hm
    exact cd_le p f
  have hwsz : (encB p (os.flatMap oct)).size = 96 := by
    have := congrArg List.length hwr
    rw [KBw.ints_length, List.length_map, hL, hol] at this
    exact this
  generalize encB p (os.flatMap oct) = wr at S17 hwr hwsz ⊢
  refine St.assign (d := .str ⟨(os.flatMap fun o => o.map (cd p)).toArray⟩) S17 ?_ (.inl rfl) ?_
  · rw [← join_chrs, ← empty_str]
    refine Ev.meth (d := .str (Str.ofString "")) (ds := [.list (dStrs (chrs (os.flatMap fun o => o.map (cd p))))]) F.plainAttrs_str F.slot_str_join F.type_str_join Ev.str tyStr (.cons ?_ .nil) (Cl.join (by decide) ?_)
    · refine Ev.eqTo (Ev.comp (ρc := []) (its := (os.flatMap fun o => o.map (cd p)).map fun n : Nat => D.int (n : Int)) (res := (os.flatMap fun o => o.map (cd p)).map fun n : Nat => some (D.str ⟨#[n]⟩))
        ⟨rfl, rfl, by decide, fun C => .inl rfl, fun C => .inl rfl, trivial, rfl⟩ ?_ (All2.map fun n hn C W' => ⟨Ts.nil, fun r hr' => ?_⟩) (le_sl (m := 100) (by rw [List.length_map]; omega))) (congrArg D.list (dStrs_chrs _))
      · rw [show ((os.flatMap fun o => o.map (cd p)).map fun n : Nat => D.int (n : Int)) = dInts (KBw.bInts wr) by rw [hwr]; simp [dInts]]
        exact Src.bytes (Ev.name rfl)
      · cases hr'
        exact Ev.callB (Ev.builtin rfl (P.no (by kernel_rfl)) rfl) (.cons (Ev.name rfl) .nil) (Cl.chr (hL255 n hn))
    · have one : ∀ l : List Nat, ((chrs l).map (·.length)).sum = l.length ∧ (chrs l).length = l.length := by
        intro l
        induction l with
        | nil => exact ⟨rfl, rfl⟩
        | cons n r ih =>
          refine ⟨?_, by simp [chrs]⟩
          have e : ((chrs (n :: r)).map (·.length)).sum = 1 + ((chrs r).map (·.length)).sum := rfl
          rw [e, ih.1, List.length_cons]; omega
      obtain ⟨o1, o2⟩ := one (os.flatMap fun o => o.map (cd p))
      rw [o1, o2]; omega
  intro s18 S18
  rw [lw_set] at S18 ⊢
  -- signs
  refine St.assign (d := .bytes (sgnA p)) S18 (Ev.bn Ev.bytes (Ev.name rfl) (Bn.addBytes (by rw [pair_size p hp]; decide))) (.inr ⟨rfl, rfl⟩) ?_
  intro s19 S19
  rw [lw_set] at S19 ⊢
  -- rising
  obtain ⟨r0, r1, r2, r3, R⟩ := rise_ex hp hrng hnd
  refine St.assign (d := .list (dInts [(r0 : Int), (r1 : Int), (r2 : Int), (r3 : Int)])) S19 (Ev.callB (ds := [.list (dInts [(cd p f0 : Int), (cd p f1 : Int), (cd p f2 : Int), (cd p f3 : Int)])]) (Ev.builtin rfl (P.no (by kernel_rfl)) rfl) (.cons
    (Ev.comp (ρc := [(Str.ofString "signs", .bytes (sgnA p))]) (its := [f0, f1, f2, f3].map fun f => .int f) (res := [f0, f1, f2, f3].map fun f => some (.int (cd p f : Nat)))
      ⟨rfl, rfl, by decide, fun C => .inl rfl, fun C => .inl rfl, ⟨⟨rfl, .inl rfl, fun C => by first | exact .inl rfl | exact .inr rfl, fun C => rfl⟩, trivial⟩, rfl⟩ (Src.list (Ev.name rfl)) (All2.map fun f hf C W' => ⟨Ts.nil, fun r hr' => ?_⟩) (Nat.le_of_ble_eq_true rfl)) .nil)
    (Cl.sorted (Nat.le_of_ble_eq_true rfl) (sorted_is R))) (.inr ⟨rfl, rfl⟩) ?_
  · cases hr'
    have hfr := hrng f hf
    exact Ev.sbs (Ev.name rfl) (Ev.name rfl) (It.bytes hfr.1 (sgn_at hp hfr.1 hfr.2) (by rw [sgn_size hp]; decide) plain_name)
  intro s20 S20
  rw [lw_set] at S20 ⊢
  -- falls
  refine St.assignOwn S20 Fv.nil (.inl rfl) ?_
  intro la s21 hla S21
  rw [lw_own1, lw_set] at S21 ⊢
  obtain ⟨hl0, hlW, hlV⟩ := new_at S20 hla
  have S21 := S21.weak (ρ' := rho0 la p r0 r1 r2 r3 os shs net wr) (.cons rfl (.cons rfl (.cons rfl (.cons rfl (.cons rfl (.cons rfl (.cons rfl (.cons rfl .nil))))))))
  rw [lw_rho] at S21
  subst hos
  refine St.for (fun i => [(la, dInts (fallsTo p net r0 r1 r2 r3 (stg [f0, f1, f2, f3] 4) i))]) (fun _ => rho0 la p r0 r1 r2 r3 (stg [f0, f1, f2, f3] 4) shs net wr) S21 (Src.range1 (n := 24) (Ev.builtin rfl (P.no (by kernel_rfl)) rfl) Ev.int (by decide) (by decide)) (.inl rfl) ?_ ?_
  · intro i d W1 s22 s23 hd T E2
    have hi : i < 24 := by have := (List.getElem?_eq_some_iff.mp hd).1; rw [rng_length] at this; exact this
    rw [rng_get hi] at hd
    cases hd
    rw [show (0 : Int) + (i : Int) = (i : Int) by omega] at T ⊢
    exact turn_spec P (by omega) (by omega) hp hrng R hnet hbits hshs hi T E2
  intro s22 S22
  rw [rng_length] at S22 ⊢
  have hfl := (falls_nil p net r0 r1 r2 r3 (stg [f0, f1, f2, f3] 4) (stg_len _ _ _ _)).trans (falls_iff R hnet)
  have S23 := Sta.freeze (c := Cx.lw c L W V [] []) (V := V) (W := W) (x := Str.ofString "falls") S22 rfl hlV hlW hl0 (fun _ h => nomatch h) (S20.ok.fr.shrink S22.ok.fr) S20.ok.vw
  generalize fallsTo p net r0 r1 r2 r3 (stg [f0, f1, f2, f3] 4) 24 = fl at S22 S23 hfl ⊢
  have S23 : Sta (Cx.lw c L W V [] ((Str.ofString "falls", .list (dInts fl)) :: rho0 la p r0 r1 r2 r3 (stg [f0, f1, f2, f3] 4) shs net wr)) s s22 := S23
  have S23 := S23.weak (ρ' := [(Str.ofString "falls", .list (dInts fl)), (Str.ofString "written", .bytes wr), (Str.ofString "net", .list (dInts net))]) (.cons rfl (.cons rfl (.cons rfl .nil)))
  rw [lw_rho] at S23
  refine Run.ofk (c' := Cx.lw c L W V [] [(Str.ofString "falls", .list (dInts fl)), (Str.ofString "written", .bytes wr), (Str.ofString "net", .list (dInts net))]) ?_
  -- whole
  have hlen96 : ∀ c' : Cx, Cl c' (.builtin "len") [.bytes wr] (.int 96) := fun c' => by
    have q := Cl.lenBytes (c := c') (b := wr) (by omega)
    rw [hwsz] at q; exact q
  refine St.assign (d := .bool true) S23 (Ev.and2 (a := true) (b := true) (Ev.callB (Ev.builtin rfl (P.no (by kernel_rfl)) rfl) (.cons (Ev.name rfl) (.cons (Ev.builtin rfl (P.no (by kernel_rfl)) rfl) .nil)) Cl.isBytes)
    (fun _ => Ev.cm (Ev.callB (Ev.builtin rfl (P.no (by kernel_rfl)) rfl) (.cons (Ev.name rfl) .nil) (hlen96 _)) Ev.int Cm.eqInt)) (.inl rfl) ?_
  intro s24 S24
  rw [lw_set] at S24 ⊢
  have hu : (c.A.deeper (callEnvC (lawFd c.w.params) L 132)).units + 64 < cLine := by
    show c.A.units + 3 + 64 < cLine; omega
  have hfin : (decide (fl = []) == decide (wrun net = [0, 1, 2, 3])) = true := by
    have q : decide (fl = []) = decide (wrun net = [0, 1, 2, 3]) := decide_eq_decide.mpr hfl
    rw [q]; simp
  refine St.retFn hV hW S24 (Ev.and2 (a := true) (b := true) (Ev.name rfl) (fun _ => Ev.eqTo (Ev.cm (a := .bool (decide (fl = []))) (b := .bool (decide (wrun net = [0, 1, 2, 3]))) (Ev.cm (Ev.name rfl) (Ev.list .nil) (Cm.eqInts (ms := []) hu))
    (Ev.cm (a := .list (dInts (wrun net))) (b := .list (dInts [0, 1, 2, 3])) (Ev.callFn (Ev.glob rfl (P.ye (by kernel_rfl)) fun _ _ => .obj _) (P.at rfl) rfl (.cons (Ev.name rfl) .nil) (worst_spec P.of (by show c.A.depth + 1 < _; omega) net hnet)) (Ev.list (.cons Ev.int (.cons Ev.int (.cons Ev.int (.cons Ev.int .nil))))) (Cm.eqInts hu)) Cm.eqBool) (by rw [hfin])))
end Mine

end -- OyBody2

section -- OyBody
open PySem PySem.W PySem.Calls PyProof.Rows
set_option Elab.async false
set_option maxRecDepth 100000
namespace Mine

theorem dInts_erase : ∀ (l : List Int) (j : Nat), dInts (l.eraseIdx j) = (dInts l).eraseIdx j
  | [], _ => rfl
  | _ :: _, 0 => rfl
  | a :: l, j + 1 => by
    show D.int a :: dInts (l.eraseIdx j) = D.int a :: (dInts l).eraseIdx j
    rw [dInts_erase l j]

set_option maxHeartbeats 8000000 in
theorem law_top {c : Cx} (P : Pr c) (kgl : Gl c.K c.mg c.mb c.H) (hh : c.A.handled = none) (hroom : c.A.depth + 5 < recursionLimit) (hunits : c.A.units + 200 < cLine) {s : Shared} (kbase : Ext c.H s.heap) {ns : List Int} (hns : ns.length ≤ 63) {v : Value} (hv : Rd [] s.heap v (.list (dInts ns))) (hW : c.W = []) (E : Value → Shared → Prop) :
    wpAny c.M c.A (runValue (.call (.ref 132) ⟨[v], []⟩)) (fun v s' => Kp s s' ∧ Rd c.W s'.heap v (.bool true)) E s := by
  refine fn_codeT (f := 132) (o := { cls := .type "function", data := .func (lawFd c.w.params) }) (fd := lawFd c.w.params) (body := stmtsOf (lawFd c.w.params)) (names := [Str.ofString "script"]) (vs := [v]) (ds := [.list (dInts ns)]) (d := .bool true) kgl kbase hh (by rw [hW]; exact fun _ h => nomatch h) (by rw [hW]; exact fun _ h => nomatch h) (by rw [hW]; exact .one hv)
    (P.at (lawE c.w.params).2) rfl (by rw [P.K]; kernel_rfl) rfl rfl rfl rfl rfl (BindsTo.of_eq rfl) (by decide) ?_ rfl rfl rfl (by omega) ?_
  · intro n x hx
    have hx' : x = Str.ofString "script" := by simpa using hx
    subst hx'
    exact .inl rfl
  intro L W V s1 hWW hV S E1
  have S : Sta (Cx.lw c L W V [] [(Str.ofString "script", .list (dInts ns))]) s s1 := S
  refine S.run ?_
  -- row
  refine St.assign (d := .list (dInts (ns.take 60))) S (Ev.sliceE (Ev.name rfl) .none (.some Ev.int) .none ((pickD_upto (by decide)).trans (dInts_take ns 60)) (le_sl (m := 100) (by rw [List.length_map]; omega))) (.inr ⟨rfl, rfl⟩) ?_
  intro s2 S2
  rw [lw_set] at S2 ⊢
  have hrow : (ns.take 60).length ≤ 60 := List.length_take_le _ _
  generalize ns.take 60 = row at S2 hrow ⊢
  -- net
  refine St.assign S2 (Ev.comp (ρc := [(Str.ofString "row", .list (dInts row))]) (its := [0, 1, 2, 3, 4, 5, 6, 7].map fun k : Nat => .int (k : Int)) (res := [0, 1, 2, 3, 4, 5, 6, 7].map fun k : Nat => some (.int (netV row k)))
    ⟨rfl, rfl, by decide, fun C => .inl rfl, fun C => .inl rfl, ⟨⟨rfl, .inl rfl, fun C => by first | exact .inl rfl | exact .inr rfl, fun C => rfl⟩, trivial⟩, rfl⟩
    (Src.range1 (n := 8) (Ev.builtin rfl (P.no (by kernel_rfl)) rfl) Ev.int (by decide) (by decide)) (All2.map fun k hk C W' => ⟨Ts.nil, fun r hr' => ?_⟩) (Nat.le_of_ble_eq_true rfl)) (.inr ⟨rfl, rfl⟩) ?_
  · cases hr'
    have hk8 : k < 8 := by simp at hk; omega
    refine Ev.mod (Ev.add (Ev.callB (ds := [.list (dInts (pickI row (some (k : Int)) none (some 8)))]) (Ev.builtin rfl (P.no (by kernel_rfl)) rfl) (.cons (Ev.sliceE (Ev.name rfl) (.some (Ev.name rfl)) .none (.some Ev.int) (pickD_int row _ _ _) (le_sl (m := 100) (by rw [List.length_map]; omega))) .nil) Cl.sum)
      (Ev.sbs (a := .list (dInts tb8)) (Ev.list (.cons Ev.int (.cons Ev.int (.cons Ev.int (.cons Ev.int (.cons Ev.int (.cons Ev.int (.cons Ev.int (.cons Ev.int .nil))))))))) (Ev.name rfl) (It.list (by omega) (at_int (xs := tb8) hk8) (by omega) plain_name))) Ev.int (by decide)
  rw [show ([0, 1, 2, 3, 4, 5, 6, 7].map fun k : Nat => some (D.int (netV row k))).filterMap id = dInts (netOf row) from rfl]
  intro s3 S3
  rw [lw_set] at S3 ⊢
  have hnet := net_ok row
  generalize netOf row = net at S3 hnet ⊢
  -- total
  refine St.assign (d := .int (totOf row)) S3 (Ev.mod (Ev.add (Ev.callB (Ev.builtin rfl (P.no (by kernel_rfl)) rfl) (.cons (Ev.name rfl) .nil) Cl.sum) Ev.int) Ev.int (by decide)) (.inl rfl) ?_
  intro s4 S4
  rw [lw_set] at S4 ⊢
  obtain ⟨ht0, ht1⟩ := tot_ok row
  generalize totOf row = tot at S4 ht0 ht1 ⊢
  -- rest, figures
  refine St.assignOwn S4 (Fv.listRange (n := 64) (Ev.builtin rfl (P.no (by kernel_rfl)) rfl) (Ev.builtin rfl (P.no (by kernel_rfl)) rfl) Ev.int (by decide) (by decide) (by decide)) (.inl rfl) ?_
  intro ra s5 hra S5
  rw [lw_own1, lw_set] at S5 ⊢
  obtain ⟨hr0, hrW, hrV⟩ := new_at S4 hra
  refine St.assignOwn S5 Fv.nil (.inl rfl) ?_
  intro fa s6 hfa S6
  rw [lw_own1, lw_set] at S6 ⊢
  obtain ⟨hf0, hfW, hfV⟩ := new_at S5 hfa
  have hfr5 := S5.ok.fr
  -- left
  refine St.assign (d := .int (tot % 15249024)) S6 (Ev.mod (Ev.name rfl) Ev.int (by decide)) (.inl rfl) ?_
  intro s7 S7
  rw [lw_set] at S7 ⊢
  have hne : ra ≠ fa := fun e => hfV (by rw [← e]; exact List.mem_cons_self)
  have S7 := S7.weak (ρ' := [(Str.ofString "left", .int (tot % 15249024)), (Str.ofString "figures", .obj (.ref fa)), (Str.ofString "rest", .obj (.ref ra)), (Str.ofString "total", .int tot), (Str.ofString "net", .list (dInts net))]) (.cons rfl (.cons rfl (.cons rfl (.cons rfl (.cons rfl .nil)))))
  rw [lw_rho] at S7
  have hl0 : 0 ≤ tot % 15249024 := Int.emod_nonneg _ (by decide)
  -- the four figures
  refine St.for (fun i => [(fa, dInts (picks (tot % 15249024) i).1), (ra, dInts (picks (tot % 15249024) i).2.1)]) (fun i => [(Str.ofString "left", .int (picks (tot % 15249024) i).2.2), (Str.ofString "figures", .obj (.ref fa)), (Str.ofString "rest", .obj (.ref ra)), (Str.ofString "total", .int tot), (Str.ofString "net", .list (dInts net))])
    S7 (its := [0, 1, 2, 3].map fun k : Nat => .int (k : Int)) (Src.range1 (n := 4) (Ev.builtin rfl (P.no (by kernel_rfl)) rfl) Ev.int (by decide) (by decide)) (.inl rfl) ?_ ?_
  · intro i d W1 s8 s9 hd T E2
    have hi : i < 4 := (List.getElem?_eq_some_iff.mp hd).1
    obtain rfl : d = .int (i : Nat) := by
      have := lt4 hi
      rcases this with rfl | rfl | rfl | rfl <;> (simp at hd; rw [← hd]; rfl)
    obtain ⟨h1, h2, h3, _⟩ := picks_ok (tot % 15249024) hl0 i (by omega)
    have e : picks (tot % 15249024) (i + 1) = pick i (picks (tot % 15249024) i) := rfl
    rw [e]
    generalize picks (tot % 15249024) i = st at T h1 h2 h3 ⊢
    obtain ⟨fs, rs, lf⟩ := st
    dsimp only at T h1 h2 h3
    have hj0 : 0 ≤ lf % (64 - (i : Int)) := Int.emod_nonneg _ (by omega)
    have hj1 : lf % (64 - (i : Int)) < 64 - (i : Int) := Int.emod_lt_of_pos _ (by omega)
    have hjl : (lf % (64 - (i : Int))).toNat < rs.length := by omega
    have e1 : pick i (fs, rs, lf) = (fs ++ [rs.getD (lf % (64 - (i : Int))).toNat 0], rs.eraseIdx (lf % (64 - (i : Int))).toNat, lf / (64 - (i : Int))) := rfl
    rw [e1]
    dsimp only
    have hget : (dInts rs)[(lf % (64 - (i : Int))).toNat]? = some (.int (rs.getD (lf % (64 - (i : Int))).toNat 0)) := by
      rw [List.getElem?_map, List.getD_eq_getElem?_getD, List.getElem?_eq_getElem hjl]; rfl
    refine St.appendPop T rfl rfl rfl hne (fun _ h => nomatch h) (fun _ h => nomatch h) (Ev.mod (Ev.name rfl) (Ev.sub Ev.int (Ev.name rfl)) (by omega)) hj0 (by omega) hget (le_sl (m := 10) (by rw [List.length_map]; omega)) (le_sl (m := 100) (by rw [List.length_map]; omega)) ?_
    intro s10 S10
    refine St.assign S10 (Ev.div (Ev.name rfl) (Ev.sub Ev.int (Ev.name rfl)) (by omega) (by omega)) (.inl rfl) ?_
    intro s11 S11
    have q1 : dInts (fs ++ [rs.getD (lf % (64 - (i : Int))).toNat 0]) = dInts fs ++ [.int (rs.getD (lf % (64 - (i : Int))).toNat 0)] := by simp [dInts]
    have q2 : dInts (rs.eraseIdx (lf % (64 - (i : Int))).toNat) = (dInts rs).eraseIdx (lf % (64 - (i : Int))).toNat := dInts_erase _ _
    rw [q1, q2]
    exact St.nil ⟨rfl, S11.weak (.cons rfl (.cons rfl (.cons rfl (.cons rfl (.cons rfl .nil)))))⟩
  intro s8 S8
  obtain ⟨g1, _, _, g4⟩ := picks_ok (tot % 15249024) hl0 4 (Nat.le_refl _)
  have S8 : Sta (Cx.lw c L (fa :: ra :: W) (fa :: ra :: V) [(fa, dInts (picks (tot % 15249024) 4).1), (ra, dInts (picks (tot % 15249024) 4).2.1)] [(Str.ofString "left", .int (picks (tot % 15249024) 4).2.2), (Str.ofString "figures", .obj (.ref fa)), (Str.ofString "rest", .obj (.ref ra)), (Str.ofString "total", .int tot), (Str.ofString "net", .list (dInts net))]) s s8 := S8
  refine Run.ofk (c' := Cx.lw c L (fa :: ra :: W) (fa :: ra :: V) [(fa, dInts (picks (tot % 15249024) 4).1), (ra, dInts (picks (tot % 15249024) 4).2.1)] [(Str.ofString "left", .int (picks (tot % 15249024) 4).2.2), (Str.ofString "figures", .obj (.ref fa)), (Str.ofString "rest", .obj (.ref ra)), (Str.ofString "total", .int tot), (Str.ofString "net", .list (dInts net))]) ?_
  generalize (picks (tot % 15249024) 4).2.1 = rs at S8 g4 ⊢
  generalize (picks (tot % 15249024) 4).2.2 = lf at S8 ⊢
  generalize (picks (tot % 15249024) 4).1 = fs at S8 g1 g4 ⊢
  match fs, g1 with
  | [f0, f1, f2, f3], _ =>
    have hrng : ∀ f ∈ [f0, f1, f2, f3], 0 ≤ f ∧ f < 64 := by
      intro f hf
      have : f ∈ rng 0 64 := g4.mem_iff.mp (List.mem_append_left _ hf)
      unfold rng at this
      obtain ⟨n, hn, rfl⟩ := List.mem_map.mp this
      have := List.mem_range.mp hn
      omega
    have hnd : [f0, f1, f2, f3].Nodup := by
      have h64 : (rng 0 64).Nodup := by decide +kernel
      exact (List.nodup_append.mp (g4.nodup_iff.mpr h64)).1
    have S9 := Sta.freeze (c := Cx.lw c L W V [] []) (V := ra :: V) (W := ra :: W) (x := Str.ofString "figures") S8 rfl hfV hfW hf0 (by intro p hp; rw [List.mem_singleton.mp hp]; exact List.mem_cons_self) (hfr5.shrink S8.ok.fr) S5.ok.vw
    have S10 := (S9.ownSub (own' := []) (fun _ h => nomatch h)).weak (ρ' := [(Str.ofString "figures", .list (dInts [f0, f1, f2, f3])), (Str.ofString "total", .int tot), (Str.ofString "net", .list (dInts net))]) (.cons rfl (.cons rfl (.cons rfl .nil)))
    have S10 : Sta (Cx.lw c L (ra :: W) (ra :: V) [] [(Str.ofString "figures", .list (dInts [f0, f1, f2, f3])), (Str.ofString "total", .int tot), (Str.ofString "net", .list (dInts net))]) s s8 := S10
    refine Run.ofk (c' := Cx.lw c L (ra :: W) (ra :: V) [] [(Str.ofString "figures", .list (dInts [f0, f1, f2, f3])), (Str.ofString "total", .int tot), (Str.ofString "net", .list (dInts net))]) ?_
    exact body2 P hroom hunits hrng hnd hnet ht0 ht1 (by intro b hb; rcases List.mem_cons.mp hb with rfl | hb; exact hr0; exact hV b hb) (fun b hb => List.mem_cons_of_mem _ hb) S10 E1
end Mine

end -- OyBody

section -- OyJoin
open PySem PySem.W PySem.Calls PyProof.Rows
set_option Elab.async false
set_option maxRecDepth 100000
namespace Mine
theorem well_plain {P : Params} {h : Heap} {a : Addr} {vs : List Value} {ns : List Int} (w : Well P h (.ref a) (ofPy (.list (ns.map .int)))) (hl : h.IsList a vs.toArray) : h.PlainList a vs.toArray := by
  have e : ∃ xs, ofPy (.list (ns.map .int)) = WData.list xs := ⟨_, by unfold ofPy; rfl⟩
  obtain ⟨xs, e⟩ := e
  rw [e] at w
  cases w with
  | list ho _ =>
    obtain ⟨o, ho', hc, n, hd⟩ := hl
    rw [ho] at ho'
    cases ho'
    cases hd
    exact ⟨_, ho⟩
end Mine
open Mine

set_option maxHeartbeats 8000000 in
theorem PySem.Challenge.cw_oy0034_01_holds : PySem.Challenge.rw_oy0034_01.Holds := by
  exact oy_hd (by
    k_fill
    intro w s₀ s₁ mg mb G Y fa o pm cd doc dV kV ho hd hcd hD hmg hg args vals as hpre hlay hrd hwl hlo
    have KX := kIn_of Y
    refine Ground.open G ?_
    intro T B D TE TW
    have hfa : fa = 132 := by
      have h1 : mg (Str.ofString "law") = some (.ref fa) := hmg
      have h2 : mg (Str.ofString "law") = some (.ref 132) := mg_of KX T.g (by kernel_rfl)
      rw [h1] at h2
      injection h2 with h2
      injection h2
    subst hfa
    clear hmg hD hcd hd ho B TE TW
    wrow_args hpre hlay hrd hwl hlo
    rename_i ns hs hlay0 hL1 hr1 hl2 w4 w3 a vs w0 hLs ra hWl r0 hI hr hlen htr
    have hpl := well_plain hWl hLs
    have h := law_top (c := { prog := PySem.Challenge.rw_oy0034_01.row.prog, w := w, K := oy_hd.heap_39 w.params, mg := mg, mb := mb, H := s₁.heap, A := callerA, env := callEnvC (lawFd w.params) 0 0, W := [], V := [], own := [], ρ := [] })
      ⟨rfl⟩ ⟨KX, T.g, T.b, T.nolimit, T.builtins⟩ rfl (by show callerA.depth + 5 < recursionLimit; decide) (by show callerA.units + 200 < cLine; decide) (s := s₁) (fun _ _ e => e) (ns := ns) (by omega) (v := .ref a) (.list (fun h => nomatch h) hpl (Rds.ofInts hI)) rfl
    refine wpAny_mono (h _) (fun v s' x => ?_) fun _ _ e => e
    obtain ⟨⟨h', tk, rfl, e⟩, r⟩ := x
    cases r
    refine GoodW.toG ⟨.inl ⟨.bool true, .bool true, [], rfl, ?_, .bool true, ?_, ?_⟩, e, rfl, hg⟩
    · intro cls; rfl
    · exact postW_of rfl (w_eq_bool (w_res rfl) w_lit) rfl
    · exact fun _ => ⟨List.nodup_nil, fun a h => nomatch h⟩)

end -- OyJoin
